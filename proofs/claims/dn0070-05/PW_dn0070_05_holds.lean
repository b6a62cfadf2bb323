import PyProof.Rows.All
import Wide.All
import OpenK.AllK
import Wide.FinOn
import PySem.Challenge.RW_dn0070_05
set_option Elab.async false
set_option linter.all false
set_option genSizeOf false
set_option genSizeOfSpec false
set_option genInjectivity false
open Array (append_empty ext' length_toList toList_append toList_extract toList_push toList_reverse)
open Bool (and_eq_true and_eq_true_iff false_eq_true not_eq_true not_eq_true' or_eq_true)
open Exists (elim)
open Int (le_antisymm le_of_lt le_total max_eq_left max_eq_right natCast_nonneg neg_le_neg neg_mul not_le not_lt ofNat ofNat_le ofNat_lt toNat_natCast toNat_of_nonneg)
open List (Pairwise all_eq_true any_cons any_eq_true any_map append_assoc append_nil contains_iff_mem countP_cons countP_map drop_of_length_le extract filterMap_cons filter_congr filter_cons find?_cons foldl_cons forIn_cons forIn_nil getD_eq_getElem?_getD getElem?_append_left getElem?_append_right getElem?_eq_getElem getElem?_map getElem?_set_ne getElem?_set_self getElem_map getElem_mem idxOf_lt_length_of_mem length_append length_cons length_drop length_filter_le length_map length_nil length_set length_take lookup_cons map_append map_congr_left map_cons map_map map_set mem_append mem_append_left mem_append_right mem_cons mem_cons_of_mem mem_cons_self mem_filter mem_map mem_map_of_mem mem_of_getElem? mem_range mem_reverse mem_singleton mem_toArray nil_append nodup_append nodup_cons nodup_nil not_mem_nil pairwise_append pairwise_cons pairwise_map perm_append_comm replicate reverse_cons set_append_right set_set size_toArray sum_cons take_append_drop toArray zipWith)
open Nat (add_assoc add_le_add add_zero beq ble blt le_of_eq le_refl le_succ le_trans lt_irrefl lt_of_le_of_lt lt_of_lt_of_le lt_or_ge lt_succ_self min_eq_left min_eq_right mul_one ne_of_lt not_lt_zero rec sub_self zero_add zero_le)
open Option (isSome isSome_iff_exists)
section
open PySem
namespace Internal
theorem ltN {a b:Nat}(h:¬b<=a):a<b:=Nat.lt_of_not_le h
theorem aA {a b:Nat}(h:¬b<a):a<=b:=Nat.le_of_not_lt h
theorem ltI {a b:Int}(h:¬b<=a):a<b:=not_le.mp h
theorem bV {a b:Int}(h:¬b<a):a<=b:=not_lt.mp h
theorem aQ {a b:Nat}(h:a=b):a<=b:=le_of_eq h
theorem aW {a b:Nat}(h:a=b):b<=a:=le_of_eq h.symm
theorem jG {a b:Int}(h:a=b):a<=b:=Int.le_of_eq h
theorem mV {a b:Int}(h:a=b):b<=a:=Int.le_of_eq h.symm
theorem cF {a b:Nat}{H:Prop}(h:a≠b)(k:a<b->H)(l:b<a->H):H:=(Nat.lt_or_gt_of_ne h).elim k l
theorem nEI {a b:Int}{H:Prop}(h:a≠b)(k:a<b->H)(l:b<a->H):H:=(Int.lt_or_gt_of_ne h).elim k l
theorem bG {a b:Nat}(h:a<=b)(k:b<=a):a=b:=Nat.le_antisymm h k
theorem jC {a b:Int}(h:a<=b)(k:b<=a):a=b:=le_antisymm h k
theorem oL {a b:Nat}(h:a<=b):(a:Int)<=b:=ofNat_le.mpr h
theorem nA {A B:Prop}(h:¬(A/\B))(a:A):¬B:=λb=>h ⟨a,b⟩
theorem nB {A B:Prop}(h:¬(A/\B))(b:B):¬A:=λa=>h ⟨a,b⟩
theorem eV (a b:Nat):a-b<=a:=Nat.sub_le a b
theorem aR (a b:Nat):a<=a-b+b:=Nat.sub_le_iff_le_add.mp (le_refl _)
theorem aM {a b:Nat}(h:b<=a):a-b+b<=a:=le_of_eq (Nat.sub_add_cancel h)
theorem sbD {a b:Nat}(h:a<=b):a-b<=0:=le_of_eq (Nat.sub_eq_zero_of_le h)
theorem R8 {u n k:Nat}(h:u+100*n+1000<=9900)(hk:k<=1000):u+k<=9900:=le_trans (add_le_add (Nat.le_add_right u _) hk) h
theorem unB {u n j k:Nat}(h:u+100*n+1000<=9900)(hk:j+k<=1000):u+j+100*n+k<=9900:=by
 rw[Nat.add_right_comm u j,add_assoc];exact le_trans (Nat.add_le_add_left hk _) h
theorem qad {a:Nat}(h:a<=1048576):(a:Int)<2^63:=Int.lt_of_le_of_lt (ofNat_le.mpr h) (by decide)
theorem FW {j:Int}{m:Nat}(h:j.toNat<m)(hm:m<=1048576):j<2^63:=Int.lt_of_le_of_lt (Int.self_le_toNat j) (qad (Nat.le_of_lt (lt_of_lt_of_le h hm)))
theorem tiL {j:Int}{m:Nat}(h:j.toNat<m):j<m:=Int.lt_of_le_of_lt (Int.self_le_toNat j) (ofNat_lt.mpr h)
theorem qfZ {j m:Nat}(h:j<m)(hm:m<=1048576):(j:Int)<2^63-1:=Int.lt_of_le_of_lt (ofNat_le.mpr (Nat.le_of_lt (lt_of_lt_of_le h hm))) (by decide)
theorem qgX {L j k:Nat}(q:L+3+2*j=L+2+2*k):False:=by
 have:(1+2*j)%2=2*k%2:=congrArg (·%2) (Nat.add_left_cancel (n:=L+2) (m:=1+2*j) (k:=2*k) (by rw[<-add_assoc];exact q));rw[Nat.add_mul_mod_self_left,Nat.mul_mod_right]at this;exact absurd this (by decide)
theorem rs1 {a:Int}{i:Nat}:a+(i.succ:Nat)=a+1+i:=by rw[Int.add_assoc,Int.add_comm 1];rfl
theorem d7 (a b:Nat):a/b*b<=a:=Nat.div_mul_le_self a b
theorem mU (a:Nat){b:Nat}(h:0<b):a+1<=a/b*b+b:=by
 have:=Nat.lt_mul_div_succ a h;rw[Nat.mul_add,mul_one,Nat.mul_comm]at this;exact this
theorem uB (a:Nat):(0:Int)<=(a:Int):=natCast_nonneg a
noncomputable def dD (l:List Nat):Nat->Nat:=List.rec (λ_=>0) (λx _ ih i=>rec x (λj _=>ih j) i) l
noncomputable def pA (k:Nat)(l:List Nat):Nat->List Nat:=List.rec (λi=>rec [k] (λ_ r=>0::r) i) (λx r ih i=>rec ((x+k)::r) (λj _=>x::ih j) i) l
noncomputable def iG (l:List Nat):List Nat->Nat:=List.rec (λ_=>0) (λx _ ih c=>x*dD c 0+ih c.tail) l
noncomputable def v9 (l:List Nat):List Nat->Bool:=List.rec (λ_=>true) (λx _ ih r=>cond (ble x (dD r 0)) (ih r.tail) false) l
noncomputable abbrev uR:=(List Nat->Nat)×(Nat->List Nat->List Nat)×Nat
noncomputable def qay (ih:Nat->uR)(n:Nat):uR :=
 cond (ble (n%16) 7) (λc=>dD c (n%16),λk l=>pA k l (n%16+1),n/16)
 (cond (beq (n%16) 8) (λ_=>n/16%16,λk l=>pA (k*(n/16%16)) l 0,n/256)
 (cond (beq (n%16) 9) (λ_=>n/16%4096,λk l=>pA (k*(n/16%4096)) l 0,n/65536)
 (cond (beq (n%16) 10) (λc=>(ih (n/16)).1 c+(ih (ih (n/16)).2.2).1 c,λk l=>(ih (ih (n/16)).2.2).2.1 k ((ih (n/16)).2.1 k l),(ih (ih (n/16)).2.2).2.2)
 (cond (beq (n%16) 11) (λc=>n/16%16*(ih (n/256)).1 c,λk l=>(ih (n/256)).2.1 (k*(n/16%16)) l,(ih (n/256)).2.2)
 (cond (beq (n%16) 12) (λc=>(ih (n/256)).1 c*(n/16%16),λk l=>(ih (n/256)).2.1 (k*(n/16%16)) l,(ih (n/256)).2.2)
 (cond (beq (n%16) 13) (λc=>dD c (8+n/16%16),λk l=>pA k l (8+n/16%16+1),n/256)
 (cond (beq (n%16) 14) (λc=>Nat.succ ((ih (n/16)).1 c),λk l=>pA k ((ih (n/16)).2.1 k l) 0,(ih (n/16)).2.2)
 (λ_=>1,λk l=>pA k l 0,n/16))))))))
noncomputable def fP (f:Nat):Nat->uR:=rec (λn=>(λ_=>0,λ_ l=>l,n)) (λ_ ih=>qay ih) f
noncomputable def kO (f:Nat):Nat->List Nat->Prop:=rec (λ_ _=>False) (λ_ ih n c=>cond (beq n 0) (λ_=>False) (λ_=>(fP 30 (n/16)).1 c<=(fP 30 (fP 30 (n/16)).2.2).1 c->ih (fP 30 (fP 30 (n/16)).2.2).2.2 c) ()) f
noncomputable def kW (f:Nat):Nat->List Nat->List Nat->Bool:=rec (λ_ _ _=>false) (λ_ ih n L R=>cond (beq n 0) (cond (blt (dD R 0) (dD L 0)) (v9 R.tail L.tail) false) (ih (fP 30 (fP 30 (n/16)).2.2).2.2 ((fP 30 (n/16)).2.1 (n%16) L) ((fP 30 (fP 30 (n/16)).2.2).2.1 (n%16) R))) f
theorem qau (c:List Nat)(i:Nat):dD c (i+1)=dD c.tail i:=by cases c <;> rfl
theorem qF (k:Nat):∀(l:List Nat) (i:Nat) (c:List Nat),iG (pA k l i) c=iG l c+k*dD c i
 | [],0=>λc=>(add_zero _).trans (zero_add _).symm
 | [],i+1=>λc=>by
  refine(?_:0*dD c 0+iG (pA k [] i) c.tail=0+k*dD c (i+1));rw[qF k [] i c.tail,qau,Nat.zero_mul,zero_add];rfl
 | x::l,0=>λc=>by
  refine(?_:(x+k)*dD c 0+iG l c.tail=x*dD c 0+iG l c.tail+k*dD c 0);rw[Nat.add_mul,Nat.add_right_comm]
 | x::l,i+1=>λc=>by
  refine(?_:x*dD c 0+iG (pA k l i) c.tail=x*dD c 0+iG l c.tail+k*dD c (i+1));rw[qF k l i c.tail,qau,add_assoc]
noncomputable def mJ (p:uR):Prop:=∀(c:List Nat) (k:Nat) (l:List Nat),iG (p.2.1 k l) (1::c)=iG l (1::c)+k*p.1 c
theorem iV {α:Type}{Q:α->Prop}{x y:α}(b:Bool)(hx:Q x)(hy:Q y):Q (cond b x y):=by cases b <;> assumption
theorem qga {ih:Nat->uR}(h:∀n,mJ (ih n))(n:Nat):mJ (qay ih n):=by
  have i1:=h (n/16);have i2:=h (ih (n/16)).2.2;have i3:=h (n/256);refine iV (Q:=mJ) _ (λc k l=>qF k l _ _) (iV (Q:=mJ) _ (λc k l=>?_) (iV (Q:=mJ) _ (λc k l=>?_) (iV (Q:=mJ) _ (λc k l=>?_) (iV (Q:=mJ) _ (λc k l=>?_) (iV (Q:=mJ) _ (λc k l=>?_) (iV (Q:=mJ) _ (λc k l=>qF k l _ _) (iV (Q:=mJ) _ (λc k l=>?_) λc k l=>?_)))))))
  ·exact(qF _ l 0 _).trans (congrArg _ (mul_one _))
  ·exact(qF _ l 0 _).trans (congrArg _ (mul_one _))
  ·refine(i2 c k _).trans ?_;rw[i1 c k l,add_assoc,<-Nat.mul_add]
  ·refine(i3 c _ l).trans ?_;rw[Nat.mul_assoc]
  ·refine(i3 c _ l).trans ?_;rw[Nat.mul_assoc,Nat.mul_comm (n/16%16)]
  ·refine(qF k _ 0 _).trans ?_;rw[i1 c k l,add_assoc];show _=_+k*Nat.succ ((ih (n/16)).1 c);rw[Nat.mul_succ];show _+(_+k*1)=_;rw[mul_one]
  ·exact qF k l 0 _
theorem LR:∀f n,mJ (fP f n)
 | 0=>λn=>λc k l=>rfl
 | f+1=>λn=>qga (LR f) n
theorem qab:∀(r l c:List Nat),v9 r l=true->iG r c<=iG l c
 | []=>λ_ _ _=>zero_le _
 | x::r=>λl c h=>by
  have h:cond (ble x (dD l 0)) (v9 r l.tail) false=true:=h;have h1:ble x (dD l 0)=true:=by
   cases q:ble x (dD l 0)
   ·rw[q]at h;cases h
   ·rfl
  rw[h1]at h;have h5:iG l c=dD l 0*dD c 0+iG l.tail c.tail:=by
   cases l
   ·exact(Nat.zero_mul _).symm
   ·rfl
  rw[h5];exact add_le_add (Nat.mul_le_mul_right _ (Nat.le_of_ble_eq_true h1)) (qab r l.tail c.tail h)
theorem qag (c:List Nat):∀(f n:Nat) (L R:List Nat),kW f n L R=true->iG L (1::c)<=iG R (1::c)->kO f n c
 | 0=>λ_ _ _ h _=>nomatch h
 | f+1=>λn L R h q=>by
  have h:cond (beq n 0) (cond (blt (dD R 0) (dD L 0)) (v9 R.tail L.tail) false) (kW f (fP 30 (fP 30 (n/16)).2.2).2.2 ((fP 30 (n/16)).2.1 (n%16) L) ((fP 30 (fP 30 (n/16)).2.2).2.1 (n%16) R))=true:=h;show cond (beq n 0) (λ_=>False) (λ_=>(fP 30 (n/16)).1 c<=(fP 30 (fP 30 (n/16)).2.2).1 c->kO f (fP 30 (fP 30 (n/16)).2.2).2.2 c) ();cases hb:beq n 0
  ·rw[hb]at h;refine λw=>qag c f _ _ _ h ?_;rw[LR,LR];exact add_le_add q (Nat.mul_le_mul_left _ w)
  ·rw[hb]at h;have h:cond (blt (dD R 0) (dD L 0)) (v9 R.tail L.tail) false=true:=h;have h1:blt (dD R 0) (dD L 0)=true:=by
    cases q:blt (dD R 0) (dD L 0)
    ·rw[q]at h;cases h
    ·rfl
   rw[h1]at h;have h2:=qab R.tail L.tail c h;have h5:∀l:List Nat,iG l (1::c)=dD l 0*1+iG l.tail c:=λl=>by
    cases l
    ·rfl
    ·rfl
   rw[h5,h5,mul_one,mul_one]at q;exact absurd q (Nat.not_le.mpr (Nat.add_lt_add_of_lt_of_le (Nat.le_of_ble_eq_true h1) h2))
theorem lin (c:List Nat)(n:Nat)(e:kW 30 n [] []=true):kO 30 n c:=qag c 30 n [] [] e (le_refl _)
noncomputable def iY (l:List Int):Nat->Int:=List.rec (λ_=>0) (λx _ ih i=>rec x (λj _=>ih j) i) l
noncomputable def rT (k:Int)(l:List Int):Nat->List Int:=List.rec (λi=>rec [k] (λ_ r=>0::r) i) (λx r ih i=>rec ((x+k)::r) (λj _=>x::ih j) i) l
noncomputable def jY (l:List Int):List Int->Int:=List.rec (λ_=>0) (λx _ ih c=>x*iY c 0+ih c.tail) l
noncomputable abbrev uT:=(List Int->Int)×(Int->List Int->List Int)×Nat
noncomputable def qaz (ih:Nat->uT)(n:Nat):uT :=
 cond (ble (n%16) 7) (λc=>iY c (n%16),λk l=>rT k l (n%16+1),n/16)
 (cond (beq (n%16) 8) (λ_=>ofNat (n/16%16),λk l=>rT (k*ofNat (n/16%16)) l 0,n/256)
 (cond (beq (n%16) 9) (λ_=>ofNat (n/16%4096),λk l=>rT (k*ofNat (n/16%4096)) l 0,n/65536)
 (cond (beq (n%16) 10) (λc=>(ih (n/16)).1 c+(ih (ih (n/16)).2.2).1 c,λk l=>(ih (ih (n/16)).2.2).2.1 k ((ih (n/16)).2.1 k l),(ih (ih (n/16)).2.2).2.2)
 (cond (beq (n%16) 11) (λc=>ofNat (n/16%16)*(ih (n/256)).1 c,λk l=>(ih (n/256)).2.1 (k*ofNat (n/16%16)) l,(ih (n/256)).2.2)
 (cond (beq (n%16) 12) (λc=>(ih (n/256)).1 c*ofNat (n/16%16),λk l=>(ih (n/256)).2.1 (k*ofNat (n/16%16)) l,(ih (n/256)).2.2)
 (cond (beq (n%16) 13) (λc=>-(ih (n/16)).1 c,λk l=>(ih (n/16)).2.1 (-k) l,(ih (n/16)).2.2)
 (cond (beq (n%16) 14) (λc=>(ih (n/16)).1 c-(ih (ih (n/16)).2.2).1 c,λk l=>(ih (ih (n/16)).2.2).2.1 (-k) ((ih (n/16)).2.1 k l),(ih (ih (n/16)).2.2).2.2)
 (λ_=>1,λk l=>rT k l 0,n/16))))))))
noncomputable def fQ (f:Nat):Nat->uT:=rec (λn=>(λ_=>0,λ_ l=>l,n)) (λ_ ih=>qaz ih) f
noncomputable def qD (f:Nat):Nat->List Int->Prop:=rec (λ_ _=>False) (λ_ ih n c=>cond (beq n 0) (λ_=>False) (λ_=>(fQ 30 (n/16)).1 c<=(fQ 30 (fQ 30 (n/16)).2.2).1 c->ih (fQ 30 (fQ 30 (n/16)).2.2).2.2 c) ()) f
noncomputable def qG (f:Nat):Nat->List Int->Bool:=rec (λ_ _=>false) (λ_ ih n L=>cond (beq n 0) (decide (0<iY L 0)&&L.tail.all (·==0)) (ih (fQ 30 (fQ 30 (n/16)).2.2).2.2 ((fQ 30 (fQ 30 (n/16)).2.2).2.1 (-ofNat (n%16)) ((fQ 30 (n/16)).2.1 (ofNat (n%16)) L)))) f
theorem qat (c:List Int)(i:Nat):iY c (i+1)=iY c.tail i:=by cases c <;> rfl
theorem tW (k:Int):∀(l:List Int) (i:Nat) (c:List Int),jY (rT k l i) c=jY l c+k*iY c i
 | [],0=>λc=>(Int.add_zero _).trans (Int.zero_add _).symm
 | [],i+1=>λc=>by
  refine(?_:0*iY c 0+jY (rT k [] i) c.tail=0+k*iY c (i+1));rw[tW k [] i c.tail,qat,Int.zero_mul,Int.zero_add];rfl
 | x::l,0=>λc=>by
  refine(?_:(x+k)*iY c 0+jY l c.tail=x*iY c 0+jY l c.tail+k*iY c 0);rw[Int.add_mul,Int.add_right_comm]
 | x::l,i+1=>λc=>by
  refine(?_:x*iY c 0+jY (rT k l i) c.tail=x*iY c 0+jY l c.tail+k*iY c (i+1));rw[tW k l i c.tail,qat,Int.add_assoc]
noncomputable def mK (p:uT):Prop:=∀(c:List Int) (k:Int) (l:List Int),jY (p.2.1 k l) (1::c)=jY l (1::c)+k*p.1 c
theorem qf9 {ih:Nat->uT}(h:∀n,mK (ih n))(n:Nat):mK (qaz ih n):=by
  have i1:=h (n/16);have i2:=h (ih (n/16)).2.2;have i3:=h (n/256);refine iV (Q:=mK) _ (λc k l=>tW k l _ _) (iV (Q:=mK) _ (λc k l=>?_) (iV (Q:=mK) _ (λc k l=>?_) (iV (Q:=mK) _ (λc k l=>?_) (iV (Q:=mK) _ (λc k l=>?_) (iV (Q:=mK) _ (λc k l=>?_) (iV (Q:=mK) _ (λc k l=>?_) (iV (Q:=mK) _ (λc k l=>?_) λc k l=>?_)))))))
  ·exact(tW _ l 0 _).trans (congrArg _ (Int.mul_one _))
  ·exact(tW _ l 0 _).trans (congrArg _ (Int.mul_one _))
  ·refine(i2 c k _).trans ?_;rw[i1 c k l,Int.add_assoc,<-Int.mul_add]
  ·refine(i3 c _ l).trans ?_;rw[Int.mul_assoc]
  ·refine(i3 c _ l).trans ?_;rw[Int.mul_assoc,Int.mul_comm (ofNat (n/16%16))]
  ·refine(i1 c _ l).trans ?_;rw[neg_mul,<-Int.mul_neg]
  ·refine(i2 c (-k) _).trans ?_;rw[i1 c k l,Int.add_assoc,neg_mul,<-Int.sub_eq_add_neg,<-Int.mul_sub]
  ·exact tW k l 0 _
theorem LQ:∀f n,mK (fQ f n)
 | 0=>λn=>λc k l=>by
  show _=_+k*0;rw[Int.mul_zero,Int.add_zero];rfl
 | f+1=>λn=>qf9 (LQ f) n
theorem qaa:∀(l c:List Int),l.all (·==0)=true->jY l c=0
 | []=>λ_ _=>rfl
 | x::l=>λc h=>by
  obtain⟨h1,h2⟩:=and_eq_true_iff.mp h;show x*_+jY l _=0;rw[eq_of_beq h1,qaa l _ h2,Int.zero_mul];rfl
theorem qai (c:List Int):∀(f n:Nat) (L:List Int),qG f n L=true->jY L (1::c)<=0->qD f n c
 | 0=>λ_ _ h _=>nomatch h
 | f+1=>λn L h q=>by
  have h:cond (beq n 0) (decide (0<iY L 0)&&L.tail.all (·==0)) (qG f (fQ 30 (fQ 30 (n/16)).2.2).2.2 ((fQ 30 (fQ 30 (n/16)).2.2).2.1 (-ofNat (n%16)) ((fQ 30 (n/16)).2.1 (ofNat (n%16)) L)))=true:=h;show cond (beq n 0) (λ_=>False) (λ_=>(fQ 30 (n/16)).1 c<=(fQ 30 (fQ 30 (n/16)).2.2).1 c->qD f (fQ 30 (fQ 30 (n/16)).2.2).2.2 c) ();cases hb:beq n 0
  ·rw[hb]at h;refine λw=>qai c f _ _ h ?_;rw[LQ,LQ,neg_mul];have:=Int.mul_le_mul_of_nonneg_left w (natCast_nonneg (n%16));refine Int.le_trans (Int.add_le_add_right (Int.add_le_add q this) _) ?_;rw[Int.zero_add];exact Int.le_of_eq (Int.add_right_neg _)
  ·rw[hb]at h;obtain⟨h1,h2⟩:=and_eq_true_iff.mp h;have h5:jY L (1::c)=iY L 0*1+jY L.tail c:=by
    cases L
    ·rfl
    ·rfl
   rw[h5,qaa _ _ h2,Int.mul_one,Int.add_zero]at q;exact absurd q (not_le.mpr (of_decide_eq_true h1))
theorem tY (c:List Int)(n:Nat)(e:qG 30 n []=true):qD 30 n c:=qai c 30 n [] e (Int.le_refl _)
end Internal
end
section
namespace Internal
theorem jZ (q:Nat)(p:kW 30 q [] []=true):kO 30 q []:=lin [] q p
theorem aK {a:Nat}(q:Nat)(p:kW 30 q [] []=true):kO 30 q [a]:=lin [a] q p
theorem aB {a b:Nat}(q:Nat)(p:kW 30 q [] []=true):kO 30 q [a,b]:=lin [a,b] q p
theorem aC {a b c:Nat}(q:Nat)(p:kW 30 q [] []=true):kO 30 q [a,b,c]:=lin [a,b,c] q p
theorem aL {a b c d:Nat}(q:Nat)(p:kW 30 q [] []=true):kO 30 q [a,b,c,d]:=lin [a,b,c,d] q p
theorem bN {a b c d e:Nat}(q:Nat)(p:kW 30 q [] []=true):kO 30 q [a,b,c,d,e]:=lin [a,b,c,d,e] q p
theorem eU {a b c d e f:Nat}(q:Nat)(p:kW 30 q [] []=true):kO 30 q [a,b,c,d,e,f]:=lin [a,b,c,d,e,f] q p
theorem lV {a b c d e f g:Nat}(q:Nat)(p:kW 30 q [] []=true):kO 30 q [a,b,c,d,e,f,g]:=lin [a,b,c,d,e,f,g] q p
theorem zX {a b c d e f g h:Nat}(q:Nat)(p:kW 30 q [] []=true):kO 30 q [a,b,c,d,e,f,g,h]:=lin [a,b,c,d,e,f,g,h] q p
theorem qah {a b c d e f g h i:Nat}(q:Nat)(p:kW 30 q [] []=true):kO 30 q [a,b,c,d,e,f,g,h,i]:=lin [a,b,c,d,e,f,g,h,i] q p
theorem jN {a:Int}(q:Nat)(p:qG 30 q []=true):qD 30 q [a]:=tY [a] q p
theorem cN {a b:Int}(q:Nat)(p:qG 30 q []=true):qD 30 q [a,b]:=tY [a,b] q p
theorem mX {a b c:Int}(q:Nat)(p:qG 30 q []=true):qD 30 q [a,b,c]:=tY [a,b,c] q p
theorem KC {a b c d:Int}(q:Nat)(p:qG 30 q []=true):qD 30 q [a,b,c,d]:=tY [a,b,c,d] q p
theorem zY {a b c d e f g h:Int}(q:Nat)(p:qG 30 q []=true):qD 30 q [a,b,c,d,e,f,g,h]:=tY [a,b,c,d,e,f,g,h] q p
end Internal
end
section
open PySem PySem.W PyProof.Rows
namespace Internal
theorem bI {p q:Prop}{H:Prop}(h:p/\q)(k:p->q->H):H:=k h.1 h.2
theorem cQ {p q r:Prop}{H:Prop}(h:p/\q/\r)(k:p->q->r->H):H:=k h.1 h.2.1 h.2.2
theorem xZ {p q r s:Prop}{H:Prop}(h:p/\q/\r/\s)(k:p->q->r->s->H):H:=k h.1 h.2.1 h.2.2.1 h.2.2.2
theorem qdB {p q r s t u v:Prop}{H:Prop}(h:p/\q/\r/\s/\t/\u/\v)(k:p->q->r->s->t->u->v->H):H:=k h.1 h.2.1 h.2.2.1 h.2.2.2.1 h.2.2.2.2.1 h.2.2.2.2.2.1 h.2.2.2.2.2.2
theorem dH.{u0}{α:Sort u0}{p:α->Prop}{H:Prop}(h:∃a,p a)(k:∀a,p a->H):H:=elim h λa h=>k a h
theorem aF.{u0}{α:Sort u0}{p q:α->Prop}{H:Prop}(h:∃a,p a/\q a)(k:∀a,p a->q a->H):H:=elim h λa h=>k a h.1 h.2
theorem bM.{u0}{α:Sort u0}{p q r:α->Prop}{H:Prop}(h:∃a,p a/\q a/\r a)(k:∀a,p a->q a->r a->H):H:=elim h λa h=>k a h.1 h.2.1 h.2.2
theorem cL.{u0}{α:Sort u0}{p q r s:α->Prop}{H:Prop}(h:∃a,p a/\q a/\r a/\s a)(k:∀a,p a->q a->r a->s a->H):H:=elim h λa h=>k a h.1 h.2.1 h.2.2.1 h.2.2.2
theorem yC.{u0}{α:Sort u0}{p q r s t:α->Prop}{H:Prop}(h:∃a,p a/\q a/\r a/\s a/\t a)(k:∀a,p a->q a->r a->s a->t a->H):H:=elim h λa h=>k a h.1 h.2.1 h.2.2.1 h.2.2.2.1 h.2.2.2.2
theorem VM.{u0}{α:Sort u0}{p q r s t u:α->Prop}{H:Prop}(h:∃a,p a/\q a/\r a/\s a/\t a/\u a)(k:∀a,p a->q a->r a->s a->t a->u a->H):H:=elim h λa h=>k a h.1 h.2.1 h.2.2.1 h.2.2.2.1 h.2.2.2.2.1 h.2.2.2.2.2
theorem fD.{u0,u1}{α:Sort u0}{β:Sort u1}{p:α->β->Prop}{H:Prop}(h:∃a b,p a b)(k:∀a b,p a b->H):H:=elim h λa h=>elim h λb h=>k a b h
theorem fM.{u0,u1}{α:Sort u0}{β:Sort u1}{p q:α->β->Prop}{H:Prop}(h:∃a b,p a b/\q a b)(k:∀a b,p a b->q a b->H):H:=elim h λa h=>elim h λb h=>k a b h.1 h.2
theorem cY.{u0,u1}{α:Sort u0}{β:Sort u1}{p q r:α->β->Prop}{H:Prop}(h:∃a b,p a b/\q a b/\r a b)(k:∀a b,p a b->q a b->r a b->H):H:=elim h λa h=>elim h λb h=>k a b h.1 h.2.1 h.2.2
theorem c7.{u0,u1}{α:Sort u0}{β:Sort u1}{p q r s:α->β->Prop}{H:Prop}(h:∃a b,p a b/\q a b/\r a b/\s a b)(k:∀a b,p a b->q a b->r a b->s a b->H):H:=elim h λa h=>elim h λb h=>k a b h.1 h.2.1 h.2.2.1 h.2.2.2
theorem eE.{u0,u1}{α:Sort u0}{β:Sort u1}{p q r s t:α->β->Prop}{H:Prop}(h:∃a b,p a b/\q a b/\r a b/\s a b/\t a b)(k:∀a b,p a b->q a b->r a b->s a b->t a b->H):H:=elim h λa h=>elim h λb h=>k a b h.1 h.2.1 h.2.2.1 h.2.2.2.1 h.2.2.2.2
theorem vJ.{u0,u1}{α:Sort u0}{β:Sort u1}{p q r s t u:α->β->Prop}{H:Prop}(h:∃a b,p a b/\q a b/\r a b/\s a b/\t a b/\u a b)(k:∀a b,p a b->q a b->r a b->s a b->t a b->u a b->H):H:=elim h λa h=>elim h λb h=>k a b h.1 h.2.1 h.2.2.1 h.2.2.2.1 h.2.2.2.2.1 h.2.2.2.2.2
theorem qdC.{u0,u1}{α:Sort u0}{β:Sort u1}{p q r s t u v:α->β->Prop}{H:Prop}(h:∃a b,p a b/\q a b/\r a b/\s a b/\t a b/\u a b/\v a b)(k:∀a b,p a b->q a b->r a b->s a b->t a b->u a b->v a b->H):H:=elim h λa h=>elim h λb h=>k a b h.1 h.2.1 h.2.2.1 h.2.2.2.1 h.2.2.2.2.1 h.2.2.2.2.2.1 h.2.2.2.2.2.2
theorem vK.{u0,u1,u2}{α:Sort u0}{β:Sort u1}{γ:Sort u2}{p q:α->β->γ->Prop}{H:Prop}(h:∃a b c,p a b c/\q a b c)(k:∀a b c,p a b c->q a b c->H):H:=elim h λa h=>elim h λb h=>elim h λc h=>k a b c h.1 h.2
theorem fY.{u0,u1,u2}{α:Sort u0}{β:Sort u1}{γ:Sort u2}{p q r:α->β->γ->Prop}{H:Prop}(h:∃a b c,p a b c/\q a b c/\r a b c)(k:∀a b c,p a b c->q a b c->r a b c->H):H:=elim h λa h=>elim h λb h=>elim h λc h=>k a b c h.1 h.2.1 h.2.2
theorem lK.{u0,u1,u2}{α:Sort u0}{β:Sort u1}{γ:Sort u2}{p q r s:α->β->γ->Prop}{H:Prop}(h:∃a b c,p a b c/\q a b c/\r a b c/\s a b c)(k:∀a b c,p a b c->q a b c->r a b c->s a b c->H):H:=elim h λa h=>elim h λb h=>elim h λc h=>k a b c h.1 h.2.1 h.2.2.1 h.2.2.2
theorem iT.{u0,u1,u2}{α:Sort u0}{β:Sort u1}{γ:Sort u2}{p q r s t:α->β->γ->Prop}{H:Prop}(h:∃a b c,p a b c/\q a b c/\r a b c/\s a b c/\t a b c)(k:∀a b c,p a b c->q a b c->r a b c->s a b c->t a b c->H):H:=elim h λa h=>elim h λb h=>elim h λc h=>k a b c h.1 h.2.1 h.2.2.1 h.2.2.2.1 h.2.2.2.2
theorem VN.{u0,u1,u2}{α:Sort u0}{β:Sort u1}{γ:Sort u2}{p q r s t u:α->β->γ->Prop}{H:Prop}(h:∃a b c,p a b c/\q a b c/\r a b c/\s a b c/\t a b c/\u a b c)(k:∀a b c,p a b c->q a b c->r a b c->s a b c->t a b c->u a b c->H):H:=elim h λa h=>elim h λb h=>elim h λc h=>k a b c h.1 h.2.1 h.2.2.1 h.2.2.2.1 h.2.2.2.2.1 h.2.2.2.2.2
theorem VP.{u0,u1,u2,u3}{α:Sort u0}{β:Sort u1}{γ:Sort u2}{δ:Sort u3}{p q:α->β->γ->δ->Prop}{H:Prop}(h:∃a b c d,p a b c d/\q a b c d)(k:∀a b c d,p a b c d->q a b c d->H):H:=elim h λa h=>elim h λb h=>elim h λc h=>elim h λd h=>k a b c d h.1 h.2
theorem rF.{u0,u1,u2,u3}{α:Sort u0}{β:Sort u1}{γ:Sort u2}{δ:Sort u3}{p q r:α->β->γ->δ->Prop}{H:Prop}(h:∃a b c d,p a b c d/\q a b c d/\r a b c d)(k:∀a b c d,p a b c d->q a b c d->r a b c d->H):H:=elim h λa h=>elim h λb h=>elim h λc h=>elim h λd h=>k a b c d h.1 h.2.1 h.2.2
theorem VR.{u0,u1,u2,u3}{α:Sort u0}{β:Sort u1}{γ:Sort u2}{δ:Sort u3}{p q r s:α->β->γ->δ->Prop}{H:Prop}(h:∃a b c d,p a b c d/\q a b c d/\r a b c d/\s a b c d)(k:∀a b c d,p a b c d->q a b c d->r a b c d->s a b c d->H):H:=elim h λa h=>elim h λb h=>elim h λc h=>elim h λd h=>k a b c d h.1 h.2.1 h.2.2.1 h.2.2.2
theorem qdE.{u0,u1,u2,u3}{α:Sort u0}{β:Sort u1}{γ:Sort u2}{δ:Sort u3}{p q r s t:α->β->γ->δ->Prop}{H:Prop}(h:∃a b c d,p a b c d/\q a b c d/\r a b c d/\s a b c d/\t a b c d)(k:∀a b c d,p a b c d->q a b c d->r a b c d->s a b c d->t a b c d->H):H:=elim h λa h=>elim h λb h=>elim h λc h=>elim h λd h=>k a b c d h.1 h.2.1 h.2.2.1 h.2.2.2.1 h.2.2.2.2
theorem qdF.{u0,u1,u2,u3}{α:Sort u0}{β:Sort u1}{γ:Sort u2}{δ:Sort u3}{p q r s t u v:α->β->γ->δ->Prop}{H:Prop}(h:∃a b c d,p a b c d/\q a b c d/\r a b c d/\s a b c d/\t a b c d/\u a b c d/\v a b c d)(k:∀a b c d,p a b c d->q a b c d->r a b c d->s a b c d->t a b c d->u a b c d->v a b c d->H):H:=elim h λa h=>elim h λb h=>elim h λc h=>elim h λd h=>k a b c d h.1 h.2.1 h.2.2.1 h.2.2.2.1 h.2.2.2.2.1 h.2.2.2.2.2.1 h.2.2.2.2.2.2
theorem VV.{u0,u1,u2,u3,u4}{α:Sort u0}{β:Sort u1}{γ:Sort u2}{δ:Sort u3}{ε:Sort u4}{p q:α->β->γ->δ->ε->Prop}{H:Prop}(h:∃a b c d e,p a b c d e/\q a b c d e)(k:∀a b c d e,p a b c d e->q a b c d e->H):H:=elim h λa h=>elim h λb h=>elim h λc h=>elim h λd h=>elim h λe h=>k a b c d e h.1 h.2
theorem W0.{u0,u1,u2,u3,u4}{α:Sort u0}{β:Sort u1}{γ:Sort u2}{δ:Sort u3}{ε:Sort u4}{p q r:α->β->γ->δ->ε->Prop}{H:Prop}(h:∃a b c d e,p a b c d e/\q a b c d e/\r a b c d e)(k:∀a b c d e,p a b c d e->q a b c d e->r a b c d e->H):H:=elim h λa h=>elim h λb h=>elim h λc h=>elim h λd h=>elim h λe h=>k a b c d e h.1 h.2.1 h.2.2
theorem W2.{u0,u1,u2,u3,u4}{α:Sort u0}{β:Sort u1}{γ:Sort u2}{δ:Sort u3}{ε:Sort u4}{p q r s t u v:α->β->γ->δ->ε->Prop}{H:Prop}(h:∃a b c d e,p a b c d e/\q a b c d e/\r a b c d e/\s a b c d e/\t a b c d e/\u a b c d e/\v a b c d e)(k:∀a b c d e,p a b c d e->q a b c d e->r a b c d e->s a b c d e->t a b c d e->u a b c d e->v a b c d e->H):H:=elim h λa h=>elim h λb h=>elim h λc h=>elim h λd h=>elim h λe h=>k a b c d e h.1 h.2.1 h.2.2.1 h.2.2.2.1 h.2.2.2.2.1 h.2.2.2.2.2.1 h.2.2.2.2.2.2
theorem qdG.{u0,u1,u2,u3,u4,u5}{α:Sort u0}{β:Sort u1}{γ:Sort u2}{δ:Sort u3}{ε:Sort u4}{ζ:Sort u5}{p q r:α->β->γ->δ->ε->ζ->Prop}{H:Prop}(h:∃a b c d e f,p a b c d e f/\q a b c d e f/\r a b c d e f)(k:∀a b c d e f,p a b c d e f->q a b c d e f->r a b c d e f->H):H:=elim h λa h=>elim h λb h=>elim h λc h=>elim h λd h=>elim h λe h=>elim h λf h=>k a b c d e f h.1 h.2.1 h.2.2
theorem qdH.{u0,u1,u2,u3,u4,u5}{α:Sort u0}{β:Sort u1}{γ:Sort u2}{δ:Sort u3}{ε:Sort u4}{ζ:Sort u5}{p q r s:α->β->γ->δ->ε->ζ->Prop}{H:Prop}(h:∃a b c d e f,p a b c d e f/\q a b c d e f/\r a b c d e f/\s a b c d e f)(k:∀a b c d e f,p a b c d e f->q a b c d e f->r a b c d e f->s a b c d e f->H):H:=elim h λa h=>elim h λb h=>elim h λc h=>elim h λd h=>elim h λe h=>elim h λf h=>k a b c d e f h.1 h.2.1 h.2.2.1 h.2.2.2
theorem qcX {α β γ:Type}{x:Option (α×β)}{f:α×β->Option γ}{r:γ}{H:Prop}(k:∀a b,x=some (a,b)->f (a,b)=some r->H)(h:x.bind f=some r):H:=by
 cases x with
 | none=>cases h
 | some p=>exact k p.1 p.2 rfl h
theorem qcY {α β γ δ:Type}{x:Option (α×β×γ)}{f:α×β×γ->Option δ}{r:δ}{H:Prop}(k:∀a b c,x=some (a,b,c)->f (a,b,c)=some r->H)(h:x.bind f=some r):H:=by
 cases x with
 | none=>cases h
 | some p=>exact k p.1 p.2.1 p.2.2 rfl h
theorem bind1 {α γ:Type}{x:Option α}{f:α->Option γ}{r:γ}{H:Prop}(k:∀a,x=some a->f a=some r->H)(h:x.bind f=some r):H:=by
 cases x with
 | none=>cases h
 | some p=>exact k p rfl h
theorem qjM {α β:Type}{a c:α}{b d:β}{H:Prop}(k:a=c->b=d->H)(h:some (a,b)=some (c,d)):H:=by
 cases h;exact k rfl rfl
theorem qjN {α β γ:Type}{a c:α}{b d:β}{e f:γ}{H:Prop}(k:a=c->b=d->e=f->H)(h:some (a,b,e)=some (c,d,f)):H:=by
 cases h;exact k rfl rfl rfl
theorem aZ {α β γ:Type}{x:Option (α×β)}{f:α×β->Option γ}{r:γ}{H:Prop}(h:x.bind f=some r)(k:∀a b,x=some (a,b)->f (a,b)=some r->H):H:=qcX k h
theorem iQ {α β γ δ:Type}{x:Option (α×β×γ)}{f:α×β×γ->Option δ}{r:δ}{H:Prop}(h:x.bind f=some r)(k:∀a b c,x=some (a,b,c)->f (a,b,c)=some r->H):H:=qcY k h
theorem aJ {α γ:Type}{x:Option α}{f:α->Option γ}{r:γ}{H:Prop}(h:x.bind f=some r)(k:∀a,x=some a->f a=some r->H):H:=bind1 k h
theorem eG {α β:Type}{a c:α}{b d:β}{H:Prop}(h:some (a,b)=some (c,d))(k:a=c->b=d->H):H:=qjM k h
theorem sm3 {α β γ:Type}{a c:α}{b d:β}{e f:γ}{H:Prop}(h:some (a,b,e)=some (c,d,f))(k:a=c->b=d->e=f->H):H:=qjN k h
theorem bO {α:Type}{r:α}{H:Prop}(e:(none:Option α)=some r):H:=nomatch e
theorem qfu {b:Bool}{P Q:Prop}(h1:b=true->P)(h2:b=false->Q):if b=true then P else Q:=by
 cases b
 ·exact h2 rfl
 ·exact h1 rfl
theorem UT {α:Type}{b:Bool}{x y z:α}(h:b=true)(e:(bif b then x else y)=z):x=z:=by rw[h]at e;exact e
theorem qdm {α:Type}{b:Bool}{x y z:α}(h:b=false)(e:(bif b then x else y)=z):y=z:=by rw[h]at e;exact e
theorem hide {G:Prop}(h:∀H:Prop,(G->H)->H):G:=h G id
end Internal
end
section
namespace Internal
noncomputable def dX:List Int->List Int->Bool
 | [],bs=>!bs.isEmpty
 | a::as,bs=>match bs with
  | []=>false
  | b::bs=>bif a==b then dX as bs else decide (a<b)
theorem BK {a b:Int}{as bs:List Int}:dX (a::as) (b::bs)=true↔a<b\/(a=b/\dX as bs=true):=by
 show (bif a==b then dX as bs else decide (a<b))=true↔_;by_cases h:a=b
 ·subst h;rw[beq_self_eq_true];exact⟨λe=>.inr ⟨rfl,e⟩,λe=>e.elim (λq=>absurd q (Int.lt_irrefl _)) λq=>q.2⟩
 ·rw[beq_eq_false_iff_ne.mpr h];exact⟨λe=>.inl (of_decide_eq_true e),λe=>e.elim decide_eq_true λq=>absurd q.1 h⟩
theorem M3:∀a:List Int,¬dX a a=true
 | []=>Bool.false_ne_true
 | a::as=>λh=>(BK.mp h).elim (Int.lt_irrefl _) λq=>M3 as q.2
theorem tZ:∀{a b c:List Int},dX a b=true->dX b c=true->dX a c=true
 | [],_,[]=>λh1 h2=>by cases ‹List Int› <;> cases h2
 | [],_,_::_=>λ_ _=>rfl
 | _::_,[],_=>λh1 _=>by cases h1
 | _::_,_::_,[]=>λ_ h2=>by cases h2
 | a::as,b::bs,c::cs=>λh1 h2=>by
  rw[BK]at *;rcases h1 with h1|⟨rfl,h1⟩
  ·rcases h2 with h2|⟨rfl,h2⟩
   ·exact .inl (Int.lt_trans h1 h2)
   ·exact .inl h1
  ·rcases h2 with h2|⟨rfl,h2⟩
   ·exact .inl h2
   ·exact .inr ⟨rfl,tZ h1 h2⟩
theorem BL:∀a b:List Int,dX a b=true\/a=b\/dX b a=true
 | [],[]=>.inr (.inl rfl)
 | [],_::_=>.inl rfl
 | _::_,[]=>.inr (.inr rfl)
 | a::as,b::bs=>by
  rw[BK,BK];rcases Int.lt_trichotomy a b with h|rfl|h
  ·exact .inl (.inl h)
  ·rcases BL as bs with q|rfl|q
   ·exact .inl (.inr ⟨rfl,q⟩)
   ·exact .inr (.inl rfl)
   ·exact .inr (.inr (.inr ⟨rfl,q⟩))
  ·exact .inr (.inr (.inl h))
noncomputable def gR (a b:List Int):Bool:=!dX b a
noncomputable def tV (i:List Int):List (List Int)->List (List Int)
 | []=>[i]
 | j::r=>bif gR i j then i::j::r else j::tV i r
noncomputable def pF:List (List Int)->List (List Int)
 | []=>[]
 | i::r=>tV i (pF r)
theorem tX {a b:List Int}:gR a b=true↔¬dX b a=true:=by
 unfold gR;rw[not_eq_true',not_eq_true]
theorem qfL {a b c:List Int}(h1:gR a b=true)(h2:gR b c=true):gR a c=true:=by
 rw[tX]at *;intro h;rcases BL a b with q|rfl|q
 ·exact h2 (tZ h q)
 ·exact h2 h
 ·exact h1 q
theorem qfJ {a b:List Int}(h1:gR a b=true)(h2:gR b a=true):a=b:=by
 rw[tX]at *;exact((BL a b).resolve_left h2).resolve_right h1
theorem qfK {a b:List Int}(h:¬gR a b=true):gR b a=true:=by
 rw[tX]at h ⊢;intro q;exact h λz=>M3 _ (tZ q z)
theorem JT (i:List Int):∀l,(tV i l).Perm (i::l)
 | []=>List.Perm.refl _
 | j::r=>by
  unfold tV;cases gR i j
  ·exact((JT i r).cons j).trans (List.Perm.swap ..)
  ·exact List.Perm.refl _
theorem QL:∀l,(pF l).Perm l
 | []=>List.Perm.refl _
 | i::r=>(JT i _).trans ((QL r).cons i)
theorem ZC (i:List Int):∀{l:List (List Int)},l.Pairwise (λa b=>gR a b=true)->(tV i l).Pairwise λa b=>gR a b=true
 | []=>λ_=>List.pairwise_singleton _ _
 | j::r=>λh=>by
  obtain⟨h1,h2⟩:=pairwise_cons.mp h;unfold tV;cases q:gR i j
  ·refine pairwise_cons.mpr ⟨λx hx=>?_,ZC i h2⟩;rcases mem_cons.mp ((JT i r).mem_iff.mp hx) with rfl|hx
   ·exact qfK (by rw[q];exact Bool.false_ne_true)
   ·exact h1 x hx
  ·refine pairwise_cons.mpr ⟨λx hx=>?_,h⟩;rcases mem_cons.mp hx with rfl|hx
   ·exact q
   ·exact qfL q (h1 x hx)
theorem QM:∀l,(pF l).Pairwise λa b=>gR a b=true
 | []=>Pairwise.nil
 | i::r=>ZC i (QM r)
theorem qbG {l l':List (List Int)}(h:l.Perm l')(hs:l'.Pairwise λa b=>gR a b=true):pF l=l' :=
 List.Perm.eq_of_pairwise (λa b _ _ h1 h2=>qfJ h1 h2) (QM l) hs ((QL l).trans h)
noncomputable def rank (R:List (List Int))(r:List Int):Int:=(R.countP λx=>dX x r:Nat)
theorem qif {R:List (List Int)}{a b:List Int}(h:gR a b=true):rank R a<=rank R b:=ofNat_le.mpr (List.countP_mono_left λx _ hx=>by
 rw[tX]at h;rcases BL x b with q|rfl|q
 ·exact q
 ·exact absurd hx h
 ·exact absurd (tZ q hx) h)
theorem qbc {R:List (List Int)}{a b:List Int}(ha:a∈R)(h:dX a b=true):rank R a<rank R b:=by
 refine ofNat_lt.mpr ?_
 induction R with
 | nil=>cases ha
 | cons c R ih =>
  have hm:R.countP (λx=>dX x a)<=R.countP λx=>dX x b:=List.countP_mono_left λx _ hx=>tZ hx h;rw[countP_cons,countP_cons];rcases mem_cons.mp ha with rfl|ha
  ·rw[if_pos h,if_neg (M3 _)];exact Nat.lt_succ_of_le hm
  ·have:=ih ha;by_cases q:dX c a=true
   ·rw[if_pos q,if_pos (tZ q h)];exact Nat.succ_lt_succ this
   ·rw[if_neg q];exact lt_of_lt_of_le this (Nat.le_add_right _ _)
theorem qie {R:List (List Int)}{a b:List Int}(ha:a∈R):decide (rank R a<rank R b)=dX a b:=by
 cases h:dX a b
 ·refine decide_eq_false λq=>?_;have:rank R b<=rank R a:=qif (by rw[tX,h];exact Bool.false_ne_true);exact absurd q (not_lt.mpr this)
 ·exact decide_eq_true (qbc ha h)
end Internal
end
section
open PySem PySem.W PyProof.Rows
namespace Internal
inductive D where
 | none
 | bool (b:Bool)
 | int (i:Int)
 | list (l:List D)
 | tup (l:List D)
 | rng (a b:Int)
 | ref (k:Nat)
 | fn (f:Nat)
inductive O where
 | dead
 | list (l:List D)
 | llist (l:List D)
 | dict (es:List (Int×D))
 | ldict (es:List (Int×D))
 | set (es:List Int)
 | inst (c:Nat) (attrs:List (Nat×D))
 | iter (k:Nat) (i:Nat)
 | next (k:Nat)
noncomputable abbrev Store:=List O
noncomputable abbrev Loc:=List (Option D)
noncomputable abbrev w6:=Nat->List D->Store->Option (D×Store)
inductive B where
 | abs|len|range|sorted|sum|min|divmod|list|tuple|bool|iter|set
inductive BM where
 | append|extend|index|count|pop|clear|get|add
mutual
inductive E where
 | var (i:Nat)
 | glob (g:Nat)
 | none
 | bool (b:Bool)
 | int (i:Int)
 | bin (op:Operator) (a b:E)
 | neg (a:E)
 | not (a:E)
 | cmp (op:CmpOp) (a b:E)
 | and (a b:E)
 | or (a b:E)
 | ite (c a b:E)
 | list (m:Bool) (es:List E)
 | tup (es:List E)
 | dict0
 | call (f:Nat) (args:List E)
 | new (c:Nat) (args:List E)
 | bi (b:B) (args:List E)
 | callv (f:E) (args:List E)
 | umeth (o:E) (f:Nat) (args:List E)
 | bmeth (o:E) (m:BM) (args:List E)
 | star (e:E)
 | attr (o:E) (a:Nat)
 | nextOf (o:E)
 | idx (o i:E)
 | slice (o:E) (lo hi:Option E)
 | comp (m:Bool) (elt:E) (gens:List G)
inductive It where
 | e (e:E)
 | zip (a b:E)
 | vals (o:E)
inductive G where
 | mk (ts:List Nat) (wV:Bool) (it:It) (ifs:List E)
end
inductive T where
 | name (i:Nat)
 | tup (ts:List T)
 | sub (o i:E)
 | attr (o:E) (a:Nat)
inductive S where
 | expr (e:E)
 | assign (t:T) (e:E)
 | assign2 (t u:T) (e:E)
 | aug (o:E) (a:Nat) (op:Operator) (e:E)
 | ret (e:E)
 | ife (c:E) (a b:List S)
 | ifNone (x:Nat) (e:E) (a:List S)
 | whil (c:E) (body orelse:List S)
 | fore (t:T) (it:E) (body:List S)
 | brk
 | cont
 | pass
 | del (o i:E)
 | tryPlain (body:List S)
 | tryNext (x:Nat) (f:E) (h:List S)
 | bad
 | freeze (x:Nat)
inductive Fl where
 | next|brk|cont
 | ret (d:D)
structure Fn where
 np:Nat
 dn:Nat
 star:Bool
 ns:Nat
 body:List S
noncomputable def gU (a b:Int):List D:=(List.range (b-a).toNat).map λ(i:Nat)=>.int (a+i)
noncomputable def xM:D->Option Unit
 | .none=>some ()
 | _=>.none
noncomputable def asB:D->Option Bool
 | .bool b=>some b
 | _=>.none
noncomputable def dZ:D->Option Int
 | .int i=>some i
 | _=>.none
noncomputable def qZ:D->Option (List D)
 | .list l=>some l
 | _=>.none
noncomputable def uZ:D->Option (List D)
 | .tup l=>some l
 | _=>.none
noncomputable def jE:D->Option Nat
 | .ref k=>some k
 | _=>.none
noncomputable def RW:D->Option Nat
 | .fn f=>some f
 | _=>.none
noncomputable def asTree:D->Option (List D)
 | .list l=>some l
 | .tup l=>some l
 | _=>.none
noncomputable def qM:O->Option (List D)
 | .list l=>some l
 | _=>.none
noncomputable def N8:O->Option (List (Int×D))
 | .dict es=>some es
 | _=>.none
noncomputable def uF:O->Option (List Int)
 | .set es=>some es
 | _=>.none
noncomputable def j5:O->Option (List D)
 | .list l=>some l
 | .llist l=>some l
 | _=>.none
noncomputable def CJ:O->Option (List (Int×D))
 | .dict es=>some es
 | .ldict es=>some es
 | _=>.none
noncomputable def wI:O->Option (Nat×List (Nat×D))
 | .inst c as=>some (c,as)
 | _=>.none
noncomputable def NB:O->Option (Nat×Nat)
 | .iter k i=>some (k,i)
 | _=>.none
noncomputable def qaR:O->Option Nat
 | .next k=>some k
 | _=>.none
noncomputable def arg1 {α:Type}(args:List D)(f:D->Option α):Option α:=match args with
 | [d]=>f d
 | _=>.none
noncomputable def arg2 {α:Type}(args:List D)(f:D->D->Option α):Option α:=match args with
 | [d,e]=>f d e
 | _=>.none
noncomputable def arg0 {α:Type}(args:List D)(f:Option α):Option α:=match args with
 | []=>f
 | _=>.none
noncomputable def asList (σ:Store):D->Option (List D)
 | .list l=>some l
 | .ref k=>(σ[k]?).bind j5
 | _=>.none
noncomputable def xK (σ:Store):D->Option (List (Int×D))
 | .ref k=>(σ[k]?).bind CJ
 | _=>.none
noncomputable def S8 (σ:Store):D->Option (List D)
 | .tup l=>some l
 | .rng a b=>some (gU a b)
 | .list l=>some l
 | .ref k=>(σ[k]?).bind j5
 | _=>.none
noncomputable def oW (σ:Store):D->Option (List D)
 | .tup l=>some l
 | .list l=>some l
 | .ref k=>(σ[k]?).bind j5
 | _=>.none
noncomputable def truth (σ:Store):D->Option Bool
 | .none=>some false
 | .bool b=>some b
 | .int i=>some (i != 0)
 | .tup l=>some (!l.isEmpty)
 | .list l=>some (!l.isEmpty)
 | .ref k=>((σ[k]?).bind j5).bind λl=>some (!l.isEmpty)
 | _=>.none
noncomputable def lim:Nat:=2^20
noncomputable def nC (a b:Int):Bool:=decide (0<=a)&&decide (a<=1048576)&&decide (0<=b)&&decide (b<=1048576)
noncomputable def pB (l:List D):Option D:=if l.length<=lim then some (.list l) else .none
noncomputable def gO (f:D->D->Option Bool):List D->List D->Option Bool
 | [],_=>some true
 | a::as,bs=>match bs with
  | []=>some true
  | b::bs=>(f a b).bind λx=>(gO f as bs).bind λy=>some (x&&y)
noncomputable def bY:Nat->D->D->Option Bool
 | 0,_,_=>.none
 | n+1,a,b=>match a with
  | .none=>(xM b).bind λ_=>some true
  | .bool x=>(asB b).bind λy=>some (x==y)
  | .int x=>(dZ b).bind λy=>some (x==y)
  | .list l=>(qZ b).bind λl'=>if l.length==l'.length then gO (bY n) l l' else some false
  | .tup l=>(uZ b).bind λl'=>if l.length==l'.length then gO (bY n) l l' else .none
  | _=>.none
noncomputable def deep:Nat:=8
noncomputable def top (σ:Store)(d:D):D:=match asList σ d with
 | some l=>.list l
 | .none=>d
noncomputable def eqs (d:D):List D->Option (List Bool)
 | []=>some []
 | x::xs=>(bY deep x d).bind λb=>(eqs d xs).bind λbs=>some (b::bs)
noncomputable def pZ (d:D)(l:List D):Option Bool:=(eqs d l).bind λbs=>some (bs.any id)
noncomputable def zW (d:D)(l:List D):Option Nat:=(eqs d l).bind λbs=>bs.findIdx? id
noncomputable def UV (d:D)(l:List D):Option Nat:=(eqs d l).bind λbs=>some (bs.countP id)
noncomputable def iM:List D->Option (List Int)
 | []=>some []
 | d::r=>(dZ d).bind λi=>(iM r).bind λis=>some (i::is)
noncomputable def fC (i:Int)(es:List (Int×D)):Bool:=es.any λe=>e.1==i
noncomputable def zU (x:D):O->Option Bool
 | .list l=>pZ x l
 | .llist l=>pZ x l
 | .dict es=>(dZ x).bind λi=>some (fC i es)
 | .ldict es=>(dZ x).bind λi=>some (fC i es)
 | .set es=>(dZ x).bind λi=>some (es.contains i)
 | _=>.none
noncomputable def isIn (σ:Store)(x:D):D->Option Bool
 | .list l=>pZ x l
 | .tup l=>pZ x l
 | .ref k=>(σ[k]?).bind (zU x)
 | _=>.none
noncomputable def JZ:D->Option Bool
 | .none=>some true
 | .ref _=>some false
 | .list _=>some false
 | _=>.none
noncomputable def jX {α:Type}(a b:D)(f:Int->Int->Option α):Option α:=(dZ a).bind λi=>(dZ b).bind λj=>f i j
noncomputable def cmpOp (σ:Store)(op:CmpOp)(a b:D):Option Bool :=
 match op with
 | .Lt=>jX a b λi j=>some (decide (i<j))
 | .LtE=>jX a b λi j=>some (decide (i<=j))
 | .Gt=>jX a b λi j=>some (decide (j<i))
 | .GtE=>jX a b λi j=>some (decide (j<=i))
 | .Eq=>bY deep (top σ a) (top σ b)
 | .NotEq=>(bY deep (top σ a) (top σ b)).bind λr=>some (!r)
 | .In=>isIn σ a b
 | .NotIn=>(isIn σ a b).bind λr=>some (!r)
 | .Is=>(xM b).bind λ_=>JZ a
 | .IsNot=>(xM b).bind λ_=>(JZ a).bind λr=>some (!r)
noncomputable def small (b:Int):Bool:=decide (b.natAbs<4611686018427387904)
noncomputable def binOp (op:Operator)(a b:D):Option D :=
 match op with
 | .Add=>match a with
  | .int i=>(dZ b).bind λj=>some (.int (i+j))
  | .list l=>(qZ b).bind λl'=>pB (l++l')
  | _=>.none
 | .Sub=>jX a b λi j=>some (.int (i-j))
 | .Mult=>jX a b λi j=>if small i||small j then some (.int (i*j)) else .none
 | .FloorDiv=>jX a b λi j=>if j≠0/\small j=true then some (.int (i.fdiv j)) else .none
 | .Mod=>jX a b λi j=>if j=0 then .none else some (.int (i.fmod j))
 | .BitXor=>jX a b λi j=>some (.int (Builtin.bitXor i j))
 | _=>.none
noncomputable def o6 (i:Int):List Int->List Int
 | []=>[i]
 | j::r=>if i<=j then i::j::r else j::o6 i r
noncomputable def sortI:List Int->List Int
 | []=>[]
 | i::r=>o6 i (sortI r)
noncomputable def uY:List D->Option (List (List Int))
 | []=>some []
 | d::r=>(qZ d).bind λl=>(iM l).bind λis=>(uY r).bind λrs=>some (is::rs)
noncomputable def aD (l:List Int):D:=.list (l.map .int)
noncomputable def qP (l:List D):Option (List D):=match iM l with
 | some is=>some ((sortI is).map .int)
 | .none=>(uY l).bind λrs=>some ((pF rs).map aD)
noncomputable def qJ:Int->List Int->Int
 | i,[]=>i
 | i,j::r=>qJ (if j<i then j else i) r
noncomputable def qaF:List Int->Option Int
 | []=>.none
 | i::r=>some (qJ i r)
noncomputable def PQ:List D->Option (Int×Int)
 | []=>.none
 | d::r=>(dZ d).bind λi=>match r with
  | []=>some (0,i)
  | e::r=>(dZ e).bind λj=>match r with
   | []=>some (i,j)
   | _=>.none
noncomputable def mQ (b:B)(σ:Store)(args:List D):Option (D×Store) :=
 match b with
 | .abs=>arg1 args λd=>(dZ d).bind λi=>some (.int (if i<0 then -i else i),σ)
 | .len=>arg1 args λd=>(oW σ d).bind λl=>some (.int l.length,σ)
 | .range=>(PQ args).bind λp=>if nC p.1 p.2=true then some (.rng p.1 p.2,σ) else .none
 | .sorted=>arg1 args λd=>(oW σ d).bind λl=>if l.length<1000 then(qP l).bind λl'=>some (.list l',σ) else .none
 | .sum=>arg1 args λd=>(asList σ d).bind λl=>(iM l).bind λis=>some (.int is.sum,σ)
 | .min=>arg1 args λd=>(asList σ d).bind λl=>(iM l).bind λis=>(qaF is).bind λi=>some (.int i,σ)
 | .divmod=>arg2 args λd e=>jX d e λa b=>if b≠0/\small b=true then some (.tup [.int (a.fdiv b),.int (a.fmod b)],σ) else .none
 | .list=>arg1 args λd=>(S8 σ d).bind λl=>some (.ref σ.length,σ++[.list l])
 | .tuple=>arg1 args λd=>(asList σ d).bind λl=>some (.tup l,σ)
 | .bool=>arg1 args λd=>(asList σ d).bind λl=>some (.bool (!l.isEmpty),σ)
 | .iter=>arg1 args λd=>(jE d).bind λk=>((σ[k]?).bind qM).bind λ_=>some (.ref σ.length,σ++[.iter k 0])
 | .set=>arg0 args (some (.ref σ.length,σ++[.set []]))
noncomputable def dictGet (i:Int)(es:List (Int×D)):Option D:=es.lookup i
noncomputable def dictPut (i:Int)(d:D)(es:List (Int×D)):List (Int×D):=if es.any (λe=>e.1==i) then es.map (λe=>if e.1==i then(i,d) else e) else es++[(i,d)]
noncomputable def dictDel (i:Int)(es:List (Int×D)):List (Int×D):=es.filter λe=>!(e.1==i)
noncomputable def lX (σ:Store)(o:D)(f:List D->Option (D×List D)):Option (D×Store):=(jE o).bind λk=>((σ[k]?).bind qM).bind λl=>(f l).bind λp=>some (p.1,σ.set k (.list p.2))
noncomputable def bmeth (m:BM)(σ:Store)(o:D)(args:List D):Option (D×Store) :=
 match m with
 | .append=>arg1 args λd=>lX σ o λl=>if l.length<lim then some (.none,l++[d]) else .none
 | .extend=>arg1 args λd=>(asTree d).bind λl'=>lX σ o λl=>if l.length+l'.length<=lim then some (.none,l++l') else .none
 | .index=>arg1 args λd=>(asList σ o).bind λl=>(zW d l).bind λn=>some (.int n,σ)
 | .count=>arg1 args λd=>(asList σ o).bind λl=>(UV d l).bind λn=>some (.int n,σ)
 | .pop=>match args with
  | []=>lX σ o λl=>(l.getLast?).bind λd=>some (d,l.dropLast)
  | a::r=>arg0 r ((dZ a).bind λi=>lX σ o λl=>if 0<=i then(l[i.toNat]?).bind λd=>some (d,l.eraseIdx i.toNat) else .none)
 | .clear=>arg0 args (lX σ o λ_=>some (.none,[]))
 | .get=>arg1 args λd=>(dZ d).bind λi=>(xK σ o).bind λes=>some ((dictGet i es).getD .none,σ)
 | .add=>arg1 args λd=>(dZ d).bind λi=>(jE o).bind λk=>((σ[k]?).bind uF).bind λes=>if es.length<1000 then some (.none,σ.set k (.set (if es.contains i then es else es++[i]))) else .none
noncomputable def gQ (l:List D)(i:Int)(m:Bool):Option D:=if 0<=i then l[i.toNat]? else if i=-1/\m=true then l.getLast? else .none
noncomputable def K7 (i:Int):O->Option D
 | .dict es=>dictGet i es
 | .ldict es=>dictGet i es
 | .list l=>gQ l i true
 | .llist l=>gQ l i true
 | _=>.none
noncomputable def getItem (σ:Store)(o i:D):Option D:=(dZ i).bind λi=>match o with
 | .tup l=>gQ l i false
 | .list l=>gQ l i false
 | .ref k=>(σ[k]?).bind (K7 i)
 | _=>.none
noncomputable def CW (i:Int)(v:D):O->Option O
 | .dict es=>if es.length<lim then some (.dict (dictPut i v es)) else .none
 | .list l=>if 0<=i/\i.toNat<l.length then some (.list (l.set i.toNat v)) else .none
 | _=>.none
noncomputable def setItem (σ:Store)(o i v:D):Option Store:=(jE o).bind λk=>(dZ i).bind λi=>(σ[k]?).bind λx=>(CW i v x).bind λy=>some (σ.set k y)
noncomputable def getAttr (σ:Store)(o:D)(a:Nat):Option D:=(jE o).bind λk=>((σ[k]?).bind wI).bind λp=>p.2.lookup a
noncomputable def fG (a:Nat)(d:D):List (Nat×D)->List (Nat×D)
 | []=>[(a,d)]
 | (b,x)::r=>if b==a then(a,d)::r else(b,x)::fG a d r
noncomputable def attrOk (c a n:Nat):Bool:=(decide (c=0)&&(decide (a<4)&&decide (n<8)))||(decide (c=1)&&(decide (4<=a)&&decide (a<7)))
noncomputable def setAttr (σ:Store)(o:D)(a:Nat)(v:D):Option Store:=(jE o).bind λk=>((σ[k]?).bind wI).bind λp=>if attrOk p.1 a p.2.length=true then some (σ.set k (.inst p.1 (fG a v p.2))) else .none
noncomputable def qbB (l:List D)(lo hi:Option D):Option (List D):=match lo with
 | .none=>hi.bind λd=>(dZ d).bind λi=>if 0<=i then some (l.take i.toNat) else .none
 | some d=>match hi with
  | .none=>(dZ d).bind λi=>if 0<=i then some (l.drop i.toNat) else .none
  | some _=>.none
noncomputable def qcw:List D->List D->List D
 | [],_=>[]
 | a::as,bs=>match bs with
  | []=>[]
  | b::bs=>.tup [a,b]::qcw as bs
noncomputable def two {α β:Type}(l:List α)(f:α->α->Option β):Option β:=match l with
 | [a,b]=>f a b
 | _=>.none
noncomputable def three {α β:Type}(l:List α)(f:α->α->α->Option β):Option β:=match l with
 | [a,b,c]=>f a b c
 | _=>.none
noncomputable def bindG (ρ:Loc)(ts:List Nat)(wV:Bool)(d:D):Option Loc :=
 match wV with
 | true=>two ts λt u=>(uZ d).bind λl=>two l λx y=>some ((ρ.set t (some x)).set u (some y))
 | false=>match ts with
  | []=>.none
  | t::r=>match r with
   | []=>some (ρ.set t (some d))
   | _=>.none
noncomputable def wL (m:BM)(σ:Store)(x:D):Bool:=match m with
 | .get=>(xK σ x).isSome
 | .add=>((jE x).bind λk=>(σ[k]?).bind uF).isSome
 | _=>(asList σ x).isSome
noncomputable def o7 (σ:Store)(x:D):Bool:=((jE x).bind λk=>((σ[k]?).bind wI).bind λp=>if p.1=0 then some () else .none).isSome
structure aU where
 globs:Nat->Option D
 F:w6
noncomputable def KR:O->Option (List D×O)
 | .list l=>some (l,.llist l)
 | .dict es=>some (es.map λe=>.int e.1,.ldict es)
 | _=>.none
noncomputable def G4:O->Option O
 | .llist l=>some (.list l)
 | .ldict es=>some (.dict es)
 | _=>.none
noncomputable def lock (σ:Store)(k:Nat):Option (List D×Store):=((σ[k]?).bind KR).bind λp=>some (p.1,σ.set k p.2)
noncomputable def unlock (σ:Store)(k:Nat):Option Store:=((σ[k]?).bind G4).bind λo=>some (σ.set k o)
noncomputable def G5 (σ:Store):Option Nat->Option Store
 | .none=>some σ
 | some k=>unlock σ k
noncomputable def j6 (f:D->Store->Option (List D×Store)):List D->Store->Option (List D×Store)
 | [],σ=>some ([],σ)
 | d::ds,σ=>(f d σ).bind λp=>(j6 f ds p.2).bind λq=>some (p.1++q.1,q.2)
noncomputable def zF (ρ:Loc)(i:Nat):Option D:=(ρ[i]?).bind id
noncomputable def treeOf:D->Option (List D)
 | .list l=>some l
 | .tup l=>some l
 | .rng a b=>some (gU a b)
 | _=>.none
noncomputable def K4 (σ:Store):D->Option (List D×Store×Option Nat)
 | .list l=>some (l,σ,.none)
 | .tup l=>some (l,σ,.none)
 | .rng a b=>some (gU a b,σ,.none)
 | .ref k=>((σ[k]?).bind qM).bind λl=>some (l,σ.set k (.llist l),some k)
 | _=>.none
mutual
noncomputable def ev (X:aU):E->Loc->Store->Option (D×Store)
 | .var i,ρ,σ=>(zF ρ i).bind λd=>some (d,σ)
 | .glob g,_,σ=>(X.globs g).bind λd=>some (d,σ)
 | .none,_,σ=>some (.none,σ)
 | .bool b,_,σ=>some (.bool b,σ)
 | .int i,_,σ=>some (.int i,σ)
 | .bin op a b,ρ,σ=>(ev X a ρ σ).bind λp=>(ev X b ρ p.2).bind λq=>(binOp op p.1 q.1).bind λr=>some (r,q.2)
 | .neg a,ρ,σ=>(ev X a ρ σ).bind λp=>(dZ p.1).bind λi=>some (.int (-i),p.2)
 | .not a,ρ,σ=>(ev X a ρ σ).bind λp=>(truth p.2 p.1).bind λb=>some (.bool (!b),p.2)
 | .cmp op a b,ρ,σ=>(ev X a ρ σ).bind λp=>(ev X b ρ p.2).bind λq=>(cmpOp q.2 op p.1 q.1).bind λr=>some (.bool r,q.2)
 | .and a b,ρ,σ=>(ev X a ρ σ).bind λp=>(truth p.2 p.1).bind λt=>bif t then ev X b ρ p.2 else some (p.1,p.2)
 | .or a b,ρ,σ=>(ev X a ρ σ).bind λp=>(truth p.2 p.1).bind λt=>bif t then some (p.1,p.2) else ev X b ρ p.2
 | .ite c a b,ρ,σ=>(ev X c ρ σ).bind λp=>(truth p.2 p.1).bind λt=>bif t then ev X a ρ p.2 else ev X b ρ p.2
 | .list m es,ρ,σ=>(evs X es ρ σ).bind λp=>(pB p.1).bind λd=>bif m then some (.ref p.2.length,p.2++[.list p.1]) else some (d,p.2)
 | .tup es,ρ,σ=>(evs X es ρ σ).bind λp=>if p.1.length<=lim then some (.tup p.1,p.2) else .none
 | .dict0,_,σ=>some (.ref σ.length,σ++[.dict []])
 | .call f args,ρ,σ=>(evs X args ρ σ).bind λp=>X.F f p.1 p.2
 | .new c args,ρ,σ=>(evs X args ρ σ).bind λp=>(X.F (1000+c) (.ref p.2.length::p.1) (p.2++[.inst c []])).bind λq=>some (.ref p.2.length,q.2)
 | .bi b args,ρ,σ=>(evs X args ρ σ).bind λp=>mQ b p.2 p.1
 | .callv f args,ρ,σ=>(ev X f ρ σ).bind λp=>(evs X args ρ p.2).bind λq=>(RW p.1).bind λf=>X.F f q.1 q.2
 | .umeth o f args,ρ,σ=>(ev X o ρ σ).bind λp=>bif o7 p.2 p.1 then(evs X args ρ p.2).bind λq=>X.F f (p.1::q.1) q.2 else .none
 | .bmeth o m args,ρ,σ=>(ev X o ρ σ).bind λp=>bif wL m p.2 p.1 then(evs X args ρ p.2).bind λq=>bmeth m q.2 p.1 q.1 else .none
 | .star _,_,_=>.none
 | .attr o a,ρ,σ=>(ev X o ρ σ).bind λp=>(getAttr p.2 p.1 a).bind λr=>some (r,p.2)
 | .nextOf o,ρ,σ=>(ev X o ρ σ).bind λp=>(jE p.1).bind λk=>((p.2[k]?).bind NB).bind λq=>if q.2=0 then some (.ref p.2.length,p.2++[.next k]) else .none
 | .idx o i,ρ,σ=>(ev X o ρ σ).bind λp=>(ev X i ρ p.2).bind λq=>(getItem q.2 p.1 q.1).bind λr=>some (r,q.2)
 | .slice o lo hi,ρ,σ=>(ev X o ρ σ).bind λp=>(rI X lo ρ p.2).bind λq=>(rI X hi ρ q.2).bind λr=>(asList r.2 p.1).bind λxs=>(qbB xs q.1 r.1).bind λl=>some (.list l,r.2)
 | .comp m elt gens,ρ,σ=>(nU X gens (ev X elt) ρ σ).bind λp=>(pB p.1).bind λd=>bif m then some (.ref p.2.length,p.2++[.list p.1]) else some (d,p.2)
noncomputable def evs (X:aU):List E->Loc->Store->Option (List D×Store)
 | [],_,σ=>some ([],σ)
 | .star e::es,ρ,σ=>(ev X e ρ σ).bind λp=>(oW p.2 p.1).bind λl=>(evs X es ρ p.2).bind λq=>some (l++q.1,q.2)
 | e::es,ρ,σ=>(ev X e ρ σ).bind λp=>(evs X es ρ p.2).bind λq=>some (p.1::q.1,q.2)
noncomputable def rI (X:aU):Option E->Loc->Store->Option (Option D×Store)
 | .none,_,σ=>some (.none,σ)
 | some e,ρ,σ=>(ev X e ρ σ).bind λp=>some (some p.1,p.2)
noncomputable def kJ (X:aU):It->Loc->Store->Option (List D×Store×Option Nat)
 | .zip a b,ρ,σ=>(ev X a ρ σ).bind λp=>(ev X b ρ p.2).bind λq=>(qZ p.1).bind λl=>(qZ q.1).bind λl'=>some (qcw l l',q.2,.none)
 | .vals o,ρ,σ=>(ev X o ρ σ).bind λp=>(jE p.1).bind λk=>((p.2[k]?).bind N8).bind λes=>some (es.map (·.2),p.2.set k (.ldict es),some k)
 | .e e,ρ,σ=>(ev X e ρ σ).bind λp=>K4 p.2 p.1
noncomputable def gJ (X:aU):List E->Loc->Store->Option (Bool×Store)
 | [],_,σ=>some (true,σ)
 | c::cs,ρ,σ=>(ev X c ρ σ).bind λp=>(truth p.2 p.1).bind λt=>bif t then gJ X cs ρ p.2 else some (false,p.2)
noncomputable def nU (X:aU):List G->(Loc->Store->Option (D×Store))->Loc->Store->Option (List D×Store)
 | [],fe,ρ,σ=>(fe ρ σ).bind λp=>some ([p.1],p.2)
 | .mk ts wV it ifs::gs,fe,ρ,σ=>(kJ X it ρ σ).bind λp=>(j6 (λd σ=>(bindG ρ ts wV d).bind λρ'=>(gJ X ifs ρ' σ).bind λq=>bif q.1 then nU X gs fe ρ' q.2 else some ([],q.2)) p.1 p.2.1).bind λq=>(G5 q.2 p.2.2).bind λσ=>some (q.1,σ)
end
noncomputable def cA (X:aU):T->D->Loc->Store->Option (Loc×Store)
 | .name i,d,ρ,σ=>some (ρ.set i (some d),σ)
 | .sub o i,d,ρ,σ=>(ev X o ρ σ).bind λp=>(ev X i ρ p.2).bind λq=>(setItem q.2 p.1 q.1 d).bind λσ=>some (ρ,σ)
 | .attr o a,d,ρ,σ=>(ev X o ρ σ).bind λp=>(setAttr p.2 p.1 a d).bind λσ=>some (ρ,σ)
 | .tup [t,u],d,ρ,σ=>(uZ d).bind λl=>two l λa b=>(cA X t a ρ σ).bind λp=>cA X u b p.1 p.2
 | .tup [t,u,v],d,ρ,σ=>(uZ d).bind λl=>three l λa b c=>(cA X t a ρ σ).bind λp=>(cA X u b p.1 p.2).bind λq=>cA X v c q.1 q.2
 | .tup _,_,_,_=>.none
noncomputable def test (X:aU)(c:E)(ρ:Loc)(σ:Store):Option (Bool×Store):=(ev X c ρ σ).bind λp=>(truth p.2 p.1).bind λt=>some (t,p.2)
noncomputable def GZ (f:Loc->Store->Option (Fl×Loc×Store))(r:Fl×Loc×Store):Option (Fl×Loc×Store):=match r.1 with
 | .next=>f r.2.1 r.2.2
 | .cont=>f r.2.1 r.2.2
 | .brk=>some (.next,r.2.1,r.2.2)
 | .ret d=>some (.ret d,r.2.1,r.2.2)
noncomputable def oH (test:Loc->Store->Option (Bool×Store))(body orelse:Loc->Store->Option (Fl×Loc×Store)):Nat->Loc->Store->Option (Fl×Loc×Store)
 | 0,_,_=>.none
 | n+1,ρ,σ=>(test ρ σ).bind λp=>bif p.1 then(body ρ p.2).bind (GZ (oH test body orelse n)) else orelse ρ p.2
noncomputable def forL (body:Loc->Store->Option (Fl×Loc×Store))(asg:D->Loc->Store->Option (Loc×Store)):List D->Loc->Store->Option (Fl×Loc×Store)
 | [],ρ,σ=>some (.next,ρ,σ)
 | d::ds,ρ,σ=>(asg d ρ σ).bind λp=>(body p.1 p.2).bind (GZ (forL body asg ds))
noncomputable def qcK (f:Loc->Store->Option (Fl×Loc×Store))(r:Fl×Loc×Store):Option (Fl×Loc×Store):=match r.1 with
 | .next=>f r.2.1 r.2.2
 | _=>some r
noncomputable def WY (f:List D->Loc->Store->Option (Fl×Loc×Store))(x:D)(ρ:Loc)(σ:Store):Option (Fl×Loc×Store):=match x with
 | .list l=>f l ρ σ
 | .tup l=>f l ρ σ
 | .rng a b=>f (gU a b) ρ σ
 | .ref k=>(lock σ k).bind λp=>(f p.1 ρ p.2).bind λq=>(unlock q.2.2 k).bind λσ=>some (q.1,q.2.1,σ)
 | _=>.none
noncomputable def BW (σ:Store)(x:D):Option (Nat×Option D×Store):=(jE x).bind λk=>((σ[k]?).bind qaR).bind λj=>((σ[j]?).bind NB).bind λp=>(asList σ (.ref p.1)).bind λxs=>match xs[p.2]? with
 | some d=>some (j,some d,σ.set j (.iter p.1 (p.2+1)))
 | .none=>some (j,.none,σ.set j .dead)
mutual
noncomputable def ex (X:aU)(W:Nat):S->Loc->Store->Option (Fl×Loc×Store)
 | .expr e,ρ,σ=>(ev X e ρ σ).bind λp=>some (.next,ρ,p.2)
 | .assign t e,ρ,σ=>(ev X e ρ σ).bind λp=>(cA X t p.1 ρ p.2).bind λq=>some (.next,q.1,q.2)
 | .assign2 t u e,ρ,σ=>(ev X e ρ σ).bind λp=>(cA X t p.1 ρ p.2).bind λq=>(cA X u p.1 q.1 q.2).bind λr=>some (.next,r.1,r.2)
 | .aug o a op e,ρ,σ=>(ev X o ρ σ).bind λp=>(getAttr p.2 p.1 a).bind λy=>(ev X e ρ p.2).bind λq=>jX y q.1 λi j=>(binOp op (.int i) (.int j)).bind λr=>(setAttr q.2 p.1 a r).bind λσ=>some (.next,ρ,σ)
 | .ret e,ρ,σ=>(ev X e ρ σ).bind λp=>some (.ret p.1,ρ,p.2)
 | .ife c a b,ρ,σ=>(test X c ρ σ).bind λp=>bif p.1 then exs X W a ρ p.2 else exs X W b ρ p.2
 | .ifNone i e a,ρ,σ=>(ev X e ρ σ).bind λp=>(cmpOp p.2 .Is p.1 .none).bind λt=>bif t then exs X W a (ρ.set i (some p.1)) p.2 else some (.next,ρ.set i (some p.1),p.2)
 | .whil c body orelse,ρ,σ=>oH (test X c) (exs X W body) (exs X W orelse) W ρ σ
 | .fore t it body,ρ,σ=>(ev X it ρ σ).bind λp=>WY (forL (exs X W body) (cA X t)) p.1 ρ p.2
 | .brk,ρ,σ=>some (.brk,ρ,σ)
 | .cont,ρ,σ=>some (.cont,ρ,σ)
 | .pass,ρ,σ=>some (.next,ρ,σ)
 | .del o i,ρ,σ=>(ev X o ρ σ).bind λp=>(ev X i ρ p.2).bind λq=>(jE p.1).bind λk=>(dZ q.1).bind λi=>((q.2[k]?).bind N8).bind λes=>if fC i es then some (.next,ρ,q.2.set k (.dict (dictDel i es))) else .none
 | .tryPlain body,ρ,σ=>exs X W body ρ σ
 | .tryNext i f h,ρ,σ=>(ev X f ρ σ).bind λp=>(BW p.2 p.1).bind λq=>match q.2.1 with
  | some d=>some (.brk,ρ.set i (some d),q.2.2)
  | .none=>exs X W h ρ q.2.2
 | .bad,_,_=>.none
 | .freeze i,ρ,σ=>(zF ρ i).bind λd=>(jE d).bind λk=>((σ[k]?).bind qM).bind λl=>some (.next,ρ.set i (some (.list l)),σ.set k .dead)
noncomputable def exs (X:aU)(W:Nat):List S->Loc->Store->Option (Fl×Loc×Store)
 | [],ρ,σ=>some (.next,ρ,σ)
 | s::ss,ρ,σ=>(ex X W s ρ σ).bind (qcK (exs X W ss))
end
noncomputable def oX (fn:Fn)(args:List D):Option Loc :=
 let args:=if args.length>lim then[] else if args.length<fn.np/\fn.np<=args.length+fn.dn then args++replicate (fn.np-args.length) D.none else args
 if fn.star then
  if fn.np<=args.length then some ((args.take fn.np++[D.tup (args.drop fn.np)]).map some++replicate (fn.ns-(fn.np+1)) .none) else .none
 else
  if args.length=fn.np then some (args.map some++replicate (fn.ns-fn.np) .none) else .none
structure gY where
 fns:Nat->Option Fn
 globs:Nat->Option D
 W:Nat
noncomputable def qil (r:Fl×Loc×Store):Option (D×Store):=match r.1 with
 | .ret d=>some (d,r.2.2)
 | .next=>some (.none,r.2.2)
 | _=>.none
noncomputable def bD (P:gY):Nat->w6
 | 0=>λ_ _ _=>.none
 | n+1=>λf args σ=>(P.fns f).bind λfn=>(oX fn args).bind λρ=>(exs ⟨P.globs,bD P n⟩ P.W fn.body ρ σ).bind qil
noncomputable def Fz (o:Obj):Prop:=(∃xs n,o.data=.seq xs n)\/(o.cls=.type "range"/\∃vs,o.data=.fields vs)
structure Txt where
 fv:Nat->Option Addr
 ca:Nat->Addr
 an:Nat->Str
noncomputable abbrev aY:=List (Addr×Addr)
noncomputable def Sub (ads aG:aY):Prop:=∀(k:Nat) (p:Addr×Addr),ads[k]?=some p->aG[k]?=some p
section
variable (X:Txt)(ads:aY)(W:Addr->Prop)(h:Heap)
mutual
noncomputable def Rep:D->Value->Prop
 | .none,v=>v=.none
 | .bool b,v=>v=.bool b
 | .int i,v=>∃t,v=.int i t
 | .list l,v=>∃a vs,v=.ref a/\h.PlainList a (toArray vs)/\¬W a/\l.length<=lim/\aX l vs
 | .tup l,v=>∃a vs n,v=.ref a/\h.get? a=some {cls:=.type "tuple",data:=.seq (toArray vs) n}/\¬W a/\l.length<=lim/\aX l vs
 | .rng a b,v=>∃r t u x,v=.ref r/\IsRange h r a b 1 t u x/\¬W r/\nC a b=true
 | .ref k,v=>∃p,ads[k]?=some p/\v=.ref p.1
 | .fn f,v=>∃a,X.fv f=some a/\v=.ref a
noncomputable def aX:List D->List Value->Prop
 | [],vs=>vs=[]
 | d::ds,vs=>∃v r,vs=v::r/\Rep d v/\aX ds r
end
noncomputable def eZ (P:Params):List (Nat×D)->List DictEntry->Prop
 | [],es=>es=[]
 | (a,d)::r,es=>∃v t q,es=⟨PyData.keyHash P (X.an a),.str (X.an a) t,v⟩::q/\Rep X ads W h d v/\eZ P r q
noncomputable def cM:List (Int×D)->List (Int×Value)->Prop
 | [],kvs=>kvs=[]
 | (i,d)::r,kvs=>∃v q,kvs=(i,v)::q/\Rep X ads W h d v/\cM r q
noncomputable def sH:Option D->Option Value->Prop
 | .none,o=>o=.none
 | some d,o=>∃v,o=some v/\Rep X ads W h d v
end
section
variable (prog:Program)(w:World)(X:Txt)(ads:aY)(W:Addr->Prop)(lk:Nat->Nat)(h:Heap)
noncomputable def jR (k:Nat)(p:Addr×Addr):O->Prop
 | .dead=>True
 | .list l=>∃vs,h.PlainList p.1 (toArray vs)/\aX X ads W h l vs/\l.length<=lim/\p.2=p.1
 | .llist l=>∃vs,h.PlainList p.1 (toArray vs)/\aX X ads W h l vs/\l.length<=lim/\p.2=p.1
 | .dict es=>∃kvs,h.DictOf (intKind prog w) p.1 kvs/\cM X ads W h es kvs/\es.length<=lim/\p.2=p.1
 | .ldict es=>∃kvs,h.DictAt (intKind prog w) p.1 kvs (lk k)/\cM X ads W h es kvs/\es.length<=lim/\p.2=p.1
 | .set es=>h.SetOf (intKind prog w) p.1 (λi=>es.contains i) es.length/\p.2=p.1
 | .inst c as=>match c with
  | 0=>∃es n,h.get? p.1=some (instObj (X.ca 0) p.2)/\h.get? p.2=some (dictOf es n)/\eZ X ads W h w.params as es/\p.1≠p.2/\as.length<=8/\∀e∈as,e.1<4
  | 1=>∃sl:Array (Option Value),h.get? p.1=some {cls:=.ref (X.ca 1),dict:=some p.2,data:=.plain,slots:=sl}/\h.get? p.2=some emptyDict/\sl.size<=3/\(∀i,i<3->sH X ads W h (as.lookup (4+i)) (sl[i]?.join))/\p.1≠p.2/\∀e∈as,4<=e.1/\e.1<7
  | _=>False
 | .iter l i=>∃q,ads[l]?=some q/\h.IsListIter p.1 q.1 i/\p.2=p.1/\(i=0->∃o,h.get? p.1=some o/\o.dict=none)
 | .next k=>∃q,ads[k]?=some q/\h.get? p.1=some {cls:=.type "method-wrapper",data:=.fields #[.builtin "list_iterator.__next__",.ref q.1]}/\p.2=p.1
end
noncomputable def O.live:O->Bool
 | .dead=>false
 | _=>true
noncomputable def bH (ads:aY)(σ:Store)(a:Addr):Prop:=∃(k:Nat) (p:Addr×Addr) (o:O),ads[k]?=some p/\σ[k]?=some o/\o.live=true/\(a=p.1\/a=p.2)
noncomputable def WW (Z:List Addr)(ads:aY)(σ:Store)(a:Addr):Prop:=a∈Z\/bH ads σ a
noncomputable def Heap.Has (h:Heap)(a:Addr):Prop:=∃o,h.get? a=some o
structure Rel (prog:Program) (w:World) (X:Txt) (h₀:Heap) (Z:List Addr) (lk:Nat->Nat) (h:Heap) (ads:aY) (σ:Store):Prop where
 len:ads.length=σ.length
 keep:∀b o,h₀.get? b=some o->h.get? b=some o
 objs:∀(k:Nat) (p:Addr×Addr) (o:O),ads[k]?=some p->σ[k]?=some o->jR prog w X ads (WW Z ads σ) lk h k p o
 apart:∀(k k':Nat) (p p':Addr×Addr) (o o':O),ads[k]?=some p->ads[k']?=some p'->σ[k]?=some o->σ[k']?=some o'->o.live=true->o'.live=true->k≠k' ->
  p.1≠p'.1/\p.1≠p'.2/\p.2≠p'.1/\p.2≠p'.2
 new:∀(k:Nat) (p:Addr×Addr),ads[k]?=some p->h₀.get? p.1=none/\h₀.get? p.2=none
 zlt:∀a∈Z,Heap.Has h a
 alt:∀(k:Nat) (p:Addr×Addr) (o:O),ads[k]?=some p->σ[k]?=some o->o.live=true->Heap.Has h p.1/\Heap.Has h p.2
 zown:∀a∈Z,¬bH ads σ a
noncomputable def Nd (o:Obj):Prop:=∀es ep,o.data≠.dict es ep
noncomputable def SO (o o':Obj):Prop:=o'.data=o.data/\(Nd o->o'=o)
theorem SO.refl (o:Obj):SO o o:=⟨rfl,λ_=>rfl⟩
theorem SO.trans {a b c:Obj}(x:SO a b)(y:SO b c):SO a c:=⟨y.1.trans x.1,λh=>by have:=x.2 h;subst this;exact y.2 h⟩
theorem SO.of {h:Heap}{a:Addr}{o:Obj}(e:h.get? a=some o):∃o',h.get? a=some o'/\SO o o':=⟨o,e,SO.refl o⟩
theorem SO.thru {h h':Heap}{a:Addr}{o:Obj}(x:∃o',h.get? a=some o'/\SO o o')(k:∀o',h.get? a=some o'->h'.get? a=some o'):∃o',h'.get? a=some o'/\SO o o':=aF (x) λo' e q=>⟨o',k o' e,q⟩
theorem SO.then {h h':Heap}{a:Addr}{o:Obj}(x:∃o',h.get? a=some o'/\SO o o')(k:∀o',h.get? a=some o'->∃CG,h'.get? a=some CG/\SO o' CG):∃o',h'.get? a=some o'/\SO o o':=aF (x) λo' e q=>aF (k o' e) λCG e' q'=>⟨CG,e',q.trans q'⟩
theorem SO.ex {h:Heap}{a:Addr}{o:Obj}(x:∃o',h.get? a=some o'/\SO o o')(hn:Nd o):h.get? a=some o:=by refine aF (x) λo' e q=>?_;rw[e,q.2 hn]
theorem Fz.nd {o:Obj}(x:Fz o):Nd o:=by
 intro es ep q;rcases x with ⟨xs,n,e⟩|⟨_,vs,e⟩ <;> rw[q]at e <;> cases e
structure Ext (Z:List Addr) (ads:aY) (σ:Store) (s:Shared) (aG:aY) (σ':Store) (s':Shared):Prop where
 pre:∃r,aG=ads++r
 kept:∀b o,¬bH ads σ b->s.heap.get? b=some o->∃o',s'.heap.get? b=some o'/\SO o o'
 own:∀b,bH aG σ' b->bH ads σ b\/s.heap.get? b=none
 has:∀b,Heap.Has s.heap b->Heap.Has s'.heap b
 rest:∃h tk,s'={s with heap:=h,toks:=tk}
mutual
theorem Rep.mono {X:Txt}{ads aG:aY}{W W':Addr->Prop}{h h':Heap}(hp:Sub ads aG)(hk:∀a o,¬W a->Fz o->h.get? a=some o->h'.get? a=some o)(hW:∀a o,h.get? a=some o->W' a->W a) :
  ∀(d:D) (v:Value),Rep X ads W h d v->Rep X aG W' h' d v
 | .none,v,e=>e
 | .bool b,v,e=>e
 | .int i,v,e=>e
 | .list l,v,e=>by
  refine eE (e) λa vs O5 qp5 hw hl hr=>?_;subst O5;obtain⟨n,hg⟩:=qp5;exact⟨a,vs,rfl,⟨n,hk a _ hw (.inl ⟨_,_,rfl⟩) hg⟩,λx=>hw (hW _ _ hg x),hl,aX.mono hp hk hW l vs hr⟩
 | .tup l,v,e=>by
  refine iT (e) λa vs n qe6 hg hw hl hr=>?_;subst qe6;exact⟨a,vs,n,rfl,hk a _ hw (.inl ⟨_,_,rfl⟩) hg,λx=>hw (hW _ _ hg x),hl,aX.mono hp hk hW l vs hr⟩
 | .rng a b,v,e=>by
  refine VR (e) λr t u x qe7 hg hw h1=>?_;subst qe7;exact⟨r,t,u,x,rfl,hk r _ hw (.inr ⟨rfl,_,rfl⟩) hg,λx=>hw (hW _ _ hg x),h1⟩
 | .ref k,v,e=>by
  refine aF (e) λp hg qe8=>?_;subst qe8;exact⟨p,hp _ _ hg,rfl⟩
 | .fn f,v,e=>e
theorem aX.mono {X:Txt}{ads aG:aY}{W W':Addr->Prop}{h h':Heap}(hp:Sub ads aG)(hk:∀a o,¬W a->Fz o->h.get? a=some o->h'.get? a=some o)(hW:∀a o,h.get? a=some o->W' a->W a) :
  ∀(l:List D) (vs:List Value),aX X ads W h l vs->aX X aG W' h' l vs
 | [],vs,e=>e
 | d::ds,vs,e=>by
  refine cY (e) λv r qe9 h1 h2=>?_;subst qe9;exact⟨v,r,rfl,Rep.mono hp hk hW d v h1,aX.mono hp hk hW ds r h2⟩
end
theorem eZ.mono {X:Txt}{ads aG:aY}{W W':Addr->Prop}{h h':Heap}{P:Params}(hp:Sub ads aG)(hk:∀a o,¬W a->Fz o->h.get? a=some o->h'.get? a=some o)(hW:∀a o,h.get? a=some o->W' a->W a) :
  ∀(l:List (Nat×D)) (es:List DictEntry),eZ X ads W h P l es->eZ X aG W' h' P l es
 | [],_,e=>e
 | (_,d)::r,_,e=>by
  refine fY (e) λv t q qhe h1 h2=>?_;subst qhe;exact⟨v,t,q,rfl,Rep.mono hp hk hW d v h1,eZ.mono hp hk hW r q h2⟩
theorem cM.mono {X:Txt}{ads aG:aY}{W W':Addr->Prop}{h h':Heap}(hp:Sub ads aG)(hk:∀a o,¬W a->Fz o->h.get? a=some o->h'.get? a=some o)(hW:∀a o,h.get? a=some o->W' a->W a) :
  ∀(l:List (Int×D)) (es:List (Int×Value)),cM X ads W h l es->cM X aG W' h' l es
 | [],_,e=>e
 | (_,d)::r,_,e=>by
  refine cY (e) λv q O4 h1 h2=>?_;subst O4;exact⟨v,q,rfl,Rep.mono hp hk hW d v h1,cM.mono hp hk hW r q h2⟩
theorem sH.mono {X:Txt}{ads aG:aY}{W W':Addr->Prop}{h h':Heap}(hp:Sub ads aG)(hk:∀a o,¬W a->Fz o->h.get? a=some o->h'.get? a=some o)(hW:∀a o,h.get? a=some o->W' a->W a) :
  ∀(d:Option D) (v:Option Value),sH X ads W h d v->sH X aG W' h' d v
 | .none,_,e=>e
 | some d,_,e=>by
  refine aF (e) λv qhg h1=>?_;subst qhg;exact⟨v,rfl,Rep.mono hp hk hW d v h1⟩
theorem jR.mono {prog:Program}{w:World}{X:Txt}{ads aG:aY}{W W':Addr->Prop}{lk:Nat->Nat}{h h':Heap}{k:Nat}{p:Addr×Addr}{o:O}(hp:Sub ads aG)(hk:∀a o,¬W a->Fz o->h.get? a=some o->h'.get? a=some o)(hW:∀a o,h.get? a=some o->W' a->W a)(h1:o.live=true->∀x,h.get? p.1=some x->h'.get? p.1=some x)(h2:o.live=true->∀x,h.get? p.2=some x->h'.get? p.2=some x)(e:jR prog w X ads W lk h k p o):jR prog w X aG W' lk h' k p o:=by
 cases o with
 | dead=>exact trivial
 | list l =>
  refine cL (e) λvs qhR hr hl e=>?_;obtain⟨n,hg⟩:=qhR;exact⟨vs,⟨n,h1 rfl _ hg⟩,aX.mono hp hk hW _ _ hr,hl,e⟩
 | llist l =>
  refine cL (e) λvs qhS hr hl e=>?_;obtain⟨n,hg⟩:=qhS;exact⟨vs,⟨n,h1 rfl _ hg⟩,aX.mono hp hk hW _ _ hr,hl,e⟩
 | dict es =>
  refine cL (e) λkvs qhT hr hl e=>?_;obtain⟨o,es',ep,hg,r⟩:=qhT;exact⟨kvs,⟨o,es',ep,h1 rfl _ hg,r⟩,cM.mono hp hk hW _ _ hr,hl,e⟩
 | ldict es =>
  refine cL (e) λkvs qhU hr hl e=>?_;obtain⟨o,es',hg,r⟩:=qhU;exact⟨kvs,⟨o,es',h1 rfl _ hg,r⟩,cM.mono hp hk hW _ _ hr,hl,e⟩
 | set es =>
  obtain⟨⟨o,es',ep,t,hg,r⟩,e⟩:=e;exact⟨⟨o,es',ep,t,h1 rfl _ hg,r⟩,e⟩
 | inst c as =>
  match c with
  | 0 =>
   refine eE (e) λes n g1 g2 hr hn hl=>?_;exact⟨es,n,h1 rfl _ g1,h2 rfl _ g2,eZ.mono hp hk hW _ _ hr,hn,hl⟩
  | 1 =>
   refine yC (e) λsl g1 g2 hs hr e=>?_;exact⟨sl,h1 rfl _ g1,h2 rfl _ g2,hs,λi hi=>sH.mono hp hk hW _ _ (hr i hi),e⟩
  | n+2=>exact e.elim
 | iter l i =>
  refine cL (e) λq hq qhV e z=>?_;obtain⟨o,hg,r⟩:=qhV;exact⟨q,hp _ _ hq,⟨o,h1 rfl _ hg,r⟩,e,λi0=>aF (z i0) λo e1 e2=>⟨o,h1 rfl _ e1,e2⟩⟩
 | next k =>
  refine bM (e) λq hq hg e=>?_;exact⟨q,hp _ _ hq,h1 rfl _ hg,e⟩
theorem Sub.refl (ads:aY):Sub ads ads:=λ_ _ e=>e
theorem Sub.append (ads r:aY):Sub ads (ads++r):=λk p e=>by
 have hk:k<ads.length:=(List.getElem?_eq_some_iff.mp e).1;rw[getElem?_append_left hk];exact e
namespace Ext
variable {Z:List Addr}{ads aG pI:aY}{σ σ' nG:Store}{s s' s'':Shared}
theorem refl:Ext Z ads σ s ads σ s:=⟨⟨[],by simp⟩,λ_ _ _ e=>SO.of e,λ_ e=>.inl e,λ_ e=>e,⟨s.heap,s.toks,rfl⟩⟩
theorem sub (x:Ext Z ads σ s aG σ' s'):Sub ads aG:=by obtain⟨r,rfl⟩:=x.pre;exact Sub.append _ _
theorem notOwned (x:Ext Z ads σ s aG σ' s'){b:Addr}(hn:¬bH ads σ b)(hb:Heap.Has s.heap b):¬bH aG σ' b:=λe=>by
 obtain⟨o,hb⟩:=hb;rcases x.own b e with e|e
 ·exact hn e
 ·rw[hb]at e;cases e
theorem trans (x:Ext Z ads σ s aG σ' s')(y:Ext Z aG σ' s' pI nG s''):Ext Z ads σ s pI nG s'':=by
 refine⟨?_,λb o hn e=>?_,λb e=>?_,λb e=>y.has b (x.has b e),?_⟩
 ·obtain⟨r,rfl⟩:=x.pre;obtain⟨q,rfl⟩:=y.pre;exact⟨r++q,by simp⟩
 ·exact SO.then (x.kept b o hn e) λo' e'=>y.kept b o' (x.notOwned hn ⟨o,e⟩) e'
 ·rcases y.own b e with e|e
  ·exact x.own b e
  ·by_cases hb:bH ads σ b
   ·exact .inl hb
   ·refine .inr ?_;cases hs:s.heap.get? b with
    | none=>rfl
    | some o=>refine aF (x.kept b o hb hs) λo' q _=>?_;rw[q]at e;cases e
 ·refine fD (x.rest) λh tk qhi=>?_;subst qhi;refine fD (y.rest) λh' tk' qhl=>?_;subst qhl;exact⟨h',tk',rfl⟩
theorem tok (t:Nat):Ext Z ads σ s ads σ {s with toks:=t}:=⟨⟨[],by simp⟩,λ_ _ _ e=>SO.of e,λ_ e=>.inl e,λ_ e=>e,⟨s.heap,t,rfl⟩⟩
theorem tokR (x:Ext Z ads σ s aG σ' s')(t:Nat):Ext Z ads σ s aG σ' {s' with toks:=t}:=x.trans (tok t)
theorem more {h:Heap}{tk:Nat}(hk:∀b o,s.heap.get? b=some o->h.get? b=some o):Ext Z ads σ s ads σ {s with heap:=h,toks:=tk} :=
 ⟨⟨[],by simp⟩,λb o _ e=>SO.of (hk b o e),λ_ e=>.inl e,λb ⟨o,e⟩=>⟨o,hk b o e⟩,⟨h,tk,rfl⟩⟩
end Ext
theorem Ext.ww {Z:List Addr}{ads aG:aY}{σ σ':Store}{s s':Shared}(x:Ext Z ads σ s aG σ' s'):∀(a:Addr) (o:Obj),s.heap.get? a=some o->WW Z aG σ' a->WW Z ads σ a:=λa o e hw=>by
 rcases hw with hw|hw
 ·exact .inl hw
 ·rcases x.own a hw with q|q
  ·exact .inr q
  ·rw[e]at q;cases q
theorem Ext.fz {Z:List Addr}{ads aG:aY}{σ σ':Store}{s s':Shared}(x:Ext Z ads σ s aG σ' s'):∀(a:Addr) (o:Obj),¬WW Z ads σ a->Fz o->s.heap.get? a=some o->s'.heap.get? a=some o :=
 λa o hw hz e=>SO.ex (x.kept a o (λq=>hw (.inr q)) e) hz.nd
theorem Ext.rep {X:Txt}{Z:List Addr}{ads aG:aY}{σ σ':Store}{s s':Shared}{d:D}{v:Value}(x:Ext Z ads σ s aG σ' s')(r:Rep X ads (WW Z ads σ) s.heap d v):Rep X aG (WW Z aG σ') s'.heap d v :=
 Rep.mono x.sub x.fz x.ww d v r
theorem Ext.repL {X:Txt}{Z:List Addr}{ads aG:aY}{σ σ':Store}{s s':Shared}{d:List D}{v:List Value}(x:Ext Z ads σ s aG σ' s')(r:aX X ads (WW Z ads σ) s.heap d v):aX X aG (WW Z aG σ') s'.heap d v :=
 aX.mono x.sub x.fz x.ww d v r
theorem aX.length {X:Txt}{ads:aY}{W:Addr->Prop}{h:Heap}:∀{l:List D} {vs:List Value},aX X ads W h l vs->vs.length=l.length
 | [],_,e=>by cases e;rfl
 | _::_,_,e=>by refine cY (e) λv r qhm _ h2=>?_;subst qhm;rw[length_cons,length_cons,aX.length h2]
theorem aX.append {X:Txt}{ads:aY}{W:Addr->Prop}{h:Heap}:∀{l l':List D} {vs vs':List Value},aX X ads W h l vs->aX X ads W h l' vs'->aX X ads W h (l++l') (vs++vs')
 | [],_,_,_,e,e'=>by cases e;exact e'
 | _::_,_,_,_,e,e'=>by refine cY (e) λv r qhn h1 h2=>?_;subst qhn;exact⟨v,_,rfl,h1,aX.append h2 e'⟩
theorem aX.get {X:Txt}{ads:aY}{W:Addr->Prop}{h:Heap}:∀{l:List D} {vs:List Value},aX X ads W h l vs->∀{i:Nat} {d:D},l[i]?=some d->∃v,vs[i]?=some v/\Rep X ads W h d v
 | [],_,_,i,d,q=>by simp at q
 | d::ds,_,e,i,d',q=>by
  refine cY (e) λv r qhp h1 h2=>?_;subst qhp;cases i with
  | zero=>simp at q;subst q;exact⟨v,by simp,h1⟩
  | succ i=>simp at q;refine aF (aX.get h2 q) λv' a b=>?_;exact⟨v',by simpa using a,b⟩
theorem aX.of_get {X:Txt}{ads:aY}{W:Addr->Prop}{h:Heap}:∀{l:List D} {vs:List Value},vs.length=l.length->(∀(i:Nat) (d:D) (v:Value),l[i]?=some d->vs[i]?=some v->Rep X ads W h d v)->aX X ads W h l vs
 | [],vs,e,_=>by cases vs with|nil=>rfl|cons _ _=>simp at e
 | d::ds,vs,e,q=>by
  cases vs with
  | nil=>simp at e
  | cons v r=>exact⟨v,r,rfl,q 0 d v (by simp) (by simp),aX.of_get (by simpa using e) (λi d v a b=>q (i+1) d v (by simpa using a) (by simpa using b))⟩
theorem aX.rep {X:Txt}{ads:aY}{W:Addr->Prop}{h:Heap}{l:List D}{vs:List Value}(r:aX X ads W h l vs){i:Nat}{d:D}{v:Value}(a:l[i]?=some d)(b:vs[i]?=some v):Rep X ads W h d v:=by
 refine aF (r.get a) λv' c q=>?_;rw[b]at c;cases c;exact q
theorem aX.one {X:Txt}{ads:aY}{W:Addr->Prop}{h:Heap}{d:D}{v:Value}(r:Rep X ads W h d v):aX X ads W h [d] [v]:=⟨v,[],rfl,r,rfl⟩
theorem o4 {h:Heap}(o:Obj)(ho:o.isFreed=false:=by rfl):Heap.Has (h.push o) h.objs.size:=⟨o,Heap.get?_push_size _ ho⟩
theorem bU (h:Heap):h.get? h.objs.size=none:=by
 cases e:h.get? h.objs.size with
 | none=>rfl
 | some o=>exact absurd (Heap.lt_size e) (lt_irrefl _)
theorem Heap.Has.kept {h h':Heap}{a:Addr}(x:Heap.Has h a)(hk:∀o,h.get? a=some o->h'.get? a=some o):Heap.Has h' a:=dH (x) λo e=>⟨o,hk o e⟩
theorem gP {σ:Store}{o q:O}{j:Nat}(e:(σ++[o])[j]?=some q):(j=σ.length/\q=o)\/(j<σ.length/\σ[j]?=some q):=by
 rcases lt_or_ge j σ.length with hj|hj
 ·rw[getElem?_append_left hj]at e;exact .inr ⟨hj,e⟩
 ·rw[getElem?_append_right hj]at e;have:j-σ.length=0:=by
   rcases Nat.eq_zero_or_pos (j-σ.length) with z|z
   ·exact z
   ·rw[List.getElem?_eq_none (by simp;exact aA (aK 0xff0a10f08a1 rfl z))]at e;cases e
  rw[this]at e;cases e;exact .inl ⟨bG (aA (aC 0x1f0a102a110821 rfl (aQ this) (aR _ _))) (aA (aB 0x1f0a1011 rfl hj)),rfl⟩
namespace Rel
variable {prog:Program}{w:World}{X:Txt}{h₀:Heap}{Z:List Addr}{lk:Nat->Nat}{h h':Heap}{ads:aY}{σ:Store}
theorem has_of_owned (R:Rel prog w X h₀ Z lk h ads σ){b:Addr}(e:bH ads σ b):Heap.Has h b:=by
 refine lK (e) λj q x a c d e=>?_;rcases e with rfl|rfl
 ·exact(R.alt j q x a c d).1
 ·exact(R.alt j q x a c d).2
theorem has_of_ww (R:Rel prog w X h₀ Z lk h ads σ){b:Addr}(e:WW Z ads σ b):Heap.Has h b:=e.elim (R.zlt b) R.has_of_owned
theorem fresh_ww (R:Rel prog w X h₀ Z lk h ads σ){b:Addr}(hb:h.get? b=none):¬WW Z ads σ b:=λe=>by
 obtain⟨o,q⟩:=R.has_of_ww e;rw[hb]at q;cases q
theorem fresh_base (R:Rel prog w X h₀ Z lk h ads σ){b:Addr}(hb:h.get? b=none):h₀.get? b=none:=by
 cases e:h₀.get? b with
 | none=>rfl
 | some o=>rw[R.keep b o e]at hb;cases hb
theorem quiet (R:Rel prog w X h₀ Z lk h ads σ)(Y:Addr->Prop)(hk:∀b o,¬Y b->h.get? b=some o->h'.get? b=some o)(hY:∀b,Y b->¬bH ads σ b/\h₀.get? b=none/\(∀o,h.get? b=some o->¬Fz o)/\(b∉Z\/Heap.Has h' b)):Rel prog w X h₀ Z lk h' ads σ where
 len:=R.len
 keep b o e:=hk b o (λy=>by rw[(hY b y).2.1]at e;cases e) (R.keep b o e)
 objs k p o a b:=(R.objs k p o a b).mono (Sub.refl _) (λc o hw hz e=>hk c o (λy=>(hY c y).2.2.1 o e hz) e) (λ_ _ _ x=>x)
  (λhl x e=>hk _ x (λy=>(hY _ y).1 ⟨k,p,o,a,b,hl,.inl rfl⟩) e) (λhl x e=>hk _ x (λy=>(hY _ y).1 ⟨k,p,o,a,b,hl,.inr rfl⟩) e)
 apart:=R.apart
 new:=R.new
 zlt a e:=(Classical.em (Y a)).elim (λy=>(hY a y).2.2.2.elim (λq=>absurd e q) id) (λy=>(R.zlt a e).kept λo=>hk a o y)
 alt k p o e f l:=⟨(R.alt k p o e f l).1.kept λx=>hk _ x λy=>(hY _ y).1 ⟨k,p,o,e,f,l,.inl rfl⟩,(R.alt k p o e f l).2.kept λx=>hk _ x λy=>(hY _ y).1 ⟨k,p,o,e,f,l,.inr rfl⟩⟩
 zown:=R.zown
theorem grow (R:Rel prog w X h₀ Z lk h ads σ)(hk:∀b o,h.get? b=some o->h'.get? b=some o):Rel prog w X h₀ Z lk h' ads σ :=
 R.quiet (λ_=>False) (λb o _ e=>hk b o e) (λ_ y=>y.elim)
theorem push (R:Rel prog w X h₀ Z lk h ads σ)(o:Obj):Rel prog w X h₀ Z lk (h.push o) ads σ:=R.grow (λ_ _ e=>Heap.get?_push_of_some _ e)
theorem owned_set {k:Nat}{p:Addr×Addr}{o o':O}(hp:ads[k]?=some p)(ho:σ[k]?=some o)(hl:o.live=true):∀b,bH ads (σ.set k o') b->bH ads σ b:=by
 have hkl:k<σ.length:=(List.getElem?_eq_some_iff.mp ho).1;rintro b ⟨j,q,x,a,c,d,e⟩;by_cases hj:k=j
 ·subst hj;rw[getElem?_set_self hkl]at c;cases c;rw[hp]at a;cases a;exact⟨k,p,o,hp,ho,hl,e⟩
 ·rw[getElem?_set_ne hj]at c;exact⟨j,q,x,a,c,d,e⟩
theorem put (R:Rel prog w X h₀ Z lk h ads σ){k:Nat}{p:Addr×Addr}{o o':O}(hp:ads[k]?=some p)(ho:σ[k]?=some o)(hl:o.live=true)(hk:∀b x,b≠p.1->b≠p.2->h.get? b=some x->h'.get? b=some x)(hi:Heap.Has h' p.1/\Heap.Has h' p.2)(hn:jR prog w X ads (WW Z ads (σ.set k o')) lk h' k p o'):Rel prog w X h₀ Z lk h' ads (σ.set k o'):=by
 have hkl:k<σ.length:=(List.getElem?_eq_some_iff.mp ho).1;have zR:∀(j:Nat) (x:O),(σ.set k o')[j]?=some x->(j=k/\x=o')\/(j≠k/\σ[j]?=some x):=by
  intro j x e;by_cases hj:k=j
  ·subst hj;rw[getElem?_set_self hkl]at e;cases e;exact .inl ⟨rfl,rfl⟩
  ·rw[getElem?_set_ne hj]at e;exact .inr ⟨λq=>hj q.symm,e⟩
 have hown:=owned_set (o':=o') hp ho hl;have hnw:∀b x,¬WW Z ads σ b->h.get? b=some x->h'.get? b=some x:=λb x q e =>
  hk b x (λy=>q (.inr ⟨k,p,o,hp,ho,hl,.inl y⟩)) (λy=>q (.inr ⟨k,p,o,hp,ho,hl,.inr y⟩)) e
 have hhas:∀b,Heap.Has h b->Heap.Has h' b:=λb q=>by
  by_cases h1:b=p.1
  ·rw[h1];exact hi.1
  ·by_cases h2:b=p.2
   ·rw[h2];exact hi.2
   ·exact q.kept λo=>hk b o h1 h2
 have halt:∀(j:Nat) (q:Addr×Addr) (x:O),ads[j]?=some q->(σ.set k o')[j]?=some x->x.live=true->Heap.Has h' q.1/\Heap.Has h' q.2:=λj q x a c l=>by
  rcases zR j x c with ⟨rfl,rfl⟩|⟨_,c⟩
  ·rw[hp]at a;cases a;exact hi
  ·exact⟨hhas _ (R.alt j q x a c l).1,hhas _ (R.alt j q x a c l).2⟩
 refine⟨by rw[R.len,length_set],λb x e=>?_,λj q x a c=>?_,λj j' q q' x x' a a' c c' l l' hne=>?_,R.new,λa e=>hhas a (R.zlt a e),halt,λa e q=>R.zown a e (hown a q)⟩
 ·exact hk b x (λy=>by subst y;rw[(R.new k p hp).1]at e;cases e) (λy=>by subst y;rw[(R.new k p hp).2]at e;cases e) (R.keep b x e)
 ·rcases zR j x c with ⟨rfl,rfl⟩|⟨hj,c⟩
  ·rw[hp]at a;cases a;exact hn
  ·exact(R.objs j q x a c).mono (Sub.refl _) (λa o hw _ e=>hnw a o hw e) (λa _ _ y=>y.imp id (hown a))
    (λhx y e=>hk _ y (R.apart j k q p x o a hp c ho hx hl hj).1 (R.apart j k q p x o a hp c ho hx hl hj).2.1 e)
    (λhx y e=>hk _ y (R.apart j k q p x o a hp c ho hx hl hj).2.2.1 (R.apart j k q p x o a hp c ho hx hl hj).2.2.2 e)
 ·rcases zR j x c with ⟨rfl,rfl⟩|⟨hj,c1⟩ <;> rcases zR j' x' c' with ⟨rfl,rfl⟩|⟨hj',c2⟩
  ·exact absurd rfl hne
  ·rw[hp]at a;cases a;exact R.apart j j' p q' o x' hp a' ho c2 hl l' hne
  ·rw[hp]at a';cases a';exact R.apart j j' q p x o a hp c1 ho l hl hne
  ·exact R.apart j j' q q' x x' a a' c1 c2 l l' hne
theorem get_last (R:Rel prog w X h₀ Z lk h ads σ){p:Addr×Addr}{o:O}{j:Nat}{q:Addr×Addr}(e:(ads++[p])[j]?=some q):(j=σ.length/\q=p)\/(j<σ.length/\ads[j]?=some q):=by
 rcases lt_or_ge j ads.length with hj|hj
 ·rw[getElem?_append_left hj]at e;exact .inr ⟨R.len▸hj,e⟩
 ·rw[getElem?_append_right hj]at e;have:j-ads.length=0:=by
   rcases Nat.eq_zero_or_pos (j-ads.length) with z|z
   ·exact z
   ·rw[List.getElem?_eq_none (by simp;exact aA (aK 0xff0a10f08a1 rfl z))]at e;cases e
  rw[this]at e;cases e;exact .inl ⟨(Nat.le_antisymm (Nat.sub_eq_zero_iff_le.mp this) hj).trans R.len,rfl⟩
theorem owned_add (R:Rel prog w X h₀ Z lk h ads σ){p:Addr×Addr}{o:O}(h1:h.get? p.1=none)(h2:h.get? p.2=none):∀b,bH (ads++[p]) (σ++[o]) b->bH ads σ b\/h.get? b=none:=by
 rintro b ⟨j,q,x,a,c,d,e⟩;rcases R.get_last (o:=o) a with ⟨rfl,rfl⟩|⟨hj,a⟩
 ·rcases e with rfl|rfl
  ·exact .inr h1
  ·exact .inr h2
 ·rcases gP c with ⟨rfl,rfl⟩|⟨_,c⟩
  ·exact absurd hj (lt_irrefl _)
  ·exact .inl ⟨j,q,x,a,c,d,e⟩
theorem add (R:Rel prog w X h₀ Z lk h ads σ){p:Addr×Addr}{o:O}(hk:∀b x,h.get? b=some x->h'.get? b=some x)(h1:h.get? p.1=none)(h2:h.get? p.2=none)(l1:Heap.Has h' p.1)(l2:Heap.Has h' p.2)(hn:jR prog w X (ads++[p]) (WW Z (ads++[p]) (σ++[o])) lk h' σ.length p o):Rel prog w X h₀ Z lk h' (ads++[p]) (σ++[o]):=by
 have hown:=R.owned_add (o:=o) h1 h2;have hne:∀b,Heap.Has h b->b≠p.1/\b≠p.2:=λb ⟨x,e⟩=>⟨λq=>(by rw[q,h1]at e;cases e),λq=>(by rw[q,h2]at e;cases e)⟩;refine⟨by simp[R.len],λb x e=>hk b x (R.keep b x e),λj q x a c=>?_,λj j' q q' x x' a a' c c' l l' hne'=>?_,λj q a=>?_,λa e=>(R.zlt a e).kept λo=>hk a o,
  λj q x a c l=>?_,λa e q=>?_⟩
 ·rcases R.get_last (o:=o) a with ⟨rfl,rfl⟩|⟨hj,a⟩
  ·rcases gP c with ⟨_,rfl⟩|⟨hj,_⟩
   ·exact hn
   ·exact absurd hj (lt_irrefl _)
  ·rcases gP c with ⟨rfl,rfl⟩|⟨_,c⟩
   ·exact absurd hj (lt_irrefl _)
   ·exact(R.objs j q x a c).mono (Sub.append _ _) (λa o _ _ e=>hk a o e) (λa o e y=>y.imp id (λy=>(hown a y).elim id (λz=>by rw[e]at z;cases z)))
     (λ_ y e=>hk _ y e) (λ_ y e=>hk _ y e)
 ·rcases R.get_last (o:=o) a with ⟨rfl,rfl⟩|⟨hj,a1⟩ <;> rcases R.get_last (o:=o) a' with ⟨rfl,rfl⟩|⟨hj',a2⟩
  ·exact absurd rfl hne'
  ·rcases gP c' with ⟨rfl,rfl⟩|⟨_,c'⟩
   ·exact absurd hj' (lt_irrefl _)
   have z1:=hne _ (R.alt j' q' x' a2 c' l').1;have z2:=hne _ (R.alt j' q' x' a2 c' l').2;exact⟨Ne.symm z1.1,Ne.symm z2.1,Ne.symm z1.2,Ne.symm z2.2⟩
  ·rcases gP c with ⟨rfl,rfl⟩|⟨_,c⟩
   ·exact absurd hj (lt_irrefl _)
   have z1:=hne _ (R.alt j q x a1 c l).1;have z2:=hne _ (R.alt j q x a1 c l).2;exact⟨z1.1,z1.2,z2.1,z2.2⟩
  ·rcases gP c with ⟨rfl,rfl⟩|⟨_,c⟩
   ·exact absurd hj (lt_irrefl _)
   ·rcases gP c' with ⟨rfl,rfl⟩|⟨_,c'⟩
    ·exact absurd hj' (lt_irrefl _)
    ·exact R.apart j j' q q' x x' a1 a2 c c' l l' hne'
 ·rcases R.get_last (o:=o) a with ⟨rfl,rfl⟩|⟨hj,a⟩
  ·exact⟨R.fresh_base h1,R.fresh_base h2⟩
  ·exact R.new j q a
 ·rcases R.get_last (o:=o) a with ⟨rfl,rfl⟩|⟨hj,a⟩
  ·exact⟨l1,l2⟩
  ·rcases gP c with ⟨rfl,rfl⟩|⟨_,c⟩
   ·exact absurd hj (lt_irrefl _)
   ·exact⟨(R.alt j q x a c l).1.kept λo=>hk _ o,(R.alt j q x a c l).2.kept λo=>hk _ o⟩
 ·rcases hown a q with q|q
  ·exact R.zown a e q
  ·obtain⟨o,z⟩:=R.zlt a e;rw[q]at z;cases z
theorem aside (R:Rel prog w X h₀ Z lk h ads σ){a:Addr}(ha:h.get? a=none)(hk:∀b o,h.get? b=some o->h'.get? b=some o)(hl:Heap.Has h' a) :
  Rel prog w X h₀ (a::Z) lk h' ads σ where
 len:=R.len
 keep b o e:=hk b o (R.keep b o e)
 objs k p o b c:=(R.objs k p o b c).mono (Sub.refl _) (λc o _ _ e=>hk c o e)
  (λb o e y=>by
   rcases y with y|y
   ·rcases mem_cons.mp y with rfl|y
    ·rw[ha]at e;cases e
    ·exact .inl y
   ·exact .inr y) (λ_ x e=>hk _ x e) (λ_ x e=>hk _ x e)
 apart:=R.apart
 new:=R.new
 zlt b e:=by
  rcases mem_cons.mp e with rfl|e
  ·exact hl
  ·exact(R.zlt b e).kept λo=>hk b o
 alt k p o e f l:=⟨(R.alt k p o e f l).1.kept λo=>hk _ o,(R.alt k p o e f l).2.kept λo=>hk _ o⟩
 zown b e q:=by
  rcases mem_cons.mp e with rfl|e
  ·obtain⟨o,z⟩:=R.has_of_owned q;rw[ha]at z;cases z
  ·exact R.zown b e q
theorem back {a:Addr}(R:Rel prog w X h₀ (a::Z) lk h ads σ):Rel prog w X h₀ Z lk h ads σ where
 len:=R.len
 keep:=R.keep
 objs k p o b c:=(R.objs k p o b c).mono (Sub.refl _) (λc o _ _ e=>e) (λb o e y=>y.imp (mem_cons_of_mem _) id) (λ_ x e=>e) (λ_ x e=>e)
 apart:=R.apart
 new:=R.new
 zlt b e:=R.zlt b (mem_cons_of_mem _ e)
 alt:=R.alt
 zown b e:=R.zown b (mem_cons_of_mem _ e)
theorem asideSet {a:Addr}(R:Rel prog w X h₀ (a::Z) lk h ads σ)(hn:h₀.get? a=none)(hk:∀b o,b≠a->h.get? b=some o->h'.get? b=some o)(hl:Heap.Has h' a):Rel prog w X h₀ (a::Z) lk h' ads σ where
 len:=R.len
 keep b o e:=hk b o (λq=>by subst q;rw[hn]at e;cases e) (R.keep b o e)
 objs k p o b c:=(R.objs k p o b c).mono (Sub.refl _) (λc o hw _ e=>hk c o (λq=>hw (.inl (q▸mem_cons_self))) e) (λb o e y=>y)
  (λhl x e=>hk _ x (λq=>R.zown a mem_cons_self ⟨k,p,o,b,c,hl,.inl q.symm⟩) e) (λhl x e=>hk _ x (λq=>R.zown a mem_cons_self ⟨k,p,o,b,c,hl,.inr q.symm⟩) e)
 apart:=R.apart
 new:=R.new
 zlt b e:=(Classical.em (b=a)).elim (λq=>q▸hl) (λq=>(R.zlt b e).kept λo=>hk b o q)
 alt k p o e f l:=⟨(Classical.em (p.1=a)).elim (λq=>q▸hl) (λq=>(R.alt k p o e f l).1.kept λo=>hk _ o q),(Classical.em (p.2=a)).elim (λq=>q▸hl) (λq=>(R.alt k p o e f l).2.kept λo=>hk _ o q)⟩
 zown:=R.zown
end Rel
structure SC where
 names:List (Str×NameKind)
 slots:List (Nat×Str)
 fr:List Env
 comp:Bool
structure bJ where
 prog:Program
 w:World
 h₀:Heap
 X:Txt
 gl:Str->Option Value
 K:Frag
noncomputable abbrev bJ.R (c:bJ):=Rel c.prog c.w c.X c.h₀
noncomputable abbrev bJ.P (c:bJ)(Z:List Addr)(ads:aY)(σ:Store)(h:Heap):=Rep c.X ads (WW Z ads σ) h
noncomputable abbrev bJ.PL (c:bJ)(Z:List Addr)(ads:aY)(σ:Store)(h:Heap):=aX c.X ads (WW Z ads σ) h
structure Base (c:bJ):Prop where
 g:c.h₀.Ns mainGlobals c.gl
 b:∃mb,c.h₀.Ns builtinsNs mb/\∀x:Str,x≠"__name__"->mb x=bootBuiltins x
 nolimit:c.h₀.NoLimit
 mods:Heap.Has c.h₀ sysModules
 K:c.K.In c.h₀
 fnK:∀f fa,c.X.fv f=some fa->keepIn c.K (.ref fa)=true
 clK:∀i,i<2->keepIn c.K (.ref (c.X.ca i))=true
noncomputable def qX (o:Obj):Prop:=∃es ep,o.data=.dict es ep
noncomputable def FF (h base:Heap)(l:List Env):Prop:=h.FunFrames base l/\∀a,a∈l.filterMap (·.frame)->∃o,h.get? a=some o/\qX o
structure bK (c:bJ) (C:SC) (env:Env) (ρ:Loc) (Z:List Addr) (ads:aY) (σ:Store) (h:Heap):Prop where
 kind:env.scope.kind=.function
 names:env.scope.names=C.names
 globals:env.globals=mainGlobals
 builtins:env.builtins=builtinsNs
 ns:∃m,h.Ns env.locals m/\∀(i:Nat) (x:Str) (d:D),C.slots.lookup i=some x->C.names.lookup x=some .local->ρ[i]?=some (some d)->∃v,m x=some v/\c.P Z ads σ h d v
 has:∀x:Str,C.names.lookup x=some .cell->∃a ov,env.cells.lookup x=some a/\h.IsCell a ov
 cell:∀(i:Nat) (x:Str) (d:D) (a:Addr),C.slots.lookup i=some x->C.names.lookup x=some .cell->ρ[i]?=some (some d)->env.cells.lookup x=some a->∃v,h.IsCell a (some v)/\c.P Z ads σ h d v
 apart:env.cells.Pairwise λx y=>x.2≠y.2
 lown:¬bH ads σ env.locals/\c.h₀.get? env.locals=none
 cown:∀x a,(x,a)∈env.cells->¬bH ads σ a/\c.h₀.get? a=none/\∃ov,h.IsCell a ov
 frs:FF h c.h₀ C.fr
 frn:∀a,a∈C.fr.filterMap (·.frame)->¬bH ads σ a
 hd:C.comp=false->∃outer,C.fr=env::outer
noncomputable def gW (h h':Heap)(a:Addr):Prop:=∀o,h.get? a=some o->qX o->∃o',h'.get? a=some o'/\qX o'
theorem gW.same {h h':Heap}{a:Addr}(k:∀o,h.get? a=some o->h'.get? a=some o):gW h h' a:=λo e hn=>⟨o,k o e,hn⟩
theorem gW.so {h h':Heap}{a:Addr}(k:∀o,h.get? a=some o->∃o',h'.get? a=some o'/\SO o o'):gW h h' a:=λo e hn=>aF (k o e) λo' e' q=>⟨o',e',fD (hn) λes ep z=>⟨es,ep,q.1.trans z⟩⟩
theorem X7 {h h' base:Heap}:∀{l:List Env},h.FunFrames base l->(∀a,a∈l.filterMap (·.frame)->∃o,h'.get? a=some o/\qX o)->h'.FunFrames base l
 | []=>λ_ _=>trivial
 | env::rest=>λx k=>by
  refine cQ (x) λhk O8 hr=>?_;refine c7 (O8) λL o hf hn ho hd=>?_;obtain⟨o',ho',es,ep,hd'⟩:=k L (by simp[filterMap_cons,hf]);exact⟨hk,⟨L,o',hf,hn,ho',λvs q=>by rw[hd']at q;cases q⟩,X7 hr λa ha=>k a (by rw[filterMap_cons];split <;> simp[ha])⟩
theorem pR {h h' base:Heap}{l:List Env}(x:FF h base l)(k:∀a,a∈l.filterMap (·.frame)->gW h h' a):FF h' base l:=by
 have hd:∀a,a∈l.filterMap (·.frame)->∃o,h'.get? a=some o/\qX o:=λa ha=>aF (x.2 a ha) λo e d=>k a ha o e d;exact⟨X7 x.1 hd,hd⟩
theorem bK.frHas' {c:bJ}{C:SC}{env:Env}{ρ:Loc}{Z:List Addr}{ads:aY}{σ:Store}{h:Heap}(V:bK c C env ρ Z ads σ h){a:Addr}(ha:a∈C.fr.filterMap (·.frame)):Heap.Has h a:=aF (V.frs.2 a ha) λo e _=>⟨o,e⟩
structure dI (A:Around) (n:Nat) (fr:List Env):Prop where
 depth:A.depth+4*n+10<=999
 units:A.units+100*n+1000<=9900
 handled:A.handled=none
 frames:A.frames=some fr
structure GP (A:Around) (n:Nat) (fr:List Env):Prop where
 depth:A.depth+4*n+8<=999
 units:A.units+100*n+950<=9900
 handled:A.handled=none
 frames:A.frames=some fr
theorem dI.toF {A:Around}{n:Nat}{fr:List Env}(x:dI A n fr):GP A n fr:=⟨by have:=x.depth;exact aA (aB 0x8814b0aaf3e79a13e79a814b0aa1 rfl this),le_trans (Nat.add_le_add_left (by decide) _) x.units,x.handled,x.frames⟩
theorem tC {o:Obj}{ov:Option Value}(e:o.data=.cell ov):Nd o:=λes ep q=>by rw[e]at q;cases q
theorem bK.ext {c:bJ}{C:SC}{env:Env}{ρ:Loc}{Z:List Addr}{ads aG:aY}{σ σ':Store}{s s':Shared}(V:bK c C env ρ Z ads σ s.heap)(x:Ext Z ads σ s aG σ' s'):bK c C env ρ Z aG σ' s'.heap where
 kind:=V.kind
 names:=V.names
 globals:=V.globals
 builtins:=V.builtins
 ns:=by
  refine aF (V.ns) λm qia hm=>?_;obtain⟨o,es,ep,ho,r⟩:=qia;refine aF (x.kept _ _ V.lown.1 ho) λo' ho' q'=>?_;exact⟨m,⟨o',es,ep,ho',q'.1.trans r.1,r.2⟩,λi y d a b e=>aF (hm i y d a b e) λv p q=>⟨v,p,x.rep q⟩⟩
 has:=λy b=>by
  refine fM (V.has y b) λa' ov h1 qib=>?_;obtain⟨o,ho,r⟩:=qib;exact⟨a',ov,h1,⟨o,SO.ex (x.kept _ _ (V.cown y a' (mem_of_lookup h1)).1 ho) (tC r),r⟩⟩
 cell:=λi y d a b e q l=>by
  refine aF (V.cell i y d a b e q l) λv O9 h3=>?_;obtain⟨o,ho,r⟩:=O9;exact⟨v,⟨o,SO.ex (x.kept _ _ (V.cown y a (mem_of_lookup l)).1 ho) (tC r),r⟩,x.rep h3⟩
 apart:=V.apart
 lown:=⟨x.notOwned V.lown.1 (aF V.ns λ_ q _=>vK q λo _ _ ho _=>⟨o,ho⟩),V.lown.2⟩
 cown:=λy a e=>by
  obtain⟨h1,h2,ov,o,ho,hd⟩:=V.cown y a e;exact⟨x.notOwned h1 ⟨o,ho⟩,h2,ov,o,SO.ex (x.kept a o h1 ho) (tC hd),hd⟩
 frs:=pR V.frs λa ha=>gW.so λo e=>x.kept a o (V.frn a ha) e
 frn:=λa ha=>x.notOwned (V.frn a ha) (V.frHas' ha)
 hd:=V.hd
noncomputable def Yields (c:bJ)(A:Around)(t:Sem Value)(Z:List Addr)(lk:Nat->Nat)(s:Shared)(ads:aY)(σ:Store)(d:D)(σ':Store):Prop :=
 ∀(Q:Value->Shared->Prop) (E:Value->Shared->Prop),(∀v s' aG,Ext Z ads σ s aG σ' s'->c.R Z lk s'.heap aG σ'->c.P Z aG σ' s'.heap d v->Q v s')->wpAny (model c.prog c.w) A t Q E s
noncomputable def sZ (c:bJ)(A:Around)(t:Sem (List Value))(Z:List Addr)(lk:Nat->Nat)(s:Shared)(ads:aY)(σ:Store)(d:List D)(σ':Store):Prop :=
 ∀(Q:List Value->Shared->Prop) (E:Value->Shared->Prop),(∀v s' aG,Ext Z ads σ s aG σ' s'->c.R Z lk s'.heap aG σ'->c.PL Z aG σ' s'.heap d v->Q v s')->wpAny (model c.prog c.w) A t Q E s
noncomputable def GR (c:bJ)(A:Around)(t:Sem Bool)(Z:List Addr)(lk:Nat->Nat)(s:Shared)(ads:aY)(σ:Store)(b:Bool)(σ':Store):Prop :=
 ∀(Q:Bool->Shared->Prop) (E:Value->Shared->Prop),(∀s' aG,Ext Z ads σ s aG σ' s'->c.R Z lk s'.heap aG σ'->Q b s')->wpAny (model c.prog c.w) A t Q E s
noncomputable def bL (c:bJ)(n:Nat)(C:SC)(e:Expr)(f:Loc->Store->Option (D×Store)):Prop :=
 ∀(A:Around) (Z:List Addr) (lk:Nat->Nat) (s:Shared) (ads:aY) (ρ:Loc) (σ:Store) (env:Env) (d:D) (σ':Store),f ρ σ=some (d,σ')->dI A n C.fr->c.R Z lk s.heap ads σ->bK c C env ρ Z ads σ s.heap ->
  Yields c A (eval e env) Z lk s ads σ d σ'
noncomputable def kE (c:bJ)(n:Nat)(C:SC)(e:Expr)(f:Loc->Store->Option (D×Store)):Prop :=
 ∀(A:Around) (Z:List Addr) (lk:Nat->Nat) (s:Shared) (ads:aY) (ρ:Loc) (σ:Store) (env:Env) (d:D) (σ':Store) (b:Bool),f ρ σ=some (d,σ')->truth σ' d=some b->dI A n C.fr->c.R Z lk s.heap ads σ->bK c C env ρ Z ads σ s.heap ->
  GR c A (isTrue e env (eval e env)) Z lk s ads σ b σ'
noncomputable def jT (c:bJ)(n:Nat)(C:SC)(es:List Expr)(f:Loc->Store->Option (List D×Store)):Prop :=
 ∀(A:Around) (Z:List Addr) (lk:Nat->Nat) (s:Shared) (ads:aY) (ρ:Loc) (σ:Store) (env:Env) (ds:List D) (σ':Store) (pos:Pos),f ρ σ=some (ds,σ')->dI A n C.fr->c.R Z lk s.heap ads σ->bK c C env ρ Z ads σ s.heap ->
  sZ c A (spliced (backTo pos (starEach es env))) Z lk s ads σ ds σ'
section
variable {c:bJ}{A:Around}{Z:List Addr}{lk:Nat->Nat}{s:Shared}{ads:aY}{σ σ':Store}{n:Nat}{C:SC}
theorem HJ {C:SC}{env:Env}{ρ:Loc}{h:Heap}(V:bK c C env ρ Z ads σ h){i:Nat}{x:Str}{d:D}(hs:C.slots.lookup i=some x)(hk:C.names.lookup x=some .local\/C.names.lookup x=some .cell)(hd:ρ[i]?=some (some d)){Q:Value->Shared->Prop}{E:Value->Shared->Prop}{s:Shared}(hh:s.heap=h)(k:∀v,c.P Z ads σ h d v->Q v s):wpAny (model c.prog c.w) A (loadName env x) Q E s:=by
 subst hh;rcases hk with hk|hk
 ·refine aF (V.ns) λm hn hm=>?_;refine aF (hm i x d hs hk hd) λv e r=>?_;exact wpAny_loadName_local V.kind (by unfold Env.kindOf;rw[V.names];exact hk) hn e (k v r)
 ·refine fM (V.has x hk) λa ov h1 h2=>?_;refine aF (V.cell i x d a hs hk hd h1) λv h2 r=>?_;exact wpAny_loadName_cell V.kind (by unfold Env.kindOf;rw[V.names];exact hk) h1 h2 (k v r)
theorem Yields.cast {t:Sem Value}{d d':D}{σ1 qW:Store}(e:some (d,σ1)=some (d',qW))(y:Yields c A t Z lk s ads σ d σ1):Yields c A t Z lk s ads σ d' qW:=by cases e;exact y
theorem zG {ρ:Loc}{i:Nat}{d:D}(e:zF ρ i=some d):ρ[i]?=some (some d):=by
 unfold zF at e;cases h:ρ[i]? with
 | none=>rw[h]at e;cases e
 | some o=>rw[h]at e;exact congrArg some e
theorem qjH {F:aU}{i:Nat}{x:Str}{pos:Pos}(hs:C.slots.lookup i=some x)(hk:C.names.lookup x=some .local\/C.names.lookup x=some .cell)(hd:(x==("__debug__":Str))=false) :
  bL c n C (.Name x pos) (ev F (.var i)) :=
 λA Z lk s ads ρ σ env d σ' hf _ R V=>aJ hf λd' h1 e=>Yields.cast e λQ E k=>wpAny_Name (HJ V hs hk (zG h1) rfl λv r=>k v s ads Ext.refl R r) hd
theorem qjx {F:aU}{i:Int}{kn:Nat}{pos:Pos}:bL c n C (.Constant (.int i) kn pos) (ev F (.int i)) :=
 λA Z lk s ads ρ σ env d σ' hf _ R V=>Yields.cast hf λQ E k=>wpAny_mkInt (k _ _ ads (Ext.tok _) R ⟨_,rfl⟩)
theorem qjD {F:aU}{kn:Nat}{pos:Pos}:bL c n C (.Constant .none kn pos) (ev F .none) :=
 λA Z lk s ads ρ σ env d σ' hf _ R V=>Yields.cast hf λQ E k=>wpAny_pure (k _ _ ads Ext.refl R rfl)
theorem qjo {F:aU}{b:Bool}{kn:Nat}{pos:Pos}:bL c n C (.Constant (.bool b) kn pos) (ev F (.bool b)) :=
 λA Z lk s ads ρ σ env d σ' hf _ R V=>Yields.cast hf λQ E k=>wpAny_pure (k _ _ ads Ext.refl R rfl)
theorem PlainList.isList {h:Heap}{a:Addr}{items:Array Value}(x:h.PlainList a items):h.IsList a items:=dH (x) λn e=>⟨_,e,rfl,n,rfl⟩
theorem qgO {o:O}{l:List D}(e:j5 o=some l):o=.list l\/o=.llist l:=by
 cases o <;> first|exact bO e|exact .inl (congrArg O.list (Option.some.inj e))|exact .inr (congrArg O.llist (Option.some.inj e))
theorem uE {o:O}{l:List D}(e:qM o=some l):o=.list l:=by
 cases o <;> first|exact bO e|exact congrArg O.list (Option.some.inj e)
theorem CK {o:O}{l:List (Int×D)}(e:N8 o=some l):o=.dict l:=by
 cases o <;> first|exact bO e|exact congrArg O.dict (Option.some.inj e)
theorem NP {o:O}{l:List Int}(e:uF o=some l):o=.set l:=by
 cases o <;> first|exact bO e|exact congrArg O.set (Option.some.inj e)
theorem CN {o:O}{c:Nat}{l:List (Nat×D)}(e:wI o=some (c,l)):o=.inst c l:=by
 cases o <;> first|exact bO e|exact eG e λa b=>a▸b▸rfl
theorem NK {o:O}{k i:Nat}(e:NB o=some (k,i)):o=.iter k i:=by
 cases o <;> first|exact bO e|exact eG e λa b=>a▸b▸rfl
theorem qgP {o:O}{k:Nat}(e:qaR o=some k):o=.next k:=by
 cases o <;> first|exact bO e|exact congrArg O.next (Option.some.inj e)
theorem uX {d:D}{i:Int}(e:dZ d=some i):d=.int i:=by
 cases d <;> first|exact bO e|exact congrArg D.int (Option.some.inj e)
theorem S5 {d:D}{i:List D}(e:qZ d=some i):d=.list i:=by
 cases d <;> first|exact bO e|exact congrArg D.list (Option.some.inj e)
theorem S9 {d:D}{i:List D}(e:uZ d=some i):d=.tup i:=by
 cases d <;> first|exact bO e|exact congrArg D.tup (Option.some.inj e)
theorem kI {d:D}{i:Nat}(e:jE d=some i):d=.ref i:=by
 cases d <;> first|exact bO e|exact congrArg D.ref (Option.some.inj e)
theorem qcQ {d:D}{i:Nat}(e:RW d=some i):d=.fn i:=by
 cases d <;> first|exact bO e|exact congrArg D.fn (Option.some.inj e)
theorem S6 {d:D}{u:Unit}(e:xM d=some u):d=.none:=by
 cases d <;> first|rfl|exact bO e
theorem qbh {X:Txt}{W:Addr->Prop}{h:Heap}{d:D}{v:Value}{i:Int}(r:Rep X ads W h d v)(e:dZ d=some i):∃t,v=.int i t:=by rw[uX e]at r;exact r
theorem jM {α:Type}{X:Txt}{W:Addr->Prop}{h:Heap}{d:D}{v:Value}{f:Int->Option α}{x:α}{H:Prop}(r:Rep X ads W h d v)(e:(dZ d).bind f=some x)(k:∀i t,v=.int i t->f i=some x->H):H :=
 aJ e λi h1 e=>elim (qbh r h1) λt q=>k i t q e
theorem JW {α:Type}{X:Txt}{W:Addr->Prop}{h:Heap}{d d':D}{v v':Value}{f:Int->Int->Option α}{x:α}{H:Prop}(r:Rep X ads W h d v)(r':Rep X ads W h d' v')(e:jX d d' f=some x)(k:∀i j t u,v=.int i t->v'=.int j u->f i j=some x->H):H :=
 jM r e λi t h1 e=>jM r' e λj u h2 e=>k i j t u h1 h2 e
theorem d8 {α:Type}{p:Prop}[Decidable p]{x:Option α}{r:α}{H:Prop}(e:(if p then x else .none)=some r)(k:p->x=some r->H):H:=by
 by_cases h:p
 ·rw[if_pos h]at e;exact k h e
 ·rw[if_neg h]at e;cases e
theorem qfj {α:Type}{p:Prop}[Decidable p]{x:Option α}{r:α}{H:Prop}(e:(if p then .none else x)=some r)(k:¬p->x=some r->H):H:=by
 by_cases h:p
 ·rw[if_pos h]at e;cases e
 ·rw[if_neg h]at e;exact k h e
theorem xV {α:Type}{b:Bool}{x:Option α}{r:α}{H:Prop}(e:(bif b then x else .none)=some r)(k:b=true->x=some r->H):H:=by
 cases b with
 | true=>exact k rfl e
 | false=>cases e
theorem qfU {h:Heap}{k:Nat}{v:Value}{l:List D}(R:c.R Z lk h ads σ)(r:c.P Z ads σ h (.ref k) v)(e:(σ[k]?).bind j5=some l) :
  ∃a vs,v=.ref a/\h.PlainList a (toArray vs)/\c.PL Z ads σ h l vs/\l.length<=lim :=
 elim r λp hp=>aJ e λo ho e=>by
  have q:=R.objs _ _ _ hp.1 ho;rcases qgO e with rfl|rfl <;> exact elim q λvs q=>⟨p.1,vs,hp.2,q.1,q.2.1,q.2.2.1⟩
theorem jU {h:Heap}{d:D}{v:Value}{l:List D}(R:c.R Z lk h ads σ)(r:c.P Z ads σ h d v)(e:asList σ d=some l) :
  ∃a vs,v=.ref a/\h.PlainList a (toArray vs)/\c.PL Z ads σ h l vs/\l.length<=lim:=by
 cases d <;> first|exact bO e|exact qfU R r e|exact eE r λa vs h1 h2 _ h4 h5=>⟨a,vs,h1,h2,Option.some.inj e▸h5,Option.some.inj e▸h4⟩
theorem vQ {l:List D}{vs:List Value}(hl:l.length<=lim)(he:vs.length=l.length):((toArray vs).size:Int)<2^63:=by
 rw[size_toArray,he];exact qad hl
theorem jQ {l:List D}{vs:List Value}(hl:l.length<=lim)(he:vs.length=l.length):(toArray vs).size<=sizeLine:=by
 rw[size_toArray,he];unfold lim at hl;unfold sizeLine;omega
theorem I2 {X:Txt}{W:Addr->Prop}{h:Heap}{l:List D}{vs:List Value}(hr:aX X ads W h l vs):(!(toArray vs).isEmpty)=(!l.isEmpty):=by
 cases l with
 | nil=>cases hr;rfl
 | cons d l=>obtain⟨v,r,rfl,_⟩:=hr;rfl
theorem R0 {d:D}{v:Value}{b:Bool}(R:c.R Z lk s.heap ads σ)(r:c.P Z ads σ s.heap d v)(e:truth σ d=some b){Q:Bool->Shared->Prop}{E:Value->Shared->Prop}(k:∀tk,Q b {s with toks:=tk}):wpAny (model c.prog c.w) A (truthy v) Q E s:=by
 have hlist:∀l,asList σ d=some l->b=(!l.isEmpty)->wpAny (model c.prog c.w) A (truthy v) Q E s:=λl hl hb =>
  c7 (jU R r hl) λa vs ha hp hr hlim=>ha▸wpAny_truthy_list (PlainList.isList hp) (vQ hlim hr.length) (((I2 hr).trans hb.symm)▸k _)
 cases d with
 | none=>cases e;cases r;exact truthy_none (k s.toks)
 | bool=>cases e;cases r;exact wpAny_truthy_bool (k s.toks)
 | int=>cases e;obtain⟨t,rfl⟩:=r;exact truthy_int (k s.toks)
 | tup l =>
  cases e;exact iT r λa vs m ha hp _ hl hr=>ha▸ktl_truthy hp (by have:=vQ hl hr.length;exact(cN 0x1010f1a1 rfl this)) ((I2 hr)▸k _)
 | list l=>exact hlist l rfl (Option.some.inj e).symm
 | ref i=>exact aJ e λl hl e=>hlist l hl (Option.some.inj e).symm
 | rng=>cases e
 | fn=>cases e
theorem qji {e:Expr}{f:Loc->Store->Option (D×Store)}(S:bL c n C e f)(he:∀env whole,isTrue e env whole=(do let v <-whole;standAt e.pos;holding [v] (truthy v))):kE c n C e f:=by
 intro A Z lk s ads ρ σ env d σ' b hf ht hA R V Q E k;refine wpAny_isTrue_value (S A Z lk s ads ρ σ env d σ' hf hA R V _ _ λv s' aG x R' r=>?_) (he _ _);exact R0 R' r ht λtk=>k _ aG (x.tokR tk) R'
theorem qbD {b:Int}(e:small b=true):Builtin.Int.intBits b<=64:=by
 have h:=of_decide_eq_true e;unfold Builtin.Int.intBits;split
 ·exact aA (jZ 0x08f0409a1 rfl)
 ·rename_i h0;have hb:b.natAbs≠0:=by simpa using h0
  have:b.natAbs.log2<62:=(Nat.log2_lt hb).mpr (by omega);exact aA (aK 0xf0af0409a103e9f0a1 rfl this)
theorem qbE {a b:Int}(e:small b=true):Builtin.divisionGoesByPylong a b=false:=by
 have h:=of_decide_eq_true e;unfold Builtin.divisionGoesByPylong;simp only[Bool.and_eq_false_iff,decide_eq_false_iff_not];left;split
 ·exact(jZ 0x08f12c9a1 rfl)
 ·rename_i h0;have hb:b.natAbs≠0:=by simpa using h0
  have:b.natAbs.log2<62:=(Nat.log2_lt hb).mpr (by omega);exact Nat.not_lt.mpr (le_trans (Nat.succ_le_succ (Nat.div_le_self _ _)) (le_trans this (by decide)))
theorem qjL {a b:Int}(e:(small a||small b)=true):IntMulOk a b:=by
 unfold IntMulOk shortFactorBits;intro q;rcases Bool.or_eq_true_iff.mp e with e|e
 ·have:=qbD e;simp only[and_eq_true,decide_eq_true_eq]at q;exact lin [_] 0x0f0409a1040901 rfl this q.1.1
 ·have:=qbD e;simp only[and_eq_true,decide_eq_true_eq]at q;exact lin [_] 0x0f0409a1040901 rfl this q.1.2
theorem MP {h:Heap}{l:List D}{vs:List Value}(R:c.R Z lk h ads σ)(r:c.PL Z ads σ h l vs)(hl:l.length<=lim) :
  c.P Z ads σ (h.push {cls:=.type "list",data:=.seq vs.toArray}) (.list l) (.ref h.objs.size) :=
 ⟨_,vs,rfl,⟨0,Heap.get?_push_size _ rfl⟩,R.fresh_ww (bU _),hl,aX.mono (Sub.refl _) (λ_ _ _ _ e=>Heap.get?_push_of_some _ e) (λ_ _ _ x=>x) _ _ r⟩
theorem BV {h:Heap}{l:List D}{vs:List Value}(R:c.R Z lk h ads σ)(r:c.PL Z ads σ h l vs)(hl:l.length<=lim) :
  c.P Z ads σ (h.push {cls:=.type "tuple",data:=.seq vs.toArray}) (.tup l) (.ref h.objs.size) :=
 ⟨_,vs,0,rfl,Heap.get?_push_size _ rfl,R.fresh_ww (bU _),hl,aX.mono (Sub.refl _) (λ_ _ _ _ e=>Heap.get?_push_of_some _ e) (λ_ _ _ x=>x) _ _ r⟩
theorem yS (o:Obj)(tk:Nat):Ext Z ads σ s ads σ {s with heap:=s.heap.push o,toks:=tk}:=Ext.more (λ_ _ e=>Heap.get?_push_of_some _ e)
theorem Yields.castD {t:Sem Value}{d d':D}(e:some d=some d')(y:Yields c A t Z lk s ads σ d σ'):Yields c A t Z lk s ads σ d' σ':=by cases e;exact y
theorem ints2 {op:Value->Value->Sem Value}{a b r:D}{va vb:Value}{f:Int->Int->Option D}(ra:c.P Z ads σ s.heap a va)(rb:c.P Z ads σ s.heap b vb)(e:jX a b f=some r)(k:∀i j t u,f i j=some r->Yields c A (op (.int i t) (.int j u)) Z lk s ads σ r σ):Yields c A (op va vb) Z lk s ads σ r σ :=
 JW ra rb e λi j t u ha hb e=>by subst ha;subst hb;exact k i j t u e
theorem add_lists {l:List D}{b r:D}{va vb:Value}(R:c.R Z lk s.heap ads σ)(ra:c.P Z ads σ s.heap (.list l) va)(rb:c.P Z ads σ s.heap b vb)(e:((qZ b).bind λl'=>pB (l++l'))=some r) :
  Yields c A (binaryOp .Add va vb) Z lk s ads σ r σ :=
 aJ e λl' hb e=>d8 e λhs e=>Yields.castD e λQ E k=>by
  rw[S5 hb]at rb;refine eE ra λa vs ha hp _ hl hr=>eE rb λa' vs' ha' hp' _ hl' hr'=>elim hp λn hp=>elim hp' λn' hp'=>?_;rw[ha,ha'];refine P.add_list hp hp' ?_ (by rw[size_toArray,size_toArray,hr.length,hr'.length];rw[length_append]at hs;unfold lim at hs;unfold sizeLine;omega);rw[show vs.toArray++vs'.toArray=(vs++vs').toArray by simp];exact k _ _ ads (yS _ _) (R.push _) (MP R (hr.append hr') hs)
theorem qcG {i:Int}{b r:D}{va vb:Value}(R:c.R Z lk s.heap ads σ)(ra:c.P Z ads σ s.heap (.int i) va)(rb:c.P Z ads σ s.heap b vb)(e:((dZ b).bind λj=>some (D.int (i+j)))=some r) :
  Yields c A (binaryOp .Add va vb) Z lk s ads σ r σ :=
 ints2 (op:=binaryOp .Add) (a:=.int i) (f:=λi j=>some (.int (i+j))) ra rb e λi j t u e=>Yields.castD e λQ E k=>add_int (k _ _ ads (Ext.tok _) R ⟨_,rfl⟩)
theorem qc0 {op:Operator}{a b r:D}{va vb:Value}(R:c.R Z lk s.heap ads σ)(ra:c.P Z ads σ s.heap a va)(rb:c.P Z ads σ s.heap b vb)(e:binOp op a b=some r) :
  Yields c A (binaryOp op va vb) Z lk s ads σ r σ:=by
 cases op
 case Add =>
  cases a
  case int=>exact qcG R ra rb e
  case list=>exact add_lists R ra rb e
  all_goals exact bO e
 case Sub=>exact ints2 ra rb e λi j t u e=>Yields.castD e λQ E k=>sub_int (k _ _ ads (Ext.tok _) R ⟨_,rfl⟩)
 case Mult=>exact ints2 ra rb e λi j t u e=>d8 e λhs e=>Yields.castD e λQ E k=>mul_int (k _ _ ads (Ext.tok _) R ⟨_,rfl⟩) (qjL hs)
 case Mod=>exact ints2 ra rb e λi j t u e=>qfj e λhs e=>Yields.castD e λQ E k=>mod_int' hs (k _ _ ads (Ext.tok _) R ⟨_,rfl⟩)
 case BitXor=>exact ints2 ra rb e λi j t u e=>Yields.castD e λQ E k=>xor_int (k _ _ ads (Ext.tok _) R ⟨_,rfl⟩)
 case FloorDiv=>exact ints2 ra rb e λi j t u e=>d8 e λhs e=>Yields.castD e λQ E k=>floordiv_int hs.1 (k _ _ ads (Ext.tok _) R ⟨_,rfl⟩) (.inl (qbE hs.2))
 all_goals exact bO e
theorem qjm {F:aU}{op:Operator}{x y:E}{l r:Expr}{pos:Pos}(S1:bL c n C l (ev F x))(S2:bL c n C r (ev F y)):bL c n C (.BinOp l op r pos) (ev F (.bin op x y)) :=
 λA Z lk s ads ρ σ env d σ' hf hA R V=>aZ hf λd1 σ1 h1 hf=>aZ hf λd2 σ2 h2 hf=>aJ hf λd3 h3 e=>Yields.cast e λQ E k =>
  wpAny_BinOp (S1 A Z lk s ads ρ σ env d1 σ1 h1 hA R V _ _ λv s1 aN x1 R1 r1=>S2 A Z lk s1 aN ρ σ1 env d2 σ2 h2 hA R1 (V.ext x1) _ _ λv2 s2 bT x2 R2 r2 =>
   qc0 R2 (x2.rep r1) r2 h3 _ _ λv3 s3 bW x3 R3 r3=>k v3 s3 bW ((x1.trans x2).trans x3) R3 r3)
theorem qjA {F:aU}{x:E}{l:Expr}{pos:Pos}(S1:bL c n C l (ev F x)):bL c n C (.UnaryOp .USub l pos) (ev F (.neg x)) :=
 λA Z lk s ads ρ σ env d σ' hf hA R V=>aZ hf λd1 σ1 h1 hf=>aJ hf λi h2 e=>Yields.cast e λQ E k =>
  wpAny_UnaryOp (S1 A Z lk s ads ρ σ env d1 σ1 h1 hA R V _ _ λv s1 aN x1 R1 r1=>elim (qbh r1 h2) λt q=>q▸neg_int (k _ _ aN (x1.tokR _) R1 ⟨_,rfl⟩))
theorem qjj {F:aU}{x y:E}{l r:Expr}{pos:Pos}(S1:bL c n C l (ev F x))(S2:bL c n C r (ev F y)):bL c n C (.BoolOp .And [l,r] pos) (ev F (.and x y)) :=
 λA Z lk s ads ρ σ env d σ' hf hA R V=>aZ hf λd1 σ1 h1 hf=>aJ hf λb h2 e Q E k =>
  wpAny_And2 (S1 A Z lk s ads ρ σ env d1 σ1 h1 hA R V _ _ λv s1 aN x1 R1 r1=>R0 R1 r1 h2 λtk=>by
   cases b with
   | true=>exact S2 A Z lk {s1 with toks:=tk} aN ρ σ1 env d σ' e hA R1 (V.ext (x1.tokR tk)) _ _ λv2 s2 bT x2 R2 r2=>k v2 s2 bT ((x1.tokR tk).trans x2) R2 r2
   | false=>exact eG e λe1 e2=>k _ _ aN (e2▸x1.tokR tk) (e2▸R1) (e1▸e2▸r1))
theorem qjE {F:aU}{x y:E}{l r:Expr}{pos:Pos}(S1:bL c n C l (ev F x))(S2:bL c n C r (ev F y)):bL c n C (.BoolOp .Or [l,r] pos) (ev F (.or x y)) :=
 λA Z lk s ads ρ σ env d σ' hf hA R V=>aZ hf λd1 σ1 h1 hf=>aJ hf λb h2 e Q E k =>
  wpAny_Or2 (S1 A Z lk s ads ρ σ env d1 σ1 h1 hA R V _ _ λv s1 aN x1 R1 r1=>R0 R1 r1 h2 λtk=>by
   cases b with
   | false=>exact S2 A Z lk {s1 with toks:=tk} aN ρ σ1 env d σ' e hA R1 (V.ext (x1.tokR tk)) _ _ λv2 s2 bT x2 R2 r2=>k v2 s2 bT ((x1.tokR tk).trans x2) R2 r2
   | true=>exact eG e λe1 e2=>k _ _ aN (e2▸x1.tokR tk) (e2▸R1) (e1▸e2▸r1))
theorem qjy {F:aU}{x y z:E}{t l r:Expr}{pos:Pos}(S0:kE c n C t (ev F x))(S1:bL c n C l (ev F y))(S2:bL c n C r (ev F z)):bL c n C (.IfExp t l r pos) (ev F (.ite x y z)) :=
 λA Z lk s ads ρ σ env d σ' hf hA R V=>aZ hf λd1 σ1 h1 hf=>aJ hf λb h2 h3 Q E k =>
  wpAny_IfExp (S0 A Z lk s ads ρ σ env d1 σ1 b h1 h2 hA R V _ _ λs1 aN x1 R1=>by
   cases b with
   | true=>exact S1 A Z lk s1 aN ρ σ1 env d σ' h3 hA R1 (V.ext x1) _ _ λv2 s2 bT x2 R2 r2=>k v2 s2 bT (x1.trans x2) R2 r2
   | false=>exact S2 A Z lk s1 aN ρ σ1 env d σ' h3 hA R1 (V.ext x1) _ _ λv2 s2 bT x2 R2 r2=>k v2 s2 bT (x1.trans x2) R2 r2)
end
end Internal
end
section
open PySem PySem.W PyProof.Rows PySem.SeqAt
namespace Internal
theorem vL {f:D->D->Option Bool}:∀{a b:List D} {r:Bool},a.length=b.length->gO f a b=some r ->
  (∀(i:Nat) (x y:D),a[i]?=some x->b[i]?=some y->∃t,f x y=some t)/\(r=true↔∀(i:Nat) (x y:D),a[i]?=some x->b[i]?=some y->f x y=some true)
 | [],_,r,_,e=>⟨λi _ _ h=>absurd h (by simp),λ_ i _ _ h=>absurd h (by simp),λ_=>(Option.some.inj e).symm⟩
 | _::_,[],_,h,_=>absurd h (by simp)
 | x::xs,y::ys,r,h,e=>aJ e λt h1 e=>aJ e λu h2 e=>by
  have ih:=vL (Nat.succ.inj h) h2;have hc:∀(P:D->D->Prop),(∀(i:Nat) (a b:D),(x::xs)[i]?=some a->(y::ys)[i]?=some b->P a b)↔P x y/\∀(i:Nat) (a b:D),xs[i]?=some a->ys[i]?=some b->P a b:=λP =>
   ⟨λk=>⟨k 0 x y rfl rfl,λi=>k (i+1)⟩,λk i=>match i with
    | 0=>λa b ha hb=>Option.some.inj ha▸Option.some.inj hb▸k.1
    | i+1=>k.2 i⟩
  rw[hc,hc,<-ih.2,h1,<-Option.some.inj e,and_eq_true,Option.some.injEq];exact⟨⟨⟨t,rfl⟩,ih.1⟩,Iff.rfl⟩
section
variable {n:Nat}{d:D}{b:Bool}
theorem yK (e:bY (n+1) d .none=some b):d=.none/\b=true:=by cases d <;> first|exact bO e|exact⟨rfl,(Option.some.inj e).symm⟩
theorem yH {y:Bool}(e:bY (n+1) d (.bool y)=some b):∃x,d=.bool x/\b=(x==y):=by cases d <;> first|exact bO e|exact⟨_,rfl,(Option.some.inj e).symm⟩
theorem yI {y:Int}(e:bY (n+1) d (.int y)=some b):∃x,d=.int x/\b=(x==y):=by cases d <;> first|exact bO e|exact⟨_,rfl,(Option.some.inj e).symm⟩
theorem yJ {l':List D}(e:bY (n+1) d (.list l')=some b):∃l,d=.list l/\(if l.length==l'.length then gO (bY n) l l' else some false)=some b:=by cases d <;> first|exact bO e|exact⟨_,rfl,e⟩
theorem yL {l':List D}(e:bY (n+1) d (.tup l')=some b):∃l,d=.tup l/\l.length=l'.length/\gO (bY n) l l'=some b:=by cases d <;> first|exact bO e|exact d8 e λh e=>⟨_,rfl,eq_of_beq h,e⟩
end
section
variable {c:bJ}{A:Around}{Z:List Addr}{lk:Nat->Nat}{s:Shared}{ads:aY}{σ σ':Store}{n:Nat}{C:SC}{W:Addr->Prop}{h:Heap}{fr:List Env}
theorem qaZ {a:Addr}{vs vs':List Value}(x:h.PlainList a vs.toArray)(y:h.PlainList a vs'.toArray):vs=vs':=by
 obtain⟨n,e⟩:=x;obtain⟨m,e'⟩:=y;rw[e]at e';simp at e';exact e'.1
theorem qb1 {a:Addr}{vs vs':List Value}{n m:Nat}(e:h.get? a=some {cls:=.type "tuple",data:=.seq vs.toArray n}) (e':h.get? a=some {cls:=.type "tuple",data:=.seq vs'.toArray m}):vs=vs':=by
 rw[e]at e';simp at e';exact e'.1
theorem W7 {X:Txt}{n:Nat}{l l':List D}{vs:List Value}{b:Bool}(hr:aX X ads W h l vs)(hr':aX X ads W h l' vs)(ih:∀{d d' v b},Rep X ads W h d v->Rep X ads W h d' v->bY n d d'=some b->b=true)(e:gO (bY n) l l'=some b):b=true:=by
 have q:=vL (hr.length.symm.trans hr'.length) e;exact q.2.mpr λi x y hx hy=>elim (q.1 i x y hx hy) λt ht=>aF (hr.get hx) λv hv rv=>(ih rv (hr'.rep hy hv) ht)▸ht
theorem I5 {X:Txt}:∀(n:Nat) {d d':D} {v:Value} {b:Bool},Rep X ads W h d v->Rep X ads W h d' v->bY n d d'=some b->b=true
 | 0,_,_,_,_,_,_,e=>bO e
 | n+1,d,d',v,b,r,r',e=>by
  cases d'
  case none=>exact(yK e).2
  case bool y=>exact aF (yH e) λx hd hb=>by subst hd;rw[hb,Value.bool.inj (Eq.trans (Eq.symm r) r')];exact beq_self_eq_true _
  case int y =>
   exact aF (yI e) λx hd hb=>by
    subst hd;exact dH r λt ht=>dH r' λu hu=>by rw[hb,(Value.int.inj (ht.symm.trans hu)).1];exact beq_self_eq_true _
  case list l' =>
   exact aF (yJ e) λl hd e1=>by
    subst hd;exact eE r λa vs ha hp _ _ hr=>eE r' λa' vs' ha' hp' _ _ hr'=>by
     have q:=qaZ hp (Value.ref.inj (ha.symm.trans ha')▸hp');subst q;rw[if_pos (beq_iff_eq.mpr (hr.length.symm.trans hr'.length))]at e1;exact W7 hr hr' (λx y z=>I5 n x y z) e1
  case tup l' =>
   exact bM (yL e) λl hd _ e1=>by
    subst hd;exact iT r λa vs m ha hp _ _ hr=>iT r' λa' vs' m' ha' hp' _ _ hr'=>by
     have q:=qb1 hp (Value.ref.inj (ha.symm.trans ha')▸hp');subst q;exact W7 hr hr' (λx y z=>I5 n x y z) e1
  all_goals cases d <;> exact bO e
theorem W3 {X:Txt}{n:Nat}{l l' lx:List D}{vs:List Value}{b b':Bool}(hr:aX X ads W h l vs)(hr':aX X ads W h l' vs)(ih:∀{d d' x v b b'},Rep X ads W h d v->Rep X ads W h d' v->bY n d x=some b->bY n d' x=some b'->b=b')(hlx:l.length=lx.length)(e:gO (bY n) l lx=some b)(e':gO (bY n) l' lx=some b')(hb:b=true):b'=true:=by
 have hll:l.length=l'.length:=hr.length.symm.trans hr'.length;have q:=vL hlx e;have q':=vL (hll▸hlx) e';exact q'.2.mpr λi x y hx hy=>elim (q'.1 i x y hx hy) λt ht=>aF (hr'.get hx) λv hv rv=>by
  have hi:i<l.length:=hll▸(List.getElem?_eq_some_iff.mp hx).1;exact(ih (hr.rep (getElem?_eq_getElem hi) hv) rv (q.2.mp hb i _ y (getElem?_eq_getElem hi) hy) ht)▸ht
theorem W4 {X:Txt}{n:Nat}{l l' lx:List D}{vs:List Value}{b b':Bool}(hr:aX X ads W h l vs)(hr':aX X ads W h l' vs)(ih:∀{d d' x v b b'},Rep X ads W h d v->Rep X ads W h d' v->bY n d x=some b->bY n d' x=some b'->b=b')(hlx:l.length=lx.length)(e:gO (bY n) l lx=some b)(e':gO (bY n) l' lx=some b'):b=b' :=
 Bool.eq_iff_iff.mpr ⟨W3 hr hr' ih hlx e e',W3 hr' hr ih ((hr'.length.symm.trans hr.length).trans hlx) e' e⟩
theorem I4 {X:Txt}:∀(n:Nat) {d d' x:D} {v:Value} {b b':Bool},Rep X ads W h d v->Rep X ads W h d' v->bY n d x=some b->bY n d' x=some b'->b=b'
 | 0,_,_,_,_,_,_,_,_,e,_=>bO e
 | n+1,d,d',x,v,b,b',r,r',e,e'=>by
  cases x
  case none=>exact(yK e).2.trans (yK e').2.symm
  case bool y=>exact aF (yH e) λx hd hb=>aF (yH e') λx' hd' hb'=>by subst hd;subst hd';rw[hb,hb',Value.bool.inj (Eq.trans (Eq.symm r) r')]
  case int y =>
   exact aF (yI e) λx hd hb=>aF (yI e') λx' hd' hb'=>by
    subst hd;subst hd';exact dH r λt ht=>dH r' λu hu=>by rw[hb,hb',(Value.int.inj (ht.symm.trans hu)).1]
  case list lx =>
   exact aF (yJ e) λl hd e1=>aF (yJ e') λl' hd' e2=>by
    subst hd;subst hd';exact eE r λa vs ha hp _ _ hr=>eE r' λa' vs' ha' hp' _ _ hr'=>by
     have q:=qaZ hp (Value.ref.inj (ha.symm.trans ha')▸hp');subst q;rw[<-hr'.length,hr.length]at e2;by_cases hl:l.length=lx.length
     ·rw[if_pos (beq_iff_eq.mpr hl)]at e1 e2;exact W4 hr hr' (λx y z w=>I4 n x y z w) hl e1 e2
     ·rw[if_neg (λq=>hl (eq_of_beq q))]at e1 e2;exact Option.some.inj (e1.symm.trans e2)
  case tup lx =>
   exact bM (yL e) λl hd hl e1=>bM (yL e') λl' hd' _ e2=>by
    subst hd;subst hd';exact iT r λa vs m ha hp _ _ hr=>iT r' λa' vs' m' ha' hp' _ _ hr'=>by
     have q:=qb1 hp (Value.ref.inj (ha.symm.trans ha')▸hp');subst q;exact W4 hr hr' (λx y z w=>I4 n x y z w) hl e1 e2
  all_goals cases d <;> exact bO e
theorem all_range {l:Nat}{e:Nat->Bool}{b:Bool}(h:b=true↔∀i,i<l->e i=true):(List.range l).all e=b:=by
 rw[Bool.eq_iff_iff,h,all_eq_true];simp only[mem_range]
theorem ZS {X:Txt}{n:Nat}{l l':List D}{vs vs':List Value}{b:Bool}(ih:∀{d d' v v' b},Rep X ads W s.heap d v->Rep X ads W s.heap d' v'->bY n d d'=some b->EqAt A s v v' b)(hr:aX X ads W s.heap l vs)(hr':aX X ads W s.heap l' vs')(hlen:l.length=l'.length)(e1:gO (bY n) l l'=some b) :
  ∃ef:Nat->Bool,(∀j (h1:j<vs.toArray.size) (h2:j<vs'.toArray.size),EqAt A s vs.toArray[j] vs'.toArray[j] (ef j))/\(List.range vs.toArray.size).all ef=b:=by
 have q:=vL hlen e1;refine⟨λj=>((bY n (l.getD j .none) (l'.getD j .none)).getD false),λj h1 h2=>?_,all_range (q.2.trans ?_)⟩
 ·have j1:j<l.length:=hr.length▸h1;have j2:j<l'.length:=hr'.length▸h2;have g1:=getElem?_eq_getElem j1;have g2:=getElem?_eq_getElem j2;refine elim (q.1 j _ _ g1 g2) λt ht=>?_;show EqAt A s _ _ ((bY n (l.getD j .none) (l'.getD j .none)).getD false);rw[getD_eq_getElem?_getD,getD_eq_getElem?_getD,g1,g2];show EqAt A s _ _ ((bY n l[j] l'[j]).getD false);rw[ht];exact ih (hr.rep g1 (getElem?_eq_getElem h1)) (hr'.rep g2 (getElem?_eq_getElem h2)) ht
 ·have hs:vs.toArray.size=l.length:=hr.length;rw[hs];constructor
  ·intro hh i hi;have hi':i<l'.length:=hlen▸hi;show (bY n (l.getD i .none) (l'.getD i .none)).getD false=true;rw[getD_eq_getElem?_getD,getD_eq_getElem?_getD,getElem?_eq_getElem hi,getElem?_eq_getElem hi'];show (bY n l[i] l'[i]).getD false=true;rw[hh i _ _ (getElem?_eq_getElem hi) (getElem?_eq_getElem hi')];rfl
  ·intro hh i x y hx hy;have:(bY n (l.getD i .none) (l'.getD i .none)).getD false=true:=hh i (List.getElem?_eq_some_iff.mp hx).1;rw[getD_eq_getElem?_getD,getD_eq_getElem?_getD,hx,hy]at this;exact elim (q.1 i x y hx hy) λt ht=>by
    rw[ht];have this:(bY n x y).getD false=true:=this;rw[ht]at this;exact congrArg some this
theorem yG {X:Txt}:∀(n:Nat) (A:Around) {d d':D} {v v':Value} {b:Bool},A.units+n<cLine->Rep X ads W s.heap d v->Rep X ads W s.heap d' v'->bY n d d'=some b->EqAt A s v v' b/\RcAt A s v v' b/\RcNeAt A s v v' (!b)
 | 0=>λ_ {_} {_} {_} {_} {_} _ _ _ e=>bO e
 | n+1=>λA {d} {d'} {v} {v'} {b} hu r r' e=>by
  have hu0:A.units<cLine:=lt_of_le_of_lt (Nat.le_add_right _ _) hu;have hu1:A.in1.units+n<cLine:=by rw[Around.in1_units];exact ltN (aC 0x2f1aa010ff2a1aa1 rfl hu)
  have fin:∀a a',v=.ref a->v'=.ref a'->RcAt A s (.ref a) (.ref a') b/\RcNeAt A s (.ref a) (.ref a') (!b)->EqAt A s v v' b/\RcAt A s v v' b/\RcNeAt A s v v' (!b):=λa a' ha ha' main=>by
   have hself:=λ(hv:v=v')=>I5 (X:=X) (n+1) r (hv▸r') e;subst ha;subst ha';refine⟨?_,main⟩;by_cases q:a=a'
   ·subst q;rw[hself rfl];exact EqAt.same _
   ·exact EqAt.of_refs q main.1
  have ih:∀{d d' v v' b},Rep X ads W s.heap d v->Rep X ads W s.heap d' v'->bY n d d'=some b->EqAt A.in1 s v v' b:=λx y z=>(yG n A.in1 hu1 x y z).1;cases d'
  case none =>
   obtain⟨rfl,rfl⟩:=yK e;cases r;cases r';exact⟨EqAt.same _,RcAt.none_none,RcNeAt.none_none⟩
  case bool y =>
   exact aF (yH e) λx hd hb=>by
    subst hd;subst hb;cases r;cases r';exact⟨EqAt.bool_bool _ _,RcAt.bool_bool _ _,RcNeAt.bool_bool _ _⟩
  case int y =>
   exact aF (yI e) λx hd hb=>by
    subst hd;subst hb;exact dH r λt ht=>dH r' λu hu=>by subst ht;subst hu;exact⟨EqAt.int_int _ _ _ _,RcAt.int_int _ _ _ _,RcNeAt.int_int _ _ _ _⟩
  case list l' =>
   exact aF (yJ e) λl hd e1=>by
    subst hd;refine eE r λa vs ha hp _ _ hr=>eE r' λa' vs' ha' hp' _ _ hr'=>fin a a' ha ha' ?_;have hs1:vs.toArray.size=l.length:=hr.length;have hs2:vs'.toArray.size=l'.length:=hr'.length;by_cases hlen:l.length=l'.length
    ·rw[if_pos (beq_iff_eq.mpr hlen)]at e1;exact aF (ZS ih hr hr' hlen e1) λef he hb=>⟨hb▸RcAt.lists (PlainList.isList hp) (PlainList.isList hp') (hs1.trans (hlen.trans hs2.symm)) hu0 he,hb▸RcNeAt.lists (PlainList.isList hp) (PlainList.isList hp') (hs1.trans (hlen.trans hs2.symm)) hu0 he⟩
    ·rw[if_neg (λq=>hlen (eq_of_beq q))]at e1;rw[<-Option.some.inj e1];have hsz:(vs.toArray.size != vs'.toArray.size)=true:=bne_iff_ne.mpr (hs1.symm▸hs2.symm▸hlen);exact⟨RcAt.lists_lengths (PlainList.isList hp) (PlainList.isList hp') hsz hu0,RcNeAt.lists_lengths (PlainList.isList hp) (PlainList.isList hp') hsz hu0⟩
  case tup l' =>
   exact bM (yL e) λl hd hlen e1=>by
    subst hd;refine iT r λa vs m ha hp _ _ hr=>iT r' λa' vs' m' ha' hp' _ _ hr'=>fin a a' ha ha' ?_;have hl:s.heap.IsTuple a vs.toArray:=⟨_,hp,rfl,m,rfl⟩;have hl':s.heap.IsTuple a' vs'.toArray:=⟨_,hp',rfl,m',rfl⟩;refine aF (ZS ih hr hr' hlen e1) λef he hb=>?_;have hsz:vs.toArray.size=vs'.toArray.size:=(hr.length.trans hlen).trans hr'.length.symm;have hb':((List.range (min vs.toArray.size vs'.toArray.size)).all ef&&vs.toArray.size==vs'.toArray.size)=b:=by
     rw[<-hsz,Nat.min_self,beq_self_eq_true,Bool.and_true,hb]
    exact⟨hb'▸RcAt.tuples hl hl' hu0 he,hb'▸RcNeAt.tuples hl hl' hu0 he⟩
  all_goals cases d <;> exact bO e
theorem W9 {x:D}:∀{l:List D} {bs:List Bool},eqs x l=some bs->bs.length=l.length/\∀(i:Nat) (d:D),l[i]?=some d->∃b,bs[i]?=some b/\bY deep d x=some b
 | [],bs,e=>Option.some.inj e▸⟨rfl,λi d h=>absurd h (by simp)⟩
 | d::ds,bs,e=>aJ e λb h1 e=>aJ e λbs' h2 e=>by
  have q:=W9 h2;rw[<-Option.some.inj e];refine⟨congrArg Nat.succ q.1,λi y hy=>?_⟩
  match i,hy with
  | 0,hy=>exact⟨b,rfl,Option.some.inj hy▸h1⟩
  | i+1,hy=>exact q.2 i y hy
open Classical in
theorem yM {X:Txt}{x:D}{vx:Value}{l:List D}{vs:List Value}{bs:List Bool}(hu:A.units+deep<cLine)(hr:aX X ads W s.heap l vs)(rx:Rep X ads W s.heap x vx)(e:eqs x l=some bs) :
  ∃f:Value->Bool,(∀y,y∈vs->EqAt A s y vx (f y))/\vs.map f=bs:=by
 refine bI (W9 e) λp q=>?_;let f:Value->Bool:=λy=>decide (∃(i:Nat) (d:D),l[i]?=some d/\vs[i]?=some y/\bY deep d x=some true);have key:∀(i:Nat) (y:Value),vs[i]?=some y->∃b,bs[i]?=some b/\f y=b/\EqAt A s y vx b:=by
  intro i y hy;have hi:i<l.length:=by rw[<-hr.length];exact(List.getElem?_eq_some_iff.mp hy).1
  refine aF (q i l[i] (getElem?_eq_getElem hi)) λb hb he=>?_;have ry:=hr.rep (getElem?_eq_getElem hi) hy;refine⟨b,hb,?_,(yG deep A hu ry rx he).1⟩;cases b with
  | true=>exact decide_eq_true ⟨i,l[i],getElem?_eq_getElem hi,hy,he⟩
  | false =>
   refine decide_eq_false ?_;rintro⟨j,d,h1,h2,h3⟩;exact absurd (I4 deep (hr.rep h1 h2) ry h3 he) (by decide)
 refine⟨f,λy hy=>?_,?_⟩
 ·refine dH (List.mem_iff_getElem?.mp hy) λi hi=>?_;refine bM (key i y hi) λb _ h2 h3=>?_;rw[h2];exact h3
 ·apply List.ext_getElem?;intro i;rw[getElem?_map];cases hv:vs[i]? with
  | some y =>
   refine bM (key i y hv) λb h1 h2 _=>?_;rw[h1,Option.map_some,h2]
  | none =>
   have:bs.length<=i:=by rw[p,<-hr.length];exact List.getElem?_eq_none_iff.mp hv
   rw[List.getElem?_eq_none this];rfl
theorem dI.units_lt {m:Nat}(hA:dI A n fr)(hm:m<=900):A.units+m<cLine:=R8 hA.units (le_trans (Nat.succ_le_succ hm) (by decide))
theorem qik {X:Txt}{d:D}{v:Value}(r:Rep X ads W h d v):Rep X ads (λ_=>False) h d v:=Rep.mono (Sub.refl _) (λ_ _ _ _ e=>e) (λ_ _ _ x=>x.elim) d v r
theorem qij {X:Txt}{d:List D}{v:List Value}(r:aX X ads W h d v):aX X ads (λ_=>False) h d v:=aX.mono (Sub.refl _) (λ_ _ _ _ e=>e) (λ_ _ _ x=>x.elim) d v r
theorem DG {d:D}{v:Value}(R:c.R Z lk h ads σ)(r:c.P Z ads σ h d v):Rep c.X ads (λ_=>False) h (top σ d) v:=by
 unfold top;split
 ·rename_i l e;refine c7 (jU R r e) λa vs qhO hp hr hl=>?_;subst qhO;exact⟨a,vs,rfl,hp,id,hl,qij hr⟩
 ·exact qik r
theorem sW {b:Bool}{t:Sem Value}(R:c.R Z lk s.heap ads σ)(h:∀(Q:Value->Shared->Prop) (E:Value->Shared->Prop),(∀tk,Q (.bool b) {s with toks:=tk})->wpAny (model c.prog c.w) A t Q E s) :
  Yields c A t Z lk s ads σ (.bool b) σ:=λQ E k=>h Q E λtk=>k _ _ ads (Ext.tok tk) R rfl
theorem Rel.dict_ne {h:Heap}{k:Nat}{p:Addr×Addr}(B:Base c)(R:c.R Z lk h ads σ)(hp:ads[k]?=some p):(p.1==sysModules)=false:=by
 simp only[beq_eq_false_iff_ne,ne_eq];intro e;obtain⟨o,ho⟩:=B.mods;rw[<-e,(R.new k p hp).1]at ho;cases ho
theorem cM.keys {X:Txt}:∀{es:List (Int×D)} {kvs:List (Int×Value)},cM X ads W h es kvs->kvs.map (·.1)=es.map (·.1)
 | [],_,e=>by cases e;rfl
 | (i,d)::r,_,e=>by refine cY (e) λv q O6 _ h2=>?_;subst O6;simp[cM.keys h2]
theorem cM.find {X:Txt}(i:Int):∀{es:List (Int×D)} {kvs:List (Int×Value)},cM X ads W h es kvs->match es.lookup i with
  | some d=>∃v,valueAt kvs i=some v/\Rep X ads W h d v
  | .none=>valueAt kvs i=none
 | [],_,e=>by cases e;simp[valueAt]
 | (j,d)::r,_,e=>by
  refine cY (e) λv q O7 h1 h2=>?_;subst O7;rw[lookup_cons];by_cases hj:i=j
  ·subst hj;simp only[beq_self_eq_true];exact⟨v,by simp[valueAt],h1⟩
  ·have hb:(i==j)=false:=by simpa using hj
   rw[hb];have:valueAt ((j,v)::q) i=valueAt q i:=by
    unfold valueAt;rw[find?_cons,decide_eq_false (λx=>hj x.symm)]
   rw[this];exact cM.find i h2
theorem RQ (i:Int):∀(es:List (Int×D)),(es.any λe=>e.1==i)=(es.lookup i).isSome
 | []=>rfl
 | (j,d)::r=>by
  rw[any_cons,lookup_cons,RQ i r];by_cases hj:i=j
  ·subst hj;simp
  ·have h1:(i==j)=false:=by simpa using hj
   have h2:(j==i)=false:=by simpa using λx:j=i=>hj x.symm
   rw[h1];simp[h2]
theorem xW {prog:Program}{w:World}{d:Addr}{kvs:List (Int×Value)}(x:h.DictOf (intKind prog w) d kvs):h.MapOf (intKind prog w) d (valueAt kvs):=by
 exact Heap.DictOf.mapOf x
noncomputable def w7 (c:bJ)(A:Around)(s:Shared)(vx vy:Value)(b:Bool):Prop :=
  (∀(Q:Value->Shared->Prop) (E:Value->Shared->Prop),(∀tk,Q (.bool b) {s with toks:=tk})->wpAny (model c.prog c.w) A (compareOp .In vx vy) Q E s) /\
  (∀(Q:Value->Shared->Prop) (E:Value->Shared->Prop),(∀tk,Q (.bool (!b)) {s with toks:=tk})->wpAny (model c.prog c.w) A (compareOp .NotIn vx vy) Q E s)
theorem in_list {x:D}{vx vy:Value}{b:Bool}{a:Addr}{vs:List Value}{l:List D}(hA:dI A n fr)(rx:c.P Z ads σ s.heap x vx)(hv:vy=.ref a)(hp:s.heap.PlainList a vs.toArray)(hr:c.PL Z ads σ s.heap l vs)(e:pZ x l=some b):w7 c A s vx vy b :=
 aJ e λbs hbs e=>aF (yM (A:=A.in1) (by rw[Around.in1_units];have:=hA.units;unfold cLine deep;omega) hr rx hbs) λf hf hm=>by
  subst hv;have he:vs.toArray.any f=b:=by rw[<-Option.some.inj e,<-hm];simp[any_map]
  have hf':∀y,y∈vs.toArray->EqAt A.in1 s y vx (f y):=λy hy=>hf y (mem_toArray.mp hy);exact⟨λQ E k=>in_listAt f (PlainList.isList hp) hf' (he▸k s.toks),λQ E k=>notIn_listAt f (PlainList.isList hp) hf' (he▸k s.toks)⟩
theorem in_tuple {x:D}{vx vy:Value}{b:Bool}{a:Addr}{vs:List Value}{l:List D}{m:Nat}(hA:dI A n fr)(rx:c.P Z ads σ s.heap x vx)(hv:vy=.ref a)(hp:s.heap.get? a=some {cls:=.type "tuple",data:=.seq vs.toArray m}) (hr:c.PL Z ads σ s.heap l vs) (e:pZ x l=some b):w7 c A s vx vy b :=
 aJ e λbs hbs e=>aF (yM (A:=A.in1) (by rw[Around.in1_units];have:=hA.units;unfold cLine deep;omega) hr rx hbs) λf hf hm=>by
  subst hv;have he:vs.toArray.any f=b:=by rw[<-Option.some.inj e,<-hm];simp[any_map]
  have hf':∀y,y∈vs.toArray->EqAt A.in1 s y vx (f y):=λy hy=>hf y (mem_toArray.mp hy);exact⟨λQ E k=>in_tupleAt f ⟨_,hp,rfl,m,rfl⟩ hf' (he▸k s.toks),λQ E k=>notIn_tupleAt f ⟨_,hp,rfl,m,rfl⟩ hf' (he▸k s.toks)⟩
theorem has_any {X:Txt}{es:List (Int×D)}{kvs:List (Int×Value)}{i:Int}(r:cM X ads W h es kvs):(valueAt kvs i).isSome=fC i es:=by
 unfold fC;rw[RQ];have:=r.find i;revert this;cases es.lookup i <;> intro this
 ·rw[show valueAt kvs i=none from this];rfl
 ·refine aF (this) λv h _=>?_;rw[h];rfl
theorem in_dict {x:D}{vx:Value}{b:Bool}{k:Nat}{p:Addr×Addr}{es:List (Int×D)}{kvs:List (Int×Value)}(B:Base c)(R:c.R Z lk s.heap ads σ)(hp:ads[k]?=some p)(rx:c.P Z ads σ s.heap x vx)(a:s.heap.DictOf (intKind c.prog c.w) p.1 kvs)(r:cM c.X ads (WW Z ads σ) s.heap es kvs)(e:((dZ x).bind λi=>some (fC i es))=some b):w7 c A s vx (.ref p.1) b :=
 jM rx e λi t ht e=>by
  subst ht;have hk:(intKind c.prog c.w).is i (.int i t)=true:=by simp[intKind,Value.isInt]
  have hb:(valueAt kvs i).isSome=b:=(has_any r).trans (Option.some.inj e);exact⟨λQ E k=>wpAny_in_of hk (Rel.dict_ne B R hp) (xW a) (hb▸k _),λQ E k=>wpAny_notIn_of hk (Rel.dict_ne B R hp) (xW a) (hb▸k _)⟩
theorem Z7 {x y:D}{vx vy:Value}{b:Bool}(B:Base c)(hA:dI A n fr)(R:c.R Z lk s.heap ads σ)(rx:c.P Z ads σ s.heap x vx)(ry:c.P Z ads σ s.heap y vy)(e:isIn σ x y=some b) :
  w7 c A s vx vy b:=by
 cases y
 case list l=>exact eE ry λa vs hv hp _ _ hr=>in_list hA rx hv hp hr e
 case tup l=>exact iT ry λa vs m hv hp _ _ hr=>in_tuple hA rx hv hp hr e
 case ref j =>
  exact aF ry λp hp hv=>aJ e λo ho e=>by
   have q:=R.objs _ _ _ hp ho;subst hv;cases o
   case list=>exact cL q λvs a r _ _=>in_list hA rx rfl a r e
   case llist=>exact cL q λvs a r _ _=>in_list hA rx rfl a r e
   case dict=>exact cL q λkvs a r _ _=>in_dict B R hp rx a r e
   case ldict=>exact cL q λkvs a r _ _=>in_dict B R hp rx (c7 (a) λo es h1 h2 h3 r=>⟨o,es,_,h1,h2,h3,r⟩) r e
   case set es =>
    exact jM rx e λi t ht e=>by
     subst ht;have hk:(intKind c.prog c.w).is i (.int i t)=true:=by simp[intKind,Value.isInt]
     rw[<-Option.some.inj e];exact⟨λQ E k=>wpAny_inSet_of hk rfl q.1 (k _),λQ E k=>wpAny_notInSet_of hk rfl q.1 (k _)⟩
   all_goals exact bO e
 all_goals exact bO e
theorem xT {op:CmpOp}{f:Int->Int->Bool}{x y:D}{vx vy:Value}{b:Bool}(R:c.R Z lk s.heap ads σ)(rx:c.P Z ads σ s.heap x vx)(ry:c.P Z ads σ s.heap y vy)(e:(jX x y λi j=>some (f i j))=some b)(k:∀i j t u (Q:Value->Shared->Prop) (E:Value->Shared->Prop),Q (.bool (f i j)) s->wpAny (model c.prog c.w) A (compareOp op (.int i t) (.int j u)) Q E s):Yields c A (compareOp op vx vy) Z lk s ads σ (.bool b) σ :=
 JW rx ry e λi j t u hx hy e=>by subst hx;subst hy;exact sW R λQ E k'=>k i j t u Q E ((Option.some.inj e)▸k' s.toks)
theorem ZM {X:Txt}{x:D}{vx:Value}{b:Bool}(rx:Rep X ads W h x vx)(e:JZ x=some b):(vx=.none/\b=true)\/((∃a,vx=.ref a)/\b=false):=by
 cases x
 case none=>exact .inl ⟨rx,(Option.some.inj e).symm⟩
 case ref=>exact .inr ⟨aF rx λp _ h=>⟨_,h⟩,(Option.some.inj e).symm⟩
 case list=>exact .inr ⟨eE rx λa _ h _ _ _ _=>⟨_,h⟩,(Option.some.inj e).symm⟩
 all_goals exact bO e
theorem HQ {op:CmpOp}{x y:D}{vx vy:Value}{b:Bool}(B:Base c)(hA:dI A n fr)(R:c.R Z lk s.heap ads σ)(rx:c.P Z ads σ s.heap x vx)(ry:c.P Z ads σ s.heap y vy)(e:cmpOp σ op x y=some b) :
  Yields c A (compareOp op vx vy) Z lk s ads σ (.bool b) σ:=by
 have hu:A.units+deep<cLine:=by have:=hA.units;unfold cLine deep;omega
 cases op
 case Lt=>exact xT R rx ry e λi j t u Q E k=>lt_int k
 case LtE=>exact xT R rx ry e λi j t u Q E k=>le_int k
 case Gt=>exact xT R rx ry e λi j t u Q E k=>gt_int k
 case GtE=>exact xT R rx ry e λi j t u Q E k=>ge_int k
 case Eq=>exact sW R λQ E k=>(yG deep A hu (DG R rx) (DG R ry) e).2.1 _ _ _ _ (k s.toks)
 case NotEq=>exact aJ e λr h1 e=>sW R λQ E k=>(yG deep A hu (DG R rx) (DG R ry) h1).2.2 _ _ _ _ ((Option.some.inj e)▸k s.toks)
 case In=>exact sW R λQ E k=>(Z7 B hA R rx ry e).1 Q E k
 case NotIn=>exact aJ e λr h1 e=>sW R λQ E k=>(Z7 B hA R rx ry h1).2 Q E ((Option.some.inj e)▸k)
 case Is =>
  exact aJ e λu h1 e=>sW R λQ E k=>by
   rw[S6 h1]at ry;cases ry;rcases ZM rx e with ⟨rfl,rfl⟩|⟨⟨a,rfl⟩,rfl⟩ <;> exact wpAny_is_plain rfl (k s.toks)
 case IsNot =>
  exact aJ e λu h1 e=>aJ e λr h2 e=>sW R λQ E k=>by
   rw[S6 h1]at ry;cases ry;rw[<-Option.some.inj e]at k;rcases ZM rx h2 with ⟨rfl,rfl⟩|⟨⟨a,rfl⟩,rfl⟩ <;> exact wpAny_isNot_plain rfl (k s.toks)
theorem qjr {F:aU}{op:CmpOp}{x y:E}{l r:Expr}{pos:Pos}(B:Base c)(S1:bL c n C l (ev F x))(S2:bL c n C r (ev F y))(hm:behindInMarks op r=false):bL c n C (.Compare l [op] [r] pos) (ev F (.cmp op x y)) :=
 λA Z lk s ads ρ σ env d σ' hf hA R V=>aZ hf λd1 σ1 h1 hf=>aZ hf λd2 σ2 h2 hf=>aJ hf λb h3 e=>Yields.cast e λQ E k =>
  wpAny_Compare1 (S1 A Z lk s ads ρ σ env d1 σ1 h1 hA R V _ _ λv s1 aN x1 R1 r1=>S2 A Z lk s1 aN ρ σ1 env d2 σ2 h2 hA R1 (V.ext x1) _ _ λv2 s2 bT x2 R2 r2 =>
   HQ B hA R2 (x2.rep r1) r2 h3 _ _ λv3 s3 bW x3 R3 r3=>k v3 s3 bW ((x1.trans x2).trans x3) R3 r3) hm
theorem qjg {F:aU}{op:CmpOp}{x y:E}{l r:Expr}{pos:Pos}(B:Base c)(S1:bL c n C l (ev F x))(S2:bL c n C r (ev F y))(hm:behindInMarks op r=false):kE c n C (.Compare l [op] [r] pos) (ev F (.cmp op x y)) :=
 λA Z lk s ads ρ σ env d σ' b hf ht hA R V=>aZ hf λd1 σ1 h1 hf=>aZ hf λd2 σ2 h2 hf=>aJ hf λb' h3 e=>by
  cases e;cases ht;exact λQ E k=>wpAny_isTrue_Compare1 (S1 A Z lk s ads ρ σ env d1 σ1 h1 hA R V _ _ λv s1 aN x1 R1 r1=>S2 A Z lk s1 aN ρ σ1 env d2 σ2 h2 hA R1 (V.ext x1) _ _ λv2 s2 bT x2 R2 r2 =>
   HQ B hA R2 (x2.rep r1) r2 h3 _ _ λv3 s3 bW x3 R3 r3=>(show v3=_ from r3)▸wpAny_truthy_bool (k s3 bW ((x1.trans x2).trans x3) R3)) hm
theorem RN {op:BoolOp}{e:Expr}{f:Loc->Store->Option (D×Store)}(S:kE c n C e f):∀(A:Around) (Z:List Addr) (lk:Nat->Nat) (s:Shared) (ads:aY) (ρ:Loc) (σ:Store) (env:Env) (d:D) (σ':Store) (b:Bool),f ρ σ=some (d,σ')->truth σ' d=some b->dI A n C.fr->c.R Z lk s.heap ads σ->bK c C env ρ Z ads σ s.heap ->
  GR c A (allTrue op [e] env) Z lk s ads σ b σ':=λA Z lk s ads ρ σ env d σ' b hf ht hA R V Q E k=>by
 refine wpAny_bind (S A Z lk s ads ρ σ env d σ' b hf ht hA R V _ _ λs1 aN x1 R1=>?_);cases op <;> cases b <;> exact wpAny_pure (k s1 aN x1 R1)
theorem qjh {F:aU}{x y:E}{l r:Expr}{pos:Pos}(S1:kE c n C l (ev F x))(S2:kE c n C r (ev F y)):kE c n C (.BoolOp .Or [l,r] pos) (ev F (.or x y)) :=
 λA Z lk s ads ρ σ env d σ' b hf ht hA R V=>aZ hf λd1 σ1 h1 hf=>aJ hf λb1 h2 e Q E k=>wpAny_isTrue_BoolOp (wpAny_bind (S1 A Z lk s ads ρ σ env d1 σ1 b1 h1 h2 hA R V _ _ λs1 aN x1 R1=>by
  cases b1 with
  | true =>
   refine eG e λe1 e2=>?_;rw[e1,e2]at h2;cases h2.symm.trans ht;exact wpAny_pure (k s1 aN (e2▸x1) (e2▸R1))
  | false=>exact RN S2 A Z lk s1 aN ρ σ1 env d σ' b e ht hA R1 (V.ext x1) _ _ λs2 bT x2 R2=>k s2 bT (x1.trans x2) R2))
theorem qjf {F:aU}{x y:E}{l r:Expr}{pos:Pos}(S1:kE c n C l (ev F x))(S2:kE c n C r (ev F y)):kE c n C (.BoolOp .And [l,r] pos) (ev F (.and x y)) :=
 λA Z lk s ads ρ σ env d σ' b hf ht hA R V=>aZ hf λd1 σ1 h1 hf=>aJ hf λb1 h2 e Q E k=>wpAny_isTrue_BoolOp (wpAny_bind (S1 A Z lk s ads ρ σ env d1 σ1 b1 h1 h2 hA R V _ _ λs1 aN x1 R1=>by
  cases b1 with
  | false =>
   refine eG e λe1 e2=>?_;rw[e1,e2]at h2;cases h2.symm.trans ht;exact wpAny_pure (k s1 aN (e2▸x1) (e2▸R1))
  | true=>exact RN S2 A Z lk s1 aN ρ σ1 env d σ' b e ht hA R1 (V.ext x1) _ _ λs2 bT x2 R2=>k s2 bT (x1.trans x2) R2))
end
end Internal
end
section
open PySem PySem.W PyProof.Rows
namespace Internal
namespace TS
noncomputable def nY:Bool->Keyed->Array Keyed->Nat->Nat->Nat->StateT SortSt Sem (Option Nat):=sortPriv% PySem.Builtin.gallop
noncomputable def rA (left:Bool)(key:Keyed)(arr:Array Keyed)(base i:Nat):StateT SortSt Sem (Option Bool):=do
 let x <-elem' arr (base+i)
 if left then lt' x key else return (<-lt' key x).map (!·)
noncomputable def zE (b:Nat->StateT SortSt Sem (Option Bool))(n lo hi:Nat):StateT SortSt Sem (Option Nat):=do
 let __s <-forIn [0:n] ((none,lo,hi):Option (Option Nat)×Nat×Nat) λ_ __s =>
  if __s.2.1 >= __s.2.2 then pure (ForInStep.done (none,__s.2.1,__s.2.2))
  else do
   let __x <-b (__s.2.1+(__s.2.2-__s.2.1)/2)
   match __x with
   | some more=>if more=true then pure (ForInStep.yield (none,__s.2.1+(__s.2.2-__s.2.1)/2+1,__s.2.2)) else pure (ForInStep.yield (none,__s.2.1,__s.2.1+(__s.2.2-__s.2.1)/2))
   | _=>pure (ForInStep.done (some none,__s.2.1,__s.2.2))
 match __s.1 with
 | some r=>pure r
 | none=>pure (some __s.2.2)
noncomputable def zB (b:Nat->StateT SortSt Sem (Option Bool))(n maxofs:Nat)(at_:Nat->Nat)(stop:Bool->Bool):StateT SortSt Sem (Option (Option Nat)×Nat×Nat) :=
 forIn [0:n] ((none,0,1):Option (Option Nat)×Nat×Nat) λ_ __s =>
  if __s.2.2 >= maxofs then pure (ForInStep.done (none,__s.2.1,__s.2.2))
  else do
   let __x <-b (at_ __s.2.2)
   match __x with
   | some more=>if stop more=true then pure (ForInStep.done (none,__s.2.1,__s.2.2)) else pure (ForInStep.yield (none,__s.2.2,2*__s.2.2+1))
   | _=>pure (ForInStep.done (some none,__s.2.1,__s.2.2))
theorem qeF (left:Bool)(key:Keyed)(arr:Array Keyed)(base n hint:Nat):nY left key arr base n hint=(do
  let __x <-rA left key arr base hint
  match __x with
  | some right =>
   if right=true then do
    let __s <-zB (rA left key arr base) n (n-hint) (λo=>hint+o) (λm=>!m)
    match __s.1 with
    | some r=>pure r
    | none=>zE (rA left key arr base) n (hint+__s.2.1+1) (hint+min __s.2.2 (n-hint))
   else do
    let __s <-zB (rA left key arr base) n (hint+1) (λo=>hint-o) (λm=>m)
    match __s.1 with
    | some r=>pure r
    | none=>zE (rA left key arr base) n (hint+1-min __s.2.2 (hint+1)) (hint-__s.2.1)
  | _=>pure none):=by kernel_rfl
class Kd where
 num:Value->Int
 ok:Value->Prop
class j9 [Kd] (prog:Program) (w:World) (A:Around) (s:Shared):Prop where
 lt:∀{x y:Value},Kd.ok x->Kd.ok y->∀{E:Value->Shared->Prop} {Q:Bool->Shared->Prop},Q (decide (Kd.num x<Kd.num y)) s->wpAny (model prog w) A (oneLt' true x y) Q E s
variable [Kd]
noncomputable def K (xs:Array Keyed)(i:Nat):Int:=match xs[i]? with
 | some p=>Kd.num p.1
 | none=>0
noncomputable def AllK (xs:Array Keyed):Prop:=∀p,p∈xs.toList->Kd.ok p.1
noncomputable def SortedTo (xs:Array Keyed)(k:Nat):Prop:=∀i j,i<=j->j<k->K xs i<=K xs j
theorem K_congr {xs ys:Array Keyed}{i j:Nat}(h:xs[i]?=ys[j]?):K xs i=K ys j:=by unfold K;rw[h]
theorem K_bubble {xs:Array Keyed}{src d:Nat}(hs:src<xs.size)(hd:d<=src)(k:Nat) :
  K (bubble xs src d) k=if k=src-d then K xs src else if src-d<k/\k<=src then K xs (k-1) else K xs k:=by
 have e:=getElem?_bubble hs d hd k;by_cases h1:k=src-d
 ·rw[if_pos h1]at e;exact(K_congr e).trans (if_pos h1).symm
 ·rw[if_neg h1]at e;refine Eq.trans ?_ (if_neg h1).symm;by_cases h2:src-d<k/\k<=src
  ·rw[if_pos h2]at e;exact(K_congr e).trans (if_pos h2).symm
  ·rw[if_neg h2]at e;exact(K_congr e).trans (if_neg h2).symm
theorem K_mirror {xs:Array Keyed}{i j:Nat}(hj:j<=xs.size)(k:Nat):K (mirror xs i j ((j-i)/2)) k=if i<=k/\k<j then K xs (i+j-1-k) else K xs k:=by
 have e:=getElem?_mirror_all (i:=i) hj k;by_cases h1:i<=k/\k<j
 ·rw[if_pos h1]at e;exact(K_congr e).trans (if_pos h1).symm
 ·rw[if_neg h1]at e;exact(K_congr e).trans (if_neg h1).symm
theorem K_mirror_equal {xs:Array Keyed}{i j:Nat}(hj:j<=xs.size)(heq:∀k,i<=k->k<j->K xs k=K xs (j-1))(k:Nat):K (mirror xs i j ((j-i)/2)) k=K xs k:=by
 rw[K_mirror hj];by_cases h:i<=k/\k<j
 ·rw[if_pos h,heq _ (by rw[Nat.sub_sub];exact Nat.le_sub_of_add_le (Nat.add_le_add_left (by rw[Nat.add_comm];exact h.2) i)) (by rw[Nat.sub_sub];exact Nat.sub_lt_left_of_lt_add (le_trans (by rw[Nat.add_comm];exact h.2) (Nat.le_add_left _ _)) (Nat.add_lt_add_right (by rw[Nat.add_comm];exact Nat.lt_succ_of_le h.1) _)),heq k h.1 h.2]
 ·exact if_neg h
section
variable {prog:Program}{w:World}{A:Around}{E:Value->Shared->Prop}{s:Shared}
noncomputable def Asks (prog:Program)(w:World)(A:Around)(E:Value->Shared->Prop)(s:Shared)(st:SortSt)(b:Nat->StateT SortSt Sem (Option Bool))(n:Nat)(p:Nat->Bool):Prop :=
 (∀i,i<n->∀Q:Option Bool->SortSt->Prop,Q (some (p i)) st->wpS (model prog w) A E s (b i) Q st)/\∀i j,i<=j->j<n->p j=true->p i=true
theorem qcg {st:SortSt}{b:Nat->StateT SortSt Sem (Option Bool)}{n:Nat}{p:Nat->Bool}(hb:Asks prog w A E s st b n p){lo hi:Nat}(hlh:lo<=hi)(hn:hi<=n)(hlo:∀i,i<lo->p i=true)(hhi:∀i,hi<=i->i<n->p i=false){Q:Option Nat->SortSt->Prop}(h:∀k,k<=n->(∀i,i<k->p i=true)->(∀i,k<=i->i<n->p i=false)->Q (some k) st):wpS (model prog w) A E s (zE b n lo hi) Q st:=by
 unfold zE;refine wpS_bind (wpS_mono (wpS_forRange (I:=λx c st'=>st'=st/\∃l r,c=(none,l,r)/\l<=r/\r<=n/\r-l<=n-x/\(∀i,i<l->p i=true)/\(∀i,r<=i->i<n->p i=false))
  (Q:=λc st'=>st'=st/\∃l,c=(none,l,l)/\l<=n/\(∀i,i<l->p i=true)/\(∀i,l<=i->i<n->p i=false)) ?step ?fin ⟨rfl,lo,hi,rfl,hlh,hn,by exact aA (aL 0x1f0a1211080a31321 rfl hn (aR _ _) (eV _ _)),hlo,hhi⟩) ?post)
 case post =>
  rintro c st' ⟨rfl,l,rfl,h1,h2,h3⟩;exact wpS_pure (h l h1 h2 h3)
 case fin =>
  rintro c st' ⟨rfl,l,r,rfl,h1,h2,h3,h4,h5⟩;have:l=r:=by rw[Nat.zero_max,sub_self]at h3;exact Nat.le_antisymm h1 (Nat.sub_eq_zero_iff_le.mp (Nat.le_zero.mp h3))
  subst this;exact⟨rfl,l,rfl,h2,h4,h5⟩
 case step =>
  rintro x c st' _ hx ⟨rfl,l,r,rfl,h1,h2,h3,h4,h5⟩;dsimp only;by_cases hge:l >= r
  ·rw[if_pos hge];have:l=r:=by exact bG (aA (aB 0x1f0a1011 rfl h1)) (aA (aB 0x1f0a1011 rfl hge))
   subst this;exact wpS_pure ⟨rfl,l,rfl,h2,h4,h5⟩
  ·rw[if_neg hge];refine wpS_bind (hb.1 _ (by exact ltN (bN 0x21a02314a1422c13f1a1032 rfl h2 (ltN hge) (d7 _ _) (aM (aA (aB 0x1f0a10f1a1 rfl (ltN hge)))))) _ ?_);dsimp only;cases hp:p (l+(r-l)/2) with
   | true =>
    rw[if_pos rfl];exact wpS_pure ⟨rfl,_,r,rfl,by exact aA (aL 0xf21aaf0a2013a1322c10f1a1 rfl (ltN hge) (d7 _ _) (aM (aA (aB 0x1f0a10f1a1 rfl (ltN hge))))),h2,le_trans (Nat.sub_le_sub_left (Nat.succ_le_succ (Nat.le_add_right _ _)) r) (by show r-(l+1)<=n-(x+1);rw[<-Nat.sub_sub,<-Nat.sub_sub];exact Nat.sub_le_sub_right h3 1),λi hi=>hb.2 i _ (by exact aA (aC 0x2f10aa1f10aaf2a1 rfl hi)) (by exact ltN (bN 0x21a02314a1422c13f1a1032 rfl h2 (ltN hge) (d7 _ _) (aM (aA (aB 0x1f0a10f1a1 rfl (ltN hge)))))) hp,h5⟩
   | false =>
    rw[if_neg (by decide)];refine wpS_pure ⟨rfl,l,_,rfl,by exact aA (aB 0x0f10aa1 rfl),by exact aA (bN 0x21af0a2314a1422c13f1a1032 rfl h2 (ltN hge) (d7 _ _) (aM (aA (aB 0x1f0a10f1a1 rfl (ltN hge))))),by exact aA (zX 0x1f0a2453a167a71a2262c1f5a0a41321 rfl h3 (aR _ _) (d7 _ _) (aM (aA (aB 0x0f10aa1 rfl))) (aM (aA (aB 0x1f0a10f1a1 rfl hx)))),h4,λi h6 h7=>?_⟩;cases hq:p i with
    | false=>rfl
    | true=>rw[hb.2 _ i h6 h7 hq]at hp;cases hp
theorem qcf {st:SortSt}{b:Nat->StateT SortSt Sem (Option Bool)}{n maxofs m:Nat}{p:Nat->Bool}(hb:Asks prog w A E s st b m p){at_:Nat->Nat}{stop:Bool->Bool}(hat:∀o,1<=o->o<maxofs->at_ o<m)(hmx:maxofs<=n)(hm1:1<=maxofs){Q:Option (Option Nat)×Nat×Nat->SortSt->Prop}(h:∀last ofs,last<maxofs->last<ofs->(last=0\/stop (p (at_ last))=false)->(maxofs<=ofs\/stop (p (at_ ofs))=true)->Q (none,last,ofs) st):wpS (model prog w) A E s (zB b n maxofs at_ stop) Q st:=by
 unfold zB;refine wpS_forRange (I:=λx c st'=>st'=st/\∃l o,c=(none,l,o)/\l<maxofs/\l<o/\x+1<=o/\(l=0\/stop (p (at_ l))=false)) ?step ?fin ⟨rfl,0,1,rfl,hm1,ltN (jZ 0x08f1 rfl),aA (jZ 0xf08affa1 rfl),.inl rfl⟩
 case fin =>
  rintro c st' ⟨rfl,l,o,rfl,h1,h2,h3,h4⟩;exact h l o h1 h2 h4 (.inl (le_trans hmx (le_trans (Nat.le_max_right 0 n) (Nat.le_of_succ_le h3))))
 case step =>
  rintro x c st' _ hx ⟨rfl,l,o,rfl,h1,h2,h3,h4⟩;dsimp only;by_cases hge:o >= maxofs
  ·rw[if_pos hge];exact wpS_pure (h l o h1 h2 h4 (.inl hge))
  ·rw[if_neg hge];refine wpS_bind (hb.1 _ (hat o (aA (aB 0xff0a10f1a1 rfl h2)) (ltN (aB 0x1010f1a1 rfl (ltN hge)))) _ ?_);dsimp only;cases hp:stop (p (at_ o)) with
   | true =>
    rw[if_pos rfl];exact wpS_pure (h l o h1 h2 h4 (.inr hp))
   | false =>
    rw[if_neg (by decide)];exact wpS_pure ⟨rfl,o,_,rfl,ltN (aB 0x1010f1a1 rfl (ltN hge)),ltN (aK 0x0f02ba1 rfl),aA (aB 0xff1aaff02baa10f1a2 rfl h3),.inr hp⟩
noncomputable def IK (x:Keyed):Prop:=Kd.ok x.1
theorem wW [j9 prog w A s]{st:SortSt}{x y:Keyed}(hk:kindOf st=oneType')(hx:IK x)(hy:IK y){Q:Option Bool->SortSt->Prop}(h:Q (some (decide (Kd.num x.1<Kd.num y.1))) st):wpS (model prog w) A E s (lt' x y) Q st:=by
 rw[lt'_eq];refine wpS_bind (wpS_get ?_);rw[hk,keyLt'_oneType];exact wpS_bind (wpS_lift (wpAny_attempt (j9.lt hx hy ⟨rfl,wpS_pure h⟩)))
theorem eX {st:SortSt}{arr:Array Keyed}{i:Nat}{x:Keyed}(e:arr[i]?=some x){Q:Keyed->SortSt->Prop}(h:Q x st):wpS (model prog w) A E s (elem' arr i) Q st:=by
 rw[elem'_eq,e];exact wpS_pure h
noncomputable def bP (left:Bool)(key:Keyed)(arr:Array Keyed)(base i:Nat):Bool:=if left then decide (K arr (base+i)<Kd.num key.1) else !decide (Kd.num key.1<K arr (base+i))
theorem G7 [j9 prog w A s]{st:SortSt}{left:Bool}{key:Keyed}{arr:Array Keyed}{base n hint:Nat}(hk:kindOf st=oneType')(hkey:IK key)(ha:∀i,i<n->∃x,arr[base+i]?=some x/\IK x)(hs:∀i j,i<=j->j<n->K arr (base+i)<=K arr (base+j))(hh:hint<n){Q:Option Nat->SortSt->Prop}(h:∀k,k<=n->(∀i,i<k->bP left key arr base i=true)->(∀i,k<=i->i<n->bP left key arr base i=false)->Q (some k) st):wpS (model prog w) A E s (nY left key arr base n hint) Q st:=by
 have hb:Asks prog w A E s st (rA left key arr base) n (bP left key arr base):=by
  refine⟨λi hi Q q=>?_,λi j hij hj e=>?_⟩
  ·refine aF (ha i hi) λx ex ix=>?_;have hK:K arr (base+i)=Kd.num x.1:=by unfold K;rw[ex]
   unfold rA;refine wpS_bind (eX ex ?_);unfold bP at q;rw[hK]at q;cases left with
   | true=>exact wW hk ix hkey q
   | false=>exact wpS_bind (wW hk hkey ix (wpS_pure q))
  ·unfold bP at e ⊢;have:=hs i j hij hj;cases left with
   | true=>exact decide_eq_true (Int.lt_of_le_of_lt this (of_decide_eq_true e))
   | false =>
    have e:(!decide (Kd.num key.1<K arr (base+j)))=true:=e;show (!decide (Kd.num key.1<K arr (base+i)))=true;simp only[not_eq_true',decide_eq_false_iff_not]at e ⊢;exact(mX 0x1f0a1021211 rfl this (bV e))
 rw[qeF];refine wpS_bind (hb.1 hint hh _ ?_);dsimp only;cases hp:bP left key arr base hint with
 | true =>
  rw[if_pos rfl];refine wpS_bind (qcf hb (λo _ ho=>by exact ltN (aL 0x21a01013a13f2a1 rfl ho (aM (aA (aB 0x1f0a10f1a1 rfl hh))))) (by exact aA (aB 0x1f0a1011 rfl (eV _ _))) (by exact aA (aC 0xff0a110a212f1a1 rfl hh (aR _ _))) λlast ofs h1 h2 h3 h4=>?_);dsimp only;refine qcg hb (by have hm:=Nat.le_min.mpr ⟨h2,h1⟩;exact aA (aC 0xf20aaf10aa112e1 rfl hm)) (by have hm:=Nat.min_le_right ofs (n-hint);exact aA (aL 0x21af0a1013a1321 rfl hm (aM (aA (aB 0x1f0a10f1a1 rfl hh))))) (λi hi=>?_) (λi hi hn=>?_) h
  ·rcases h3 with rfl|h3
   ·exact hb.2 i hint (by exact aA (aB 0x1f0a1f080aaf1a1 rfl hi)) hh hp
   ·exact hb.2 i (hint+last) (by exact aA (aC 0x2f10aa1f10aaf2a1 rfl hi)) (by exact ltN (aL 0x21a01013a13f2a1 rfl h1 (aM (aA (aB 0x1f0a10f1a1 rfl hh))))) (by simpa using h3)
  ·rcases h4 with h4|h4
   ·exfalso;rw[min_eq_right h4]at hi;exact lin [_,_,_,_] 0x23a11032a11f0a1 rfl hn hi (aR _ _)
   ·have h4:bP left key arr base (hint+ofs)=false:=by simpa using h4
    cases hq:bP left key arr base i with
    | false=>rfl
    | true =>
     rcases lt_or_ge ofs (n-hint) with q|q
     ·rw[min_eq_left (Nat.le_of_lt q)]at hi;rw[hb.2 (hint+ofs) i hi hn hq]at h4;cases h4
     ·exfalso;rw[min_eq_right q]at hi;exact lin [_,_,_,_] 0x23a11032a11f0a1 rfl hn hi (aR _ _)
 | false =>
  rw[if_neg (by decide)];refine wpS_bind (qcf hb (λo _ ho=>by exact ltN (aC 0x1012110f2a1 rfl hh (eV _ _))) (by exact aA (aB 0xf1af0a10f1a1 rfl hh)) (by exact aA (aK 0xfff0aa1 rfl)) λlast ofs h1 h2 h3 h4=>?_);dsimp only;refine qcg hb (by have hm:=Nat.le_min.mpr ⟨h2,h1⟩;have hm2:=Nat.min_le_right ofs (hint+1);exact aA (bN 0x1f0a1f4a31a120a4132e1 rfl hm (aR _ _) (aM (aA (aB 0x1ff0aa1f0a11 rfl hm2))))) (by exact aA (aC 0x1f0a12110f2a1 rfl hh (eV _ _))) (λi hi=>?_) (λi hi hn=>?_) h
  ·rcases h4 with h4|h4
   ·exfalso;rw[min_eq_right h4]at hi;exact lin [_,_,_] 0xf2af2a1a11f0a1 rfl hi (aM (aA (aK 0xf0aff0aa1 rfl)))
   ·exact hb.2 i (hint-ofs) (by rcases Nat.le_total ofs (hint+1) with q|q;{rw[min_eq_left q]at hi;exact aA (bN 0x1f0a1f3a42a140a312f1a1 rfl hi (aR _ _) (aM (aA (aB 0x1ff0aa1f0a11 rfl q))))};{rw[min_eq_right q]at hi;exact aA (aL 0x1f0a1f3af3a2a12f1a1 rfl hi (aM (aA (aK 0xf0aff0aa1 rfl))))}) (by exact ltN (aC 0x1012110f2a1 rfl hh (eV _ _))) h4
  ·have vX:bP left key arr base (hint-last)=false:=by
    rcases h3 with rfl|h3
    ·exact hp
    ·exact h3
   cases hq:bP left key arr base i with
   | false=>rfl
   | true=>rw[hb.2 (hint-last) i hi hn hq]at vX;cases vX
end
end TS
end Internal
end
section
open PySem PySem.W PyProof.Rows
namespace Internal
namespace TS
variable [Kd]
noncomputable def nk (x:Keyed):Int:=Kd.num x.1
noncomputable def fV (a:Array Keyed):Prop:=∀i j,i<=j->j<a.size->K a i<=K a j
noncomputable def lC (a:Array Keyed):Prop:=∀i,i<a.size->∃x,a[i]?=some x/\IK x
theorem cJ {a:Array Keyed}{i:Nat}{x:Keyed}(e:a[i]?=some x):K a i=nk x:=by unfold K nk;rw[e]
theorem RD {a:Array Keyed}{x:Keyed}(h:x∈a.toList):∃i,i<a.size/\K a i=nk x:=by
 obtain⟨i,hi,e⟩:=List.getElem_of_mem h;exact⟨i,by simpa using hi,cJ (by rw[<-e];simpa using Array.getElem?_eq_getElem (by simpa using hi))⟩
structure MI (a b out:Array Keyed) (ia ib:Nat):Prop where
 perm:out.toList.Perm (a.toList.take ia++b.toList.take ib)
 sorted:(out.toList.map nk).Pairwise (·<=·)
 ba:∀x∈out.toList,∀i,ia<=i->i<a.size->nk x<=K a i
 bb:∀x∈out.toList,∀j,ib<=j->j<b.size->nk x<=K b j
noncomputable def MR (a b m:Array Keyed):Prop:=m.toList.Perm (a.toList++b.toList)/\(m.toList.map nk).Pairwise (·<=·)
theorem QT {α:Type}{l:List α}{i:Nat}{x:α}(e:l[i]?=some x):l.take (i+1)=l.take i++[x]:=by
 rw[List.take_add_one,e];rfl
theorem qbM {l:List Keyed}{x:Keyed}(h:(l.map nk).Pairwise (·<=·))(k:∀y∈l,nk y<=nk x):((l++[x]).map nk).Pairwise (·<=·):=by
 rw[map_append,pairwise_append];refine⟨h,List.pairwise_singleton _ _,λu hu v hv=>?_⟩;obtain⟨y,hy,rfl⟩:=mem_map.mp hu;rw[mem_singleton.mp hv];exact k y hy
theorem xX {a:Array Keyed}{i:Nat}{x:Keyed}(h:x∈a.toList.drop i):∃j,i<=j/\j<a.size/\K a j=nk x:=by
 obtain⟨j,hj,e⟩:=List.getElem_of_mem h;rw[List.getElem_drop]at e;rw[length_drop,length_toList]at hj;exact⟨i+j,aA (aB 0x0f10aa1 rfl),Nat.add_lt_of_lt_sub' hj,cJ (by rw[<-e];simpa using Array.getElem?_eq_getElem (Nat.add_lt_of_lt_sub' hj))⟩
theorem xY {a:Array Keyed}(h:fV a)(i:Nat):((a.toList.drop i).map nk).Pairwise (·<=·):=by
 rw[List.pairwise_iff_getElem];intro p q hp hq hpq;simp only[length_map,length_drop,length_toList]at hp hq;have:=h (i+p) (i+q) (aA (aC 0x20af10aa11f2a1 rfl hpq)) (Nat.add_lt_of_lt_sub' hq);simp only[getElem_map,List.getElem_drop,Array.getElem_toList];rwa[cJ (Array.getElem?_eq_getElem (Nat.add_lt_of_lt_sub' hp)),cJ (Array.getElem?_eq_getElem (Nat.add_lt_of_lt_sub' hq))]at this
section
variable {a b out:Array Keyed}{ia ib:Nat}{x:Keyed}
theorem MI.pushB (h:MI a b out ia ib)(sb:fV b)(e:b[ib]?=some x)(hl:∀i,ia<=i->i<a.size->K b ib<=K a i):MI a b (out.push x) ia (ib+1):=by
 have hx:=cJ e;have hib:ib<b.size:=(Array.getElem?_eq_some_iff.mp e).1;refine⟨?_,?_,λy hy i h1 h2=>?_,λy hy j h1 h2=>?_⟩
 ·rw[toList_push,QT (show b.toList[ib]?=some x by simpa using e),<-append_assoc];exact h.perm.append_right _
 ·rw[toList_push];exact qbM h.sorted λy hy=>hx▸h.bb y hy ib (le_refl _) hib
 ·rw[toList_push,mem_append,mem_singleton]at hy;rcases hy with hy|rfl
  ·exact h.ba y hy i h1 h2
  ·exact hx▸hl i h1 h2
 ·rw[toList_push,mem_append,mem_singleton]at hy;rcases hy with hy|rfl
  ·exact h.bb y hy j (aA (aB 0x1f0a10f1a1 rfl h1)) h2
  ·exact hx▸sb ib j (aA (aB 0x1f0a10f1a1 rfl h1)) h2
theorem MI.pushA (h:MI a b out ia ib)(sa:fV a)(e:a[ia]?=some x)(hl:∀j,ib<=j->j<b.size->K a ia<=K b j):MI a b (out.push x) (ia+1) ib:=by
 have hx:=cJ e;have hia:ia<a.size:=(Array.getElem?_eq_some_iff.mp e).1;refine⟨?_,?_,λy hy i h1 h2=>?_,λy hy j h1 h2=>?_⟩
 ·rw[toList_push,QT (show a.toList[ia]?=some x by simpa using e),append_assoc];exact(h.perm.append_right _).trans (by rw[append_assoc];exact List.Perm.append_left _ perm_append_comm)
 ·rw[toList_push];exact qbM h.sorted λy hy=>hx▸h.ba y hy ia (le_refl _) hia
 ·rw[toList_push,mem_append,mem_singleton]at hy;rcases hy with hy|rfl
  ·exact h.ba y hy i (aA (aB 0x1f0a10f1a1 rfl h1)) h2
  ·exact hx▸sa ia i (aA (aB 0x1f0a10f1a1 rfl h1)) h2
 ·rw[toList_push,mem_append,mem_singleton]at hy;rcases hy with hy|rfl
  ·exact h.bb y hy j h1 h2
  ·exact hx▸hl j h1 h2
theorem J0 {i k:Nat}(e:a[i+k]?=some x):a.extract i (i+(k+1))=(a.extract i (i+k)).push x:=by
 apply ext';have hi:i+k<a.size:=(Array.getElem?_eq_some_iff.mp e).1;have e2:a.toList[i+k]?=some x:=by simpa using e
 simp only[toList_extract,toList_push,extract];rw[show i+(k+1)-i=k+1 by exact bG (aA (aC 0x1ff0aa1f0a2a21a1 rfl (aM (aA (aB 0x0ff1a0aa1 rfl))))) (aA (aC 0xf1af0a120af1a2a1 rfl (aR _ _))),show i+k-i=k by exact bG (aA (aC 0x1f0a102a21a1 rfl (aM (aA (aB 0x0f10aa1 rfl))))) (aA (aC 0x1f0a120a12a1 rfl (aR _ _)))];exact QT (by rw[List.getElem?_drop];exact e2)
theorem MI.appA (sa:fV a)(ha:lC a):∀(k:Nat),MI a b out ia ib->ia+k<=a.size->(∀i,i<k->∀j,ib<=j->j<b.size->K a (ia+i)<=K b j)->MI a b (out++a.extract ia (ia+k)) (ia+k) ib
 | 0=>λh _ _=>by rw[add_zero,Array.extract_eq_empty_of_le (Nat.min_le_left _ _),append_empty];exact h
 | k+1=>λh hk hl=>by
  have ih:=MI.appA sa ha k h (aA (aC 0x21af0a10f2a1a1 rfl hk)) λi hi=>hl i (ltN (aB 0x1f0a10f1a1 rfl hi));refine aF (ha (ia+k) (ltN (aC 0x21a010f2a1a1 rfl hk))) λx e _=>?_;rw[J0 e,Array.append_push];exact ih.pushA sa e (hl k (ltN (aK 0x0f0a1 rfl)))
theorem MI.appB (sb:fV b)(hb:lC b):∀(k:Nat),MI a b out ia ib->ib+k<=b.size->(∀i,i<k->∀j,ia<=j->j<a.size->K b (ib+i)<=K a j)->MI a b (out++b.extract ib (ib+k)) ia (ib+k)
 | 0=>λh _ _=>by rw[add_zero,Array.extract_eq_empty_of_le (Nat.min_le_left _ _),append_empty];exact h
 | k+1=>λh hk hl=>by
  have ih:=MI.appB sb hb k h (aA (aC 0x21af0a10f2a1a1 rfl hk)) λi hi=>hl i (ltN (aB 0x1f0a10f1a1 rfl hi));refine aF (hb (ib+k) (ltN (aC 0x21a010f2a1a1 rfl hk))) λx e _=>?_;rw[J0 e,Array.append_push];exact ih.pushB sb e (hl k (ltN (aK 0x0f0a1 rfl)))
noncomputable def n8 (a b out:Array Keyed)(ia ib:Nat):Array Keyed:=out++a.extract ia a.size++b.extract ib b.size
noncomputable def rZ (a b out:Array Keyed)(ia ib:Nat):Array Keyed:=out++b.extract ib b.size++a.extract ia a.size
theorem pQ (a:Array Keyed)(i:Nat):(a.extract i a.size).toList=a.toList.drop i:=by
 rw[toList_extract,extract];exact List.take_of_length_le (by rw[length_drop,length_toList];exact le_refl _)
theorem MI.done (h:MI a b out ia ib)(sa:fV a)(e:ib=b.size):MR a b (n8 a b out ia ib):=by
 subst e;unfold n8;have hp:=h.perm;rw[List.take_of_length_le (l:=b.toList) (by simp)]at hp;refine⟨?_,?_⟩
 ·rw[toList_append,toList_append,pQ,pQ,drop_of_length_le (l:=b.toList) (by simp),append_nil];refine(hp.append_right _).trans ?_;rw[append_assoc];refine(List.Perm.append_left _ perm_append_comm).trans ?_;rw[<-append_assoc,take_append_drop]
 ·rw[toList_append,toList_append,pQ,pQ,drop_of_length_le (l:=b.toList) (by simp),append_nil,map_append,pairwise_append];refine⟨h.sorted,xY sa _,λu hu v hv=>?_⟩;obtain⟨y,hy,rfl⟩:=mem_map.mp hu;obtain⟨z,hz,rfl⟩:=mem_map.mp hv;refine bM (xX hz) λj h1 h2 h3=>?_;exact h3▸h.ba y hy j h1 h2
theorem MI.last (h:MI a b out ia ib)(sa:fV a)(sb:fV b)(e:ia+1=a.size)(hl:∀j,j<b.size->K b j<=K a ia):MR a b (rZ a b out ia ib):=by
 unfold rZ;refine⟨?_,?_⟩
 ·rw[toList_append,toList_append,pQ,pQ];refine((h.perm.append_right _).append_right _).trans ?_;rw[append_assoc (a.toList.take ia),take_append_drop,append_assoc];refine(List.Perm.append_left _ perm_append_comm).trans ?_;rw[<-append_assoc,take_append_drop]
 ·rw[toList_append,toList_append,pQ,pQ,map_append,map_append,pairwise_append,pairwise_append];refine⟨⟨h.sorted,xY sb _,λu hu v hv=>?_⟩,xY sa _,λu hu v hv=>?_⟩
  ·obtain⟨y,hy,rfl⟩:=mem_map.mp hu;obtain⟨z,hz,rfl⟩:=mem_map.mp hv;refine bM (xX hz) λj h1 h2 h3=>?_;exact h3▸h.bb y hy j h1 h2
  ·obtain⟨z,hz,rfl⟩:=mem_map.mp hv;refine bM (xX hz) λj h1 h2 h3=>?_;have hj:j=ia:=bG (aA (aC 0x1f0a1f0a212f1a1 rfl h2 (aW e))) (aA (aB 0x1f0a1011 rfl h1));subst hj;rw[<-map_append]at hu;obtain⟨y,hy,rfl⟩:=mem_map.mp hu;rcases mem_append.mp hy with hy|hy
   ·exact h3▸h.ba y hy j (le_refl _) h2
   ·refine bM (xX hy) λq g1 g2 g3=>?_;exact h3▸g3▸hl q g2
end
end TS
end Internal
end
section
open PySem PySem.W PyProof.Rows
namespace Internal
namespace TS
variable [Kd]
noncomputable def M9:Array Keyed->Array Keyed->StateT SortSt Sem (Array Keyed):=sortPriv% PySem.Builtin.mergeLo
noncomputable def uH:Nat->StateT SortSt Sem Unit:=sortPriv% PySem.Builtin.setMinGallop
theorem qiy (g:Nat):uH g=modify λs=>SortSt.mk' (kindOf s) (arrOf s) (pendingOf s) g (failedOf s):=rfl
noncomputable abbrev M1:=Option (Array Keyed)×Array Keyed×Nat×Nat×Nat×Nat
noncomputable abbrev M2:=Option (Array Keyed)×Array Keyed×Nat×Nat×Nat×Nat×Nat
noncomputable abbrev M0:=Option (Array Keyed)×Array Keyed×Nat×Nat×Nat
noncomputable def lo1 (a b:Array Keyed)(mg:Nat)(s:M1):StateT SortSt Sem (ForInStep M1):=do
 let y <-elem' b s.2.2.2.1;let x <-elem' a s.2.2.1;let r <-lt' y x
 match r with
 | some bWins =>
  if bWins=true then do
   let e <-elem' b s.2.2.2.1
   if (s.2.2.2.1+1==b.size)=true then pure (.done (some (n8 a b (s.2.1.push e) s.2.2.1 (s.2.2.2.1+1)),s.2.1.push e,s.2.2.1,s.2.2.2.1+1,0,s.2.2.2.2.2+1))
   else if s.2.2.2.2.2+1 >= mg then pure (.done (none,s.2.1.push e,s.2.2.1,s.2.2.2.1+1,0,s.2.2.2.2.2+1)) else pure (.yield (none,s.2.1.push e,s.2.2.1,s.2.2.2.1+1,0,s.2.2.2.2.2+1))
  else do
   let e <-elem' a s.2.2.1
   if (s.2.2.1+1+1==a.size)=true then pure (.done (some (rZ a b (s.2.1.push e) (s.2.2.1+1) s.2.2.2.1),s.2.1.push e,s.2.2.1+1,s.2.2.2.1,s.2.2.2.2.1+1,0))
   else if s.2.2.2.2.1+1 >= mg then pure (.done (none,s.2.1.push e,s.2.2.1+1,s.2.2.2.1,s.2.2.2.2.1+1,0)) else pure (.yield (none,s.2.1.push e,s.2.2.1+1,s.2.2.2.1,s.2.2.2.2.1+1,0))
 | _=>pure (.done (some (n8 a b s.2.1 s.2.2.1 s.2.2.2.1),s.2.1,s.2.2.1,s.2.2.2.1,s.2.2.2.2.1,s.2.2.2.2.2))
noncomputable def z8 (a b:Array Keyed)(mg ac bc:Nat)(out:Array Keyed)(ia ib:Nat):StateT SortSt Sem (ForInStep M2):=do
 let e <-elem' a ia
 if (ia+1+1==a.size)=true then pure (.done (some (rZ a b (out.push e) (ia+1) ib),out.push e,ia+1,ib,mg,ac,bc))
 else if (decide (ac<7)&&decide (bc<7))=true then pure (.done (none,out.push e,ia+1,ib,mg,ac,bc)) else pure (.yield (none,out.push e,ia+1,ib,mg,ac,bc))
noncomputable def z7 (a b:Array Keyed)(mg ac u6:Nat)(ib:Nat)(out:Array Keyed)(ia:Nat):StateT SortSt Sem (ForInStep M2):=do
 let e <-elem' b ib
 if (ib+1==b.size)=true then pure (.done (some (n8 a b (out.push e) ia (ib+1)),out.push e,ia,ib+1,mg,ac,u6))
 else do
  let k <-elem' a ia;let x <-nY true k b (ib+1) (b.size-(ib+1)) 0
  match x with
  | some k =>
   if k>0 then
    if (ib+1+k==b.size)=true then pure (.done (some (n8 a b (out.push e++b.extract (ib+1) (ib+1+k)) ia (ib+1+k)),out.push e++b.extract (ib+1) (ib+1+k),ia,ib+1+k,mg,ac,k))
    else z8 a b mg ac k (out.push e++b.extract (ib+1) (ib+1+k)) ia (ib+1+k)
   else z8 a b mg ac k (out.push e) ia (ib+1)
  | _=>pure (.done (some (n8 a b (out.push e) ia (ib+1)),out.push e,ia,ib+1,mg,ac,u6))
noncomputable def zZ (a b:Array Keyed)(s:M2)(mg:Nat):StateT SortSt Sem (ForInStep M2):=do
 uH mg
 let y <-elem' b s.2.2.2.1;let x <-nY false y a s.2.2.1 (a.size-s.2.2.1) 0
 match x with
 | some k =>
  if k>0 then
   if (s.2.2.1+k+1==a.size)=true then pure (.done (some (rZ a b (s.2.1++a.extract s.2.2.1 (s.2.2.1+k)) (s.2.2.1+k) s.2.2.2.1),s.2.1++a.extract s.2.2.1 (s.2.2.1+k),s.2.2.1+k,s.2.2.2.1,mg,k,s.2.2.2.2.2.2))
   else if (s.2.2.1+k==a.size)=true then pure (.done (some (n8 a b (s.2.1++a.extract s.2.2.1 (s.2.2.1+k)) (s.2.2.1+k) s.2.2.2.1),s.2.1++a.extract s.2.2.1 (s.2.2.1+k),s.2.2.1+k,s.2.2.2.1,mg,k,s.2.2.2.2.2.2))
   else z7 a b mg k s.2.2.2.2.2.2 s.2.2.2.1 (s.2.1++a.extract s.2.2.1 (s.2.2.1+k)) (s.2.2.1+k)
  else z7 a b mg k s.2.2.2.2.2.2 s.2.2.2.1 s.2.1 s.2.2.1
 | _=>pure (.done (some (n8 a b s.2.1 s.2.2.1 s.2.2.2.1),s.2.1,s.2.2.1,s.2.2.2.1,mg,s.2.2.2.2.2.1,s.2.2.2.2.2.2))
noncomputable def lo2 (a b:Array Keyed)(s:M2):StateT SortSt Sem (ForInStep M2):=if s.2.2.2.2.1>1 then zZ a b s (s.2.2.2.2.1-1) else zZ a b s s.2.2.2.2.1
noncomputable def lo0 (a b:Array Keyed)(s:M0):StateT SortSt Sem (ForInStep M0):=do
 let u <-forIn [0:a.size+b.size] ((none,s.2.1,s.2.2.1,s.2.2.2.1,0,0):M1) λ_ u=>lo1 a b s.2.2.2.2 u
 match u.1 with
 | some r=>pure (.done (some r,u.2.1,u.2.2.1,u.2.2.2.1,s.2.2.2.2))
 | none=>do
  liftM (rule "list.sort.gallop")
  let v <-forIn [0:a.size+b.size] ((none,u.2.1,u.2.2.1,u.2.2.2.1,s.2.2.2.2+1,u.2.2.2.2.1,u.2.2.2.2.2):M2) λ_ v=>lo2 a b v
  match v.1 with
  | some r=>pure (.done (some r,v.2.1,v.2.2.1,v.2.2.2.1,v.2.2.2.2.1))
  | none=>do
   uH (v.2.2.2.2.1+1)
   pure (.yield (none,v.2.1,v.2.2.1,v.2.2.2.1,v.2.2.2.2.1+1))
theorem qkH {α β:Type}{m:StateT SortSt Sem α}{f g:α->StateT SortSt Sem β}(h:∀a,f a=g a):(m >>= f)=(m >>= g):=congrArg (bind m) (funext h)
theorem qkI {β:Type}{n:Nat}{c:β}{f g:Nat->β->StateT SortSt Sem (ForInStep β)}(h:∀x b,f x b=g x b):forIn [0:n] c f=forIn [0:n] c g:=congrArg (forIn [0:n] c) (funext λx=>funext λb=>h x b)
theorem qkK {α:Type}{c:Prop}[Decidable c]{x y x' y':α}(h1:x=x')(h2:y=y'):(if c then x else y)=(if c then x' else y'):=by rw[h1,h2]
theorem qgj (a b:Array Keyed):M9 a b=(do
  liftM (rule "list.sort.merge-lo")
  let e <-elem' b 0
  if (1==b.size)=true then pure (n8 a b #[e] 0 1)
  else if (0+1==a.size)=true then pure (rZ a b #[e] 0 1)
  else do
   let st <-get;let s <-forIn [0:a.size+b.size] ((none,#[e],0,1,gallopOf st):M0) λ_ s=>lo0 a b s
   match s.1 with
   | some r=>pure r
   | none=>liftM (unsupported "internal:list.sort.merge-bound":Sem (Array Keyed))):=by kernel_rfl
end TS
end Internal
end
section
open PySem PySem.W PyProof.Rows
namespace Internal
namespace TS
variable [Kd]
structure Two (a b:Array Keyed):Prop where
 sa:fV a
 sb:fV b
 ia:lC a
 ib:lC b
 a0:0<a.size
 b0:0<b.size
 last:∀j,j<b.size->K b j<K a (a.size-1)
 first:∀i,i<a.size->K b 0<K a i
noncomputable def Fx (st0 st:SortSt):Prop:=kindOf st=oneType'/\arrOf st=arrOf st0/\pendingOf st=pendingOf st0/\failedOf st=failedOf st0
noncomputable def G (a b:Array Keyed)(base:Nat)(out:Array Keyed)(ia ib:Nat):Prop:=MI a b out ia ib/\ia+1<a.size/\ib<b.size/\base<=ia+ib
noncomputable def P1 (a b:Array Keyed)(base:Nat)(c:M1):Prop:=(∃r,c.1=some r/\MR a b r)\/(c.1=none/\G a b base c.2.1 c.2.2.1 c.2.2.2.1)
noncomputable def P2 (a b:Array Keyed)(base:Nat)(c:M2):Prop:=(∃r,c.1=some r/\MR a b r)\/(c.1=none/\G a b base c.2.1 c.2.2.1 c.2.2.2.1)
section
variable {prog:Program}{w:World}{A:Around}{E:Value->Shared->Prop}{s:Shared}[j9 prog w A s]{a b:Array Keyed}{st st0:SortSt}
theorem uK {r:String}{Q:Unit->SortSt->Prop}(h:Q () st):wpS (model prog w) A E s (liftM (rule r):StateT SortSt Sem Unit) Q st:=wpS_lift (wpAny_rule ⟨rfl,h⟩)
theorem cB {α:Type}{c:Prop}[Decidable c]{x y:StateT SortSt Sem α}{Q:α->SortSt->Prop}(h1:c->wpS (model prog w) A E s x Q st)(h2:¬c->wpS (model prog w) A E s y Q st):wpS (model prog w) A E s (if c then x else y) Q st:=by
 by_cases h:c
 ·rw[if_pos h];exact h1 h
 ·rw[if_neg h];exact h2 h
theorem Two.lastOk (T:Two a b){out:Array Keyed}{ia ib:Nat}(h:MI a b out ia ib)(e:ia+1=a.size):MR a b (rZ a b out ia ib) :=
 h.last T.sa T.sb e λj hj=>le_of_lt (by have:=T.last j hj;rwa[show a.size-1=ia by exact bG (aA (aC 0x1f0a12f1a1f0a21 rfl (aW e) (aM (aA (aB 0xff0a10f1a1 rfl (aQ e)))))) (aA (aC 0x1f0a1f0a212f1a1 rfl (aQ e) (aR _ _)))]at this)
theorem qkv (T:Two a b){mg base:Nat}{out:Array Keyed}{ia ib ac bc:Nat}(hk:kindOf st=oneType')(hg:G a b base out ia ib){Q:ForInStep M1->SortSt->Prop}(hd:∀c,P1 a b (base+1) c->Q (.done c) st)(hy:∀out' iC iD dN dR,G a b (base+1) out' iC iD->Q (.yield (none,out',iC,iD,dN,dR)) st) :
  wpS (model prog w) A E s (lo1 a b mg (none,out,ia,ib,ac,bc)) Q st:=by
 obtain⟨h,h1,h2,h3⟩:=hg;refine aF (T.ib ib h2) λy ey iy=>?_;refine aF (T.ia ia (ltN (aB 0x1010ff1aa1 rfl h1))) λx ex ix=>?_;unfold lo1;dsimp only;refine wpS_bind (eX ey (wpS_bind (eX ex (wpS_bind (wW hk iy ix ?_)))));dsimp only;refine cB (λq=>?_) (λq=>?_)
 ·have q:=of_decide_eq_true q;have h':=h.pushB T.sb ey λi hi hi2=>Int.le_trans (le_of_lt (cJ ey▸cJ ex▸q)) (T.sa ia i hi hi2);refine wpS_bind (eX ey (cB (λq2=>?_) (λq2=>?_)))
  ·exact wpS_pure (hd _ (.inl ⟨_,rfl,h'.done T.sa (eq_of_beq q2)⟩))
  ·have q2:ib+1≠b.size:=λz=>q2 (beq_iff_eq.mpr z);have g:G a b (base+1) (out.push y) ia (ib+1):=⟨h',h1,ltN λU=>(cF q2 ((aB 0x1ff0aa1f0a11 rfl U)) (aB 0xf1af0a10f1a1 rfl h2)),aA (aC 0xf2aff1a0aa110a21 rfl h3)⟩;exact cB (λ_=>wpS_pure (hd _ (.inr ⟨rfl,g⟩))) (λ_=>wpS_pure (hy _ _ _ _ _ g))
 ·have q:¬Kd.num y.1<Kd.num x.1:=λz=>q (decide_eq_true z);have h':=h.pushA T.sa ex λj hj hj2=>Int.le_trans (not_lt.mp (cJ ey▸cJ ex▸q)) (T.sb ib j hj hj2);refine wpS_bind (eX ex (cB (λq2=>?_) (λq2=>?_)))
  ·exact wpS_pure (hd _ (.inl ⟨_,rfl,T.lastOk h' (eq_of_beq q2)⟩))
  ·have q2:ia+1+1≠a.size:=λz=>q2 (beq_iff_eq.mpr z);have g:G a b (base+1) (out.push x) (ia+1) ib:=⟨h',ltN λU=>(cF q2 ((aB 0x1fff0aaa1ff0aa11 rfl U)) (aB 0xff1aaf0a10ff1aa1 rfl h1)),h2,aA (aC 0xf2af1f0aaa110a21 rfl h3)⟩;exact cB (λ_=>wpS_pure (hd _ (.inr ⟨rfl,g⟩))) (λ_=>wpS_pure (hy _ _ _ _ _ g))
theorem qkp (T:Two a b){mg base:Nat}{out:Array Keyed}{ia ib:Nat}(hk:kindOf st=oneType')(hg:G a b base out ia ib){Q:M1->SortSt->Prop}(hd:∀c,P1 a b (base+1) c->Q c st) :
  wpS (model prog w) A E s (forIn [0:a.size+b.size] ((none,out,ia,ib,0,0):M1) λ_ u=>lo1 a b mg u) Q st:=by
 have a0:=T.a0;refine wpS_forRange (I:=λx c st'=>st'=st/\∃out ia ib ac bc,c=(none,out,ia,ib,ac,bc)/\G a b (base+x) out ia ib) (λx c st' _ hx=>?_) (λc st'=>?_) ⟨rfl,out,ia,ib,0,0,rfl,hg⟩
 ·rintro⟨rfl,out,ia,ib,ac,bc,rfl,g⟩;refine qkv T hk g (λc hc=>hd c ?_) λout' iC iD dN dR g'=>⟨rfl,out',iC,iD,dN,dR,rfl,g'⟩;exact hc.imp id λz=>⟨z.1,z.2.1,z.2.2.1,z.2.2.2.1,by have:=z.2.2.2.2;exact aA (aL 0xf2af10aa110af32aa1 rfl this)⟩
 ·rintro⟨rfl,out,ia,ib,ac,bc,rfl,g⟩;exact hd _ (.inr ⟨rfl,g.1,g.2.1,g.2.2.1,le_trans (Nat.add_le_add_left (le_trans (le_trans a0 (Nat.le_add_right _ _)) (Nat.le_max_right 0 _)) base) g.2.2.2⟩)
theorem G8 {g:Nat}{Q:Unit->SortSt->Prop}(hf:Fx st0 st)(h:∀st',Fx st0 st'->Q () st'):wpS (model prog w) A E s (uH g) Q st:=by
 rw[qiy];exact wpS_modify (h _ hf)
theorem H8 {left:Bool}{key:Keyed}{arr:Array Keyed}{base i:Nat}(h:bP left key arr base i=true):K arr (base+i)<=nk key:=by
 unfold bP at h;cases left with
 | true=>exact le_of_lt (of_decide_eq_true h)
 | false =>
  have h:(!decide (Kd.num key.1<K arr (base+i)))=true:=h;simp only[not_eq_true',decide_eq_false_iff_not]at h;exact not_lt.mp h
theorem H7 {left:Bool}{key:Keyed}{arr:Array Keyed}{base i:Nat}(h:bP left key arr base i=false):nk key<=K arr (base+i):=by
 unfold bP at h;cases left with
 | true=>exact not_lt.mp (of_decide_eq_false h)
 | false =>
  have h:(!decide (Kd.num key.1<K arr (base+i)))=false:=h;simp only[Bool.not_eq_false',decide_eq_true_eq]at h;exact le_of_lt h
theorem qch {left:Bool}{key:Keyed}{arr:Array Keyed}{base:Nat}(hk:kindOf st=oneType')(hkey:IK key)(ha:lC arr)(hs:fV arr)(hh:base<arr.size){Q:Option Nat->SortSt->Prop}(h:∀k,base+k<=arr.size->(∀i,i<k->K arr (base+i)<=nk key)->(∀i,base+k<=i->i<arr.size->nk key<=K arr i)->Q (some k) st):wpS (model prog w) A E s (nY left key arr base (arr.size-base) 0) Q st :=
 G7 hk hkey (λi hi=>ha (base+i) (ltN (aL 0x21a01013a13f2a1 rfl hi (aM (aA (aB 0x1f0a10f1a1 rfl hh)))))) (λi j hij hj=>hs _ _ (aA (aC 0x20af10aa1121 rfl hij)) (ltN (aL 0x21a01013a13f2a1 rfl hj (aM (aA (aB 0x1f0a10f1a1 rfl hh)))))) (ltN (aC 0x080110a212f1a1 rfl hh (aR _ _))) λk h1 h2 h3=>h k (by exact aA (aL 0x21af0a1013a1321 rfl h1 (aM (aA (aB 0x1f0a10f1a1 rfl hh))))) (λi hi=>H8 (h2 i hi)) λi hi hn=>by
  have:=H7 (h3 (i-base) (aA (aL 0x1f0a120a31312a1 rfl hi (aR _ _))) (ltN (bN 0x101241a140a313f2a1 rfl hn (aR _ _) (aM (aA (aC 0x1f0a1021a1 rfl hi))))));rwa[show base+(i-base)=i by exact bG (aA (aC 0x21af0a1012a1 rfl (aM (aA (aC 0x1f0a1021a1 rfl hi))))) (aA (aC 0x2f10aa101a21 rfl (aR _ _)))]at this
theorem qco (T:Two a b){mg ac bc base:Nat}{out:Array Keyed}{ia ib:Nat}(h:MI a b out ia ib)(h1:ia+1<a.size)(h2:ib<b.size)(h3:base<=ia+ib)(hl:∀j,ib<=j->j<b.size->K a ia<=K b j){Q:ForInStep M2->SortSt->Prop}(hd:∀c,P2 a b base c->Q (.done c) st)(hy:∀out' iC iD mg dN dR,G a b base out' iC iD->Q (.yield (none,out',iC,iD,mg,dN,dR)) st):wpS (model prog w) A E s (z8 a b mg ac bc out ia ib) Q st:=by
 refine aF (T.ia ia (ltN (aB 0x1010ff1aa1 rfl h1))) λx ex ix=>?_;unfold z8;have h':=h.pushA T.sa ex hl;refine wpS_bind (eX ex (cB (λq2=>?_) (λq2=>?_)))
 ·exact wpS_pure (hd _ (.inl ⟨_,rfl,T.lastOk h' (eq_of_beq q2)⟩))
 ·have q2:ia+1+1≠a.size:=λz=>q2 (beq_iff_eq.mpr z);have g:G a b base (out.push x) (ia+1) ib:=⟨h',ltN λU=>(cF q2 ((aB 0x1fff0aaa1ff0aa11 rfl U)) (aB 0xff1aaf0a10ff1aa1 rfl h1)),h2,aA (aC 0x2f1f0aaa110a21 rfl h3)⟩;exact cB (λ_=>wpS_pure (hd _ (.inr ⟨rfl,g⟩))) (λ_=>wpS_pure (hy _ _ _ _ _ _ g))
theorem qcn (T:Two a b){mg ac bc base:Nat}{out:Array Keyed}{ia ib:Nat}(hk:kindOf st=oneType')(h:MI a b out ia ib)(h1:ia+1<a.size)(h2:ib<b.size)(h3:base<=ia+ib)(hl:∀i,ia<=i->i<a.size->K b ib<=K a i){Q:ForInStep M2->SortSt->Prop}(hd:∀c,P2 a b base c->Q (.done c) st)(hy:∀out' iC iD mg dN dR,G a b base out' iC iD->Q (.yield (none,out',iC,iD,mg,dN,dR)) st):wpS (model prog w) A E s (z7 a b mg ac bc ib out ia) Q st:=by
 refine aF (T.ib ib h2) λy ey iy=>?_;refine aF (T.ia ia (by exact ltN (aB 0x1010ff1aa1 rfl h1))) λx ex ix=>?_;unfold z7;have h':=h.pushB T.sb ey hl;refine wpS_bind (eX ey (cB (λq2=>?_) (λq2=>?_)))
 ·exact wpS_pure (hd _ (.inl ⟨_,rfl,h'.done T.sa (eq_of_beq q2)⟩))
 ·have q2:ib+1≠b.size:=λz=>q2 (beq_iff_eq.mpr z);refine wpS_bind (eX ex (wpS_bind (qch hk ix T.ib T.sb (by exact ltN λU=>(cF q2 ((aB 0x1ff0aa1f0a11 rfl U)) (aB 0xf1af0a10f1a1 rfl h2))) λk g1 g2 g3=>?_)));dsimp only;refine cB (λ_=>?_) (λhz=>?_)
  ·have h'':=h'.appB T.sb T.ib k g1 λi hi j hj hj2=>Int.le_trans (g2 i hi) (cJ ex▸T.sa ia j hj hj2);refine cB (λq3=>?_) (λq3=>?_)
   ·exact wpS_pure (hd _ (.inl ⟨_,rfl,h''.done T.sa (eq_of_beq q3)⟩))
   ·have q3:ib+1+k≠b.size:=λz=>q3 (beq_iff_eq.mpr z);exact qco T h'' h1 (by exact ltN λU=>(cF q3 ((aC 0x2f1f0aaa11f0aa21 rfl U)) (aC 0x2f1aaf0a102f1aa1 rfl g1))) (by exact aA (aL 0x3f2f1aa0aa110a31 rfl h3)) (λj hj hj2=>cJ ex▸g3 j hj hj2) hd hy
  ·exact qco T h' h1 (by exact ltN λU=>(cF q2 ((aB 0x1ff0aa1f0a11 rfl U)) (aB 0xf1af0a10f1a1 rfl h2))) (by exact aA (aC 0x2ff1a0aa110a21 rfl h3)) (λj hj hj2=>cJ ex▸g3 j (by exact aA (aC 0x2f1aaf0a108210f1a1 rfl hj (aA hz))) hj2) hd hy
theorem qcm (T:Two a b){mg' mg ac bc base:Nat}{out:Array Keyed}{ia ib:Nat}(hf:Fx st0 st)(hg:G a b base out ia ib){Q:ForInStep M2->SortSt->Prop}(hd:∀c st',Fx st0 st'->P2 a b base c->Q (.done c) st')(hy:∀out' iC iD mg dN dR st',Fx st0 st'->G a b base out' iC iD->Q (.yield (none,out',iC,iD,mg,dN,dR)) st'):wpS (model prog w) A E s (zZ a b (none,out,ia,ib,mg',ac,bc) mg) Q st:=by
 obtain⟨h,h1,h2,h3⟩:=hg;refine aF (T.ib ib h2) λy ey iy=>?_;unfold zZ;dsimp only;refine wpS_bind (G8 hf λst' hf'=>wpS_bind (eX ey (wpS_bind (qch hf'.1 iy T.ia T.sa (by exact ltN (aB 0x1010ff1aa1 rfl h1)) λk g1 g2 g3=>?_))));dsimp only;have hk1:ia+k<a.size:=by
  rcases lt_or_ge (ia+k) a.size with z|z
  ·exact z
  ·exfalso;have e1:=g2 (a.size-1-ia) (by exact ltN (bN 0x101431a12f4a103a21 rfl z (aM (aA (aB 0xff0a10ff1aa1 rfl h1))) (aM (aA (aC 0x1f0a1f0a212ff1aa1 rfl h1 (aR _ _))))));rw[show ia+(a.size-1-ia)=a.size-1 by exact bG (aA (aC 0x21af0a1012a1 rfl (aM (aA (aC 0x1f0a1f0a212ff1aa1 rfl h1 (aR _ _)))))) (aA (aC 0x2f10aa101a21 rfl (aR _ _)))]at e1;have e2:=T.last ib h2;rw[cJ ey]at e2;exact tY [_,_] 0x0111f0a1 rfl e2 e1
 refine cB (λ_=>?_) (λhz=>?_)
 ·have h'':=h.appA T.sa T.ia k g1 λi hi j hj hj2=>Int.le_trans (g2 i hi) (cJ ey▸T.sb ib j hj hj2);refine cB (λq3=>?_) (λq3=>?_)
  ·exact wpS_pure (hd _ _ hf' (.inl ⟨_,rfl,T.lastOk h'' (eq_of_beq q3)⟩))
  ·have q3:ia+k+1≠a.size:=λz=>q3 (beq_iff_eq.mpr z);refine cB (λq4=>?_) (λq4=>?_)
   ·exact absurd (eq_of_beq q4) (ne_of_lt hk1)
   ·exact qcn T hf'.1 h'' (by exact ltN λU=>(cF q3 ((aC 0x2ff10aaa1f10aa21 rfl U)) (aC 0xf21aaf0a10f21aa1 rfl hk1))) h2 (by exact aA (aL 0x3f210aaa120a31 rfl h3)) (λi hi hi2=>cJ ey▸g3 i hi hi2) (λc=>hd c st' hf') λ_ _ _ _ _ _=>hy _ _ _ _ _ _ st' hf'
 ·exact qcn T hf'.1 h h1 h2 h3 (λi hi hi2=>cJ ey▸g3 i (by exact aA (aC 0x21af0a10821011 rfl hi (aA hz))) hi2) (λc=>hd c st' hf') λ_ _ _ _ _ _=>hy _ _ _ _ _ _ st' hf'
theorem qkq (T:Two a b){mg ac bc base:Nat}{out:Array Keyed}{ia ib:Nat}(hf:Fx st0 st)(hg:G a b base out ia ib){Q:M2->SortSt->Prop}(hd:∀c st',Fx st0 st'->P2 a b base c->Q c st') :
  wpS (model prog w) A E s (forIn [0:a.size+b.size] ((none,out,ia,ib,mg,ac,bc):M2) λ_ u=>lo2 a b u) Q st:=by
 refine wpS_forRange (I:=λx c st'=>Fx st0 st'/\∃out ia ib mg ac bc,c=(none,out,ia,ib,mg,ac,bc)/\G a b base out ia ib) (λx c st' _ hx=>?_) (λc st'=>?_) ⟨hf,out,ia,ib,mg,ac,bc,rfl,hg⟩
 ·rintro⟨hf',out,ia,ib,mg,ac,bc,rfl,g⟩;unfold lo2;exact cB (λ_=>qcm T hf' g (λc st''=>hd c st'') λout' iC iD mg dN dR st'' f g'=>⟨f,out',iC,iD,mg,dN,dR,rfl,g'⟩) (λ_=>qcm T hf' g (λc st''=>hd c st'') λout' iC iD mg dN dR st'' f g'=>⟨f,out',iC,iD,mg,dN,dR,rfl,g'⟩)
 ·rintro⟨hf',out,ia,ib,mg,ac,bc,rfl,g⟩;exact hd _ _ hf' (.inr ⟨rfl,g⟩)
theorem qky (T:Two a b)(hk:kindOf st=oneType'){Q:Array Keyed->SortSt->Prop}(h:∀m st',Fx st st'->MR a b m->Q m st'):wpS (model prog w) A E s (M9 a b) Q st:=by
 rw[qgj];have hf:Fx st st:=⟨hk,rfl,rfl,rfl⟩;refine aF (T.ib 0 T.b0) λy ey iy=>?_;have m0:MI a b #[] 0 0:=⟨List.Perm.refl _,Pairwise.nil,λx hx=>absurd hx (by simp),λx hx=>absurd hx (by simp)⟩;have m1:MI a b #[y] 0 1:=m0.pushB T.sb ey λi _ hi=>le_of_lt (T.first i hi);have ha:=T.a0;have hb:=T.b0;refine wpS_bind (uK (wpS_bind (eX ey (cB (λq=>?_) (λq=>cB (λq2=>?_) (λq2=>?_))))))
 ·exact wpS_pure (h _ _ hf (m1.done T.sa (eq_of_beq q)))
 ·exact wpS_pure (h _ _ hf (T.lastOk m1 (eq_of_beq q2)))
 ·have q:1≠b.size:=λz=>q (beq_iff_eq.mpr z);have q2:0+1≠a.size:=λz=>q2 (beq_iff_eq.mpr z);refine wpS_bind (wpS_get (wpS_bind (wpS_mono (wpS_forRange (I:=λx c st'=>Fx st st'/\∃out ia ib mg,c=(none,out,ia,ib,mg)/\G a b (x+1) out ia ib) (Q:=λc st'=>Fx st st'/\∃r,c.1=some r/\MR a b r) (λx c st' _ hx=>?_) (λc st'=>?_)
   ⟨hf,#[y],0,1,_,rfl,m1,ltN λU=>(cF q2 ((aK 0x0ff08aa1f08a01 rfl U)) (aK 0xf08af0a10f08a1 rfl ha)),ltN λU=>(cF q2 (λnH=>(cF q ((aK 0x0ffa1f01 rfl U)) (aK 0xff0a10f08a1 rfl hb))) (aK 0xf08af0a10f08a1 rfl ha)),aA (jZ 0xf08aff08aa1 rfl)⟩) λc st'=>?_)))
  ·rintro⟨hf',out,ia,ib,mg,rfl,g⟩;unfold lo0;refine wpS_bind (qkp T hf'.1 g λu hu=>?_);rcases hu with ⟨r,e,hr⟩|⟨e,g'⟩
   ·rw[e];exact wpS_pure ⟨hf',r,rfl,hr⟩
   ·rw[e];refine wpS_bind (uK (wpS_bind (qkq T hf' g' λv st2 hf2 hv=>?_)));rcases hv with ⟨r,e,hr⟩|⟨e,g2⟩
    ·rw[e];exact wpS_pure ⟨hf2,r,rfl,hr⟩
    ·rw[e];exact wpS_bind (G8 hf2 λst3 JL=>wpS_pure ⟨JL,_,_,_,_,rfl,g2⟩)
  ·rintro⟨hf',out,ia,ib,mg,rfl,g⟩;obtain⟨_,g1,g2,g3⟩:=g;exact absurd (lt_of_lt_of_le (Nat.add_lt_add (Nat.lt_of_succ_lt g1) g2) (le_trans (Nat.le_max_right 0 _) (Nat.le_of_succ_le g3))) (lt_irrefl _)
  ·rintro⟨hf',r,e,hr⟩;obtain⟨c,c'⟩:=c;have e:c=some r:=e;subst e;exact wpS_pure (h r st' hf' hr)
end
end TS
end Internal
end
section
open PySem PySem.W PyProof.Rows
namespace Internal
namespace TS
variable [Kd]
structure MH (a b out:Array Keyed) (na nb:Nat):Prop where
 perm:out.toList.Perm (a.toList.drop na++b.toList.drop nb)
 sorted:(out.toList.reverse.map nk).Pairwise (·<=·)
 ba:∀x∈out.toList,∀i,i<na->K a i<=nk x
 bb:∀x∈out.toList,∀j,j<nb->K b j<=nk x
theorem VL {α:Type}{l:List α}{i:Nat}{x:α}(e:l[i]?=some x):l.drop i=x::l.drop (i+1):=by
 obtain⟨h,rfl⟩:=List.getElem?_eq_some_iff.mp e;exact List.drop_eq_getElem_cons h
theorem QV {a:Array Keyed}(h:fV a)(i:Nat):((a.toList.take i).map nk).Pairwise (·<=·):=by
 have:=xY h 0;rw[List.drop_zero]at this;exact this.sublist ((List.take_sublist i _).map nk)
theorem FQ {a:Array Keyed}{i:Nat}{x:Keyed}(h:x∈a.toList.take i):∃j,j<i/\j<a.size/\K a j=nk x:=by
 obtain⟨j,hj,e⟩:=List.getElem_of_mem h;rw[List.getElem_take]at e;rw[length_take,length_toList]at hj;exact⟨j,lt_of_lt_of_le hj (Nat.min_le_left _ _),lt_of_lt_of_le hj (Nat.min_le_right _ _),cJ (by rw[<-e];simpa using Array.getElem?_eq_getElem (lt_of_lt_of_le hj (Nat.min_le_right _ _)))⟩
theorem qbK {l:List Keyed}{x:Keyed}(h:(l.map nk).Pairwise (·<=·))(k:∀y∈l,nk x<=nk y):((x::l).map nk).Pairwise (·<=·):=by
 rw[map_cons,pairwise_cons];refine⟨λv hv=>?_,h⟩;obtain⟨y,hy,rfl⟩:=mem_map.mp hv;exact k y hy
section
variable {a b out:Array Keyed}{na nb:Nat}{x:Keyed}
theorem MH.pushA (h:MH a b out (na+1) nb)(sa:fV a)(e:a[na]?=some x)(hl:∀j,j<nb->K b j<=K a na):MH a b (out.push x) na nb:=by
 have hx:=cJ e;have hna:na<a.size:=(Array.getElem?_eq_some_iff.mp e).1;refine⟨?_,?_,λy hy i h1=>?_,λy hy j h1=>?_⟩
 ·rw[toList_push,VL (show a.toList[na]?=some x by simpa using e)];exact(h.perm.append_right _).trans perm_append_comm
 ·rw[toList_push,List.reverse_append];exact qbK h.sorted λy hy=>hx▸h.ba y (mem_reverse.mp hy) na (lt_succ_self _)
 ·rw[toList_push,mem_append,mem_singleton]at hy;rcases hy with hy|rfl
  ·exact h.ba y hy i (ltN (aB 0x1f0a10f1a1 rfl h1))
  ·exact hx▸sa i na (aA (aB 0x1f0a10f1a1 rfl h1)) hna
 ·rw[toList_push,mem_append,mem_singleton]at hy;rcases hy with hy|rfl
  ·exact h.bb y hy j h1
  ·exact hx▸hl j h1
theorem MH.pushB (h:MH a b out na (nb+1))(sb:fV b)(e:b[nb]?=some x)(hl:∀i,i<na->K a i<=K b nb):MH a b (out.push x) na nb:=by
 have hx:=cJ e;have hnb:nb<b.size:=(Array.getElem?_eq_some_iff.mp e).1;refine⟨?_,?_,λy hy i h1=>?_,λy hy j h1=>?_⟩
 ·rw[toList_push,VL (l:=b.toList) (show b.toList[nb]?=some x by simpa using e)];refine(h.perm.append_right _).trans ?_;rw[append_assoc];exact List.Perm.append_left _ perm_append_comm
 ·rw[toList_push,List.reverse_append];exact qbK h.sorted λy hy=>hx▸h.bb y (mem_reverse.mp hy) nb (lt_succ_self _)
 ·rw[toList_push,mem_append,mem_singleton]at hy;rcases hy with hy|rfl
  ·exact h.ba y hy i h1
  ·exact hx▸hl i h1
 ·rw[toList_push,mem_append,mem_singleton]at hy;rcases hy with hy|rfl
  ·exact h.bb y hy j (ltN (aB 0x1f0a10f1a1 rfl h1))
  ·exact hx▸sb j nb (aA (aB 0x1f0a10f1a1 rfl h1)) hnb
theorem WT {i k:Nat}(e:a[i+k]?=some x):out++(a.extract i (i+(k+1))).reverse=(out.push x)++(a.extract i (i+k)).reverse:=by
 rw[J0 e];apply ext';simp
theorem MH.appA (sa:fV a)(ha:lC a)(hs:na<=a.size):∀(k:Nat) {out:Array Keyed},MH a b out (na+k) nb->na+k<=a.size->(∀i,na<=i->i<na+k->∀j,j<nb->K b j<=K a i)->MH a b (out++(a.extract na (na+k)).reverse) na nb
 | 0,out,h,_,_=>by rw[add_zero,Array.extract_eq_empty_of_le (Nat.min_le_left _ _),Array.reverse_empty,append_empty];exact h
 | k+1,out,h,hk,hl=>by
  refine aF (ha (na+k) (ltN (aC 0x21a010f2a1a1 rfl hk))) λx e _=>?_;rw[WT e];exact MH.appA sa ha hs k (h.pushA sa e (hl (na+k) (aA (aB 0x0f10aa1 rfl)) (ltN (aB 0x10af1a0a1 rfl)))) (aA (aC 0x21af0a10f2a1a1 rfl hk)) λi h1 h2=>hl i h1 (ltN (aC 0x2f1a0a110af2a1 rfl h2))
theorem MH.appB (sb:fV b)(hb:lC b)(hs:nb<=b.size):∀(k:Nat) {out:Array Keyed},MH a b out na (nb+k)->nb+k<=b.size->(∀i,nb<=i->i<nb+k->∀j,j<na->K a j<=K b i)->MH a b (out++(b.extract nb (nb+k)).reverse) na nb
 | 0,out,h,_,_=>by rw[add_zero,Array.extract_eq_empty_of_le (Nat.min_le_left _ _),Array.reverse_empty,append_empty];exact h
 | k+1,out,h,hk,hl=>by
  refine aF (hb (nb+k) (ltN (aC 0x21a010f2a1a1 rfl hk))) λx e _=>?_;rw[WT e];exact MH.appB sb hb hs k (h.pushB sb e (hl (nb+k) (aA (aB 0x0f10aa1 rfl)) (ltN (aB 0x10af1a0a1 rfl)))) (aA (aC 0x21af0a10f2a1a1 rfl hk)) λi h1 h2=>hl i h1 (ltN (aC 0x2f1a0a110af2a1 rfl h2))
noncomputable def n7 (a b out:Array Keyed)(na nb:Nat):Array Keyed:=a.extract 0 na++b.extract 0 nb++out.reverse
noncomputable def rY (a b out:Array Keyed)(na nb:Nat):Array Keyed:=b.extract 0 nb++a.extract 0 na++out.reverse
theorem pO (a:Array Keyed)(i:Nat):(a.extract 0 i).toList=a.toList.take i:=by
 rw[toList_extract,extract];rfl
theorem MH.done (h:MH a b out na nb)(sb:fV b)(e:na=0):MR a b (n7 a b out na nb):=by
 subst e;unfold n7;refine⟨?_,?_⟩
 ·rw[toList_append,toList_append,pO,pO,List.take_zero,nil_append,toList_reverse];refine((List.reverse_perm _).append_left _).trans ((h.perm.append_left _).trans ?_);rw[List.drop_zero];refine perm_append_comm.trans ?_;rw[append_assoc];refine List.Perm.append_left _ (perm_append_comm.trans ?_);rw[take_append_drop]
 ·rw[toList_append,toList_append,pO,pO,List.take_zero,nil_append,toList_reverse,map_append,pairwise_append];refine⟨QV sb _,h.sorted,λu hu v hv=>?_⟩;obtain⟨y,hy,rfl⟩:=mem_map.mp hu;obtain⟨z,hz,rfl⟩:=mem_map.mp hv;refine bM (FQ hy) λj h1 h2 h3=>?_;exact h3▸h.bb z (mem_reverse.mp hz) j h1
theorem MH.first (h:MH a b out na nb)(sa:fV a)(sb:fV b)(e:nb=1)(hl:∀i,i<a.size->K b 0<=K a i):MR a b (rY a b out na nb):=by
 subst e;unfold rY;refine⟨?_,?_⟩
 ·rw[toList_append,toList_append,pO,pO,toList_reverse];refine((List.reverse_perm _).append_left _).trans ((h.perm.append_left _).trans ?_);rw[append_assoc,<-append_assoc (a.toList.take na),take_append_drop];refine perm_append_comm.trans ?_;rw[append_assoc];refine List.Perm.append_left _ (perm_append_comm.trans ?_);rw[take_append_drop]
 ·rw[toList_append,toList_append,pO,pO,toList_reverse,append_assoc,map_append,pairwise_append,map_append,pairwise_append];refine⟨QV sb _,⟨QV sa _,h.sorted,λu hu v hv=>?_⟩,λu hu v hv=>?_⟩
  ·obtain⟨y,hy,rfl⟩:=mem_map.mp hu;obtain⟨z,hz,rfl⟩:=mem_map.mp hv;refine bM (FQ hy) λj h1 h2 h3=>?_;exact h3▸h.ba z (mem_reverse.mp hz) j h1
  ·obtain⟨y,hy,rfl⟩:=mem_map.mp hu;refine bM (FQ hy) λj h1 h2 h3=>?_;have hj:j=0:=bG (aA (aK 0x0f08a1ff0a1 rfl h1)) (aA (aK 0x08f0a1 rfl));subst hj;rw[<-map_append]at hv;obtain⟨z,hz,rfl⟩:=mem_map.mp hv;rcases mem_append.mp hz with hz|hz
   ·refine bM (FQ hz) λq g1 g2 g3=>?_;exact h3▸g3▸hl q g2
   ·exact h3▸h.bb z (mem_reverse.mp hz) 0 h1
end
noncomputable def M8:Array Keyed->Array Keyed->StateT SortSt Sem (Array Keyed):=sortPriv% PySem.Builtin.mergeHi
noncomputable abbrev N1:=Option (Array Keyed)×Nat×Nat×Array Keyed×Nat×Nat
noncomputable abbrev N2:=Option (Array Keyed)×Nat×Nat×Array Keyed×Nat×Nat×Nat
noncomputable abbrev N0:=Option (Array Keyed)×Nat×Nat×Array Keyed×Nat
noncomputable def hi1 (a b:Array Keyed)(mg:Nat)(s:N1):StateT SortSt Sem (ForInStep N1):=do
 let y <-elem' b (s.2.2.1-1);let x <-elem' a (s.2.1-1);let r <-lt' y x
 match r with
 | some aWins =>
  if aWins=true then do
   let e <-elem' a (s.2.1-1)
   if (s.2.1-1==0)=true then pure (.done (some (n7 a b (s.2.2.2.1.push e) (s.2.1-1) s.2.2.1),s.2.1-1,s.2.2.1,s.2.2.2.1.push e,s.2.2.2.2.1+1,0))
   else if s.2.2.2.2.1+1 >= mg then pure (.done (none,s.2.1-1,s.2.2.1,s.2.2.2.1.push e,s.2.2.2.2.1+1,0)) else pure (.yield (none,s.2.1-1,s.2.2.1,s.2.2.2.1.push e,s.2.2.2.2.1+1,0))
  else do
   let e <-elem' b (s.2.2.1-1)
   if (s.2.2.1-1==1)=true then pure (.done (some (rY a b (s.2.2.2.1.push e) s.2.1 (s.2.2.1-1)),s.2.1,s.2.2.1-1,s.2.2.2.1.push e,0,s.2.2.2.2.2+1))
   else if s.2.2.2.2.2+1 >= mg then pure (.done (none,s.2.1,s.2.2.1-1,s.2.2.2.1.push e,0,s.2.2.2.2.2+1)) else pure (.yield (none,s.2.1,s.2.2.1-1,s.2.2.2.1.push e,0,s.2.2.2.2.2+1))
 | _=>pure (.done (some (n7 a b s.2.2.2.1 s.2.1 s.2.2.1),s.2.1,s.2.2.1,s.2.2.2.1,s.2.2.2.2.1,s.2.2.2.2.2))
noncomputable def zO (a b:Array Keyed)(mg ac bc:Nat)(out:Array Keyed)(na nb:Nat):StateT SortSt Sem (ForInStep N2):=do
 let e <-elem' a (na-1)
 if (na-1==0)=true then pure (.done (some (n7 a b (out.push e) (na-1) nb),na-1,nb,out.push e,mg,ac,bc))
 else if (decide (ac<7)&&decide (bc<7))=true then pure (.done (none,na-1,nb,out.push e,mg,ac,bc)) else pure (.yield (none,na-1,nb,out.push e,mg,ac,bc))
noncomputable def zN (a b:Array Keyed)(mg ac u6:Nat)(nb:Nat)(out:Array Keyed)(na:Nat):StateT SortSt Sem (ForInStep N2):=do
 let e <-elem' b (nb-1)
 if (nb-1==1)=true then pure (.done (some (rY a b (out.push e) na (nb-1)),na,nb-1,out.push e,mg,ac,u6))
 else do
  let k <-elem' a (na-1);let x <-nY true k b 0 (nb-1) (nb-1-1)
  match x with
  | some at_ =>
   if nb-1-at_>0 then
    if (at_==1)=true then pure (.done (some (rY a b (out.push e++(b.extract at_ (nb-1)).reverse) na at_),na,at_,out.push e++(b.extract at_ (nb-1)).reverse,mg,ac,nb-1-at_))
    else if (at_==0)=true then pure (.done (some (n7 a b (out.push e++(b.extract at_ (nb-1)).reverse) na at_),na,at_,out.push e++(b.extract at_ (nb-1)).reverse,mg,ac,nb-1-at_))
    else zO a b mg ac (nb-1-at_) (out.push e++(b.extract at_ (nb-1)).reverse) na at_
   else zO a b mg ac (nb-1-at_) (out.push e) na (nb-1)
  | _=>pure (.done (some (n7 a b (out.push e) na (nb-1)),na,nb-1,out.push e,mg,ac,u6))
noncomputable def zM (a b:Array Keyed)(s:N2)(mg:Nat):StateT SortSt Sem (ForInStep N2):=do
 uH mg
 let y <-elem' b (s.2.2.1-1);let x <-nY false y a 0 s.2.1 (s.2.1-1)
 match x with
 | some at_ =>
  if s.2.1-at_>0 then
   if (at_==0)=true then pure (.done (some (n7 a b (s.2.2.2.1++(a.extract at_ s.2.1).reverse) at_ s.2.2.1),at_,s.2.2.1,s.2.2.2.1++(a.extract at_ s.2.1).reverse,mg,s.2.1-at_,s.2.2.2.2.2.2))
   else zN a b mg (s.2.1-at_) s.2.2.2.2.2.2 s.2.2.1 (s.2.2.2.1++(a.extract at_ s.2.1).reverse) at_
  else zN a b mg (s.2.1-at_) s.2.2.2.2.2.2 s.2.2.1 s.2.2.2.1 s.2.1
 | _=>pure (.done (some (n7 a b s.2.2.2.1 s.2.1 s.2.2.1),s.2.1,s.2.2.1,s.2.2.2.1,mg,s.2.2.2.2.2.1,s.2.2.2.2.2.2))
noncomputable def hi2 (a b:Array Keyed)(s:N2):StateT SortSt Sem (ForInStep N2):=if s.2.2.2.2.1>1 then zM a b s (s.2.2.2.2.1-1) else zM a b s s.2.2.2.2.1
noncomputable def hi0 (a b:Array Keyed)(s:N0):StateT SortSt Sem (ForInStep N0):=do
 let u <-forIn [0:a.size+b.size] ((none,s.2.1,s.2.2.1,s.2.2.2.1,0,0):N1) λ_ u=>hi1 a b s.2.2.2.2 u
 match u.1 with
 | some r=>pure (.done (some r,u.2.1,u.2.2.1,u.2.2.2.1,s.2.2.2.2))
 | none=>do
  liftM (rule "list.sort.gallop")
  let v <-forIn [0:a.size+b.size] ((none,u.2.1,u.2.2.1,u.2.2.2.1,s.2.2.2.2+1,u.2.2.2.2.1,u.2.2.2.2.2):N2) λ_ v=>hi2 a b v
  match v.1 with
  | some r=>pure (.done (some r,v.2.1,v.2.2.1,v.2.2.2.1,v.2.2.2.2.1))
  | none=>do
   uH (v.2.2.2.2.1+1)
   pure (.yield (none,v.2.1,v.2.2.1,v.2.2.2.1,v.2.2.2.2.1+1))
theorem qgi (a b:Array Keyed):M8 a b=(do
  liftM (rule "list.sort.merge-hi")
  let e <-elem' a (a.size-1)
  if (a.size-1==0)=true then pure (n7 a b #[e] (a.size-1) b.size)
  else if (b.size==1)=true then pure (rY a b #[e] (a.size-1) b.size)
  else do
   let st <-get;let s <-forIn [0:a.size+b.size] ((none,a.size-1,b.size,#[e],gallopOf st):N0) λ_ s=>hi0 a b s
   match s.1 with
   | some r=>pure r
   | none=>liftM (unsupported "internal:list.sort.merge-bound":Sem (Array Keyed))):=by kernel_rfl
end TS
end Internal
end
section
open PySem PySem.W PyProof.Rows
namespace Internal
namespace TS
variable [Kd]
noncomputable def H (a b:Array Keyed)(base:Nat)(out:Array Keyed)(na nb:Nat):Prop:=MH a b out na nb/\1<=na/\2<=nb/\na<=a.size/\nb<=b.size/\na+nb+base<=a.size+b.size
noncomputable def H1 (a b:Array Keyed)(base:Nat)(c:N1):Prop:=(∃r,c.1=some r/\MR a b r)\/(c.1=none/\H a b base c.2.2.2.1 c.2.1 c.2.2.1)
noncomputable def H2 (a b:Array Keyed)(base:Nat)(c:N2):Prop:=(∃r,c.1=some r/\MR a b r)\/(c.1=none/\H a b base c.2.2.2.1 c.2.1 c.2.2.1)
section
variable {prog:Program}{w:World}{A:Around}{E:Value->Shared->Prop}{s:Shared}[j9 prog w A s]{a b:Array Keyed}{st st0:SortSt}
theorem Two.firstOk (T:Two a b){out:Array Keyed}{na nb:Nat}(h:MH a b out na nb)(e:nb=1):MR a b (rY a b out na nb) :=
 h.first T.sa T.sb e λi hi=>le_of_lt (T.first i hi)
theorem qkt (T:Two a b){mg base:Nat}{out:Array Keyed}{na nb ac bc:Nat}(hk:kindOf st=oneType')(hg:H a b base out na nb){Q:ForInStep N1->SortSt->Prop}(hd:∀c,H1 a b (base+1) c->Q (.done c) st)(hy:∀out' iH iI dN dR,H a b (base+1) out' iH iI->Q (.yield (none,iH,iI,out',dN,dR)) st) :
  wpS (model prog w) A E s (hi1 a b mg (none,na,nb,out,ac,bc)) Q st:=by
 obtain⟨h,h1,h2,h3,h4,h5⟩:=hg;obtain⟨na,rfl⟩:∃m,na=m+1:=⟨na-1,bG (aA (aB 0x1ff0aa1f0a11 rfl (aR _ _))) (aA (aB 0xf1af0a10f1a1 rfl (aM (aA (aK 0xff0a10f1 rfl h1)))))⟩;obtain⟨nb,rfl⟩:∃m,nb=m+1:=⟨nb-1,bG (aA (aB 0x1ff0aa1f0a11 rfl (aR _ _))) (aA (aB 0xf1af0a10f1a1 rfl (aM (aA (aK 0xff0a10281 rfl h2)))))⟩;refine aF (T.ib nb (ltN (aB 0x1010f1a1 rfl h4))) λy ey iy=>?_;refine aF (T.ia na (ltN (aB 0x1010f1a1 rfl h3))) λx ex ix=>?_;unfold hi1;dsimp only;rw[Nat.add_sub_cancel,Nat.add_sub_cancel];refine wpS_bind (eX ey (wpS_bind (eX ex (wpS_bind (wW hk iy ix ?_)))));dsimp only;refine cB (λq=>?_) (λq=>?_)
 ·have q:=of_decide_eq_true q;have h':=h.pushA T.sa ex λj hj=>Int.le_trans (T.sb j nb (aA (aB 0x1f0a1f0af1a1 rfl hj)) (ltN (aB 0x1010f1a1 rfl h4))) (le_of_lt (cJ ey▸cJ ex▸q));refine wpS_bind (eX ex (cB (λq2=>?_) (λq2=>?_)))
  ·exact wpS_pure (hd _ (.inl ⟨_,rfl,h'.done T.sb (eq_of_beq q2)⟩))
  ·have q2:na≠0:=λz=>q2 (beq_iff_eq.mpr z);have g:H a b (base+1) (out.push x) na (nb+1):=⟨h',aA λU=>(cF q2 ((aK 0x08f0a1 rfl)) (aK 0x0f08a1ff0a1 rfl U)),h2,aA (aB 0x1f0a10f1a1 rfl h3),h4,aA (bN 0xf4af3a2aaf10aa110a4f3af2aaa1 rfl h5)⟩;exact cB (λ_=>wpS_pure (hd _ (.inr ⟨rfl,g⟩))) (λ_=>wpS_pure (hy _ _ _ _ _ g))
 ·have q:¬Kd.num y.1<Kd.num x.1:=λz=>q (decide_eq_true z);have h':=h.pushB T.sb ey λi hi=>Int.le_trans (T.sa i na (aA (aB 0x1f0a1f0af1a1 rfl hi)) (ltN (aB 0x1010f1a1 rfl h3))) (not_lt.mp (cJ ey▸cJ ex▸q));refine wpS_bind (eX ey (cB (λq2=>?_) (λq2=>?_)))
  ·exact wpS_pure (hd _ (.inl ⟨_,rfl,T.firstOk h' (eq_of_beq q2)⟩))
  ·have q2:nb≠1:=λz=>q2 (beq_iff_eq.mpr z);have g:H a b (base+1) (out.push y) (na+1) nb:=⟨h',h1,aA λU=>(cF q2 ((aK 0xff0a1f0a281 rfl h2)) (aK 0x0ffa128f0a1 rfl U)),h3,aA (aB 0x1f0a10f1a1 rfl h4),aA (bN 0xf4a3f2aaaf10aa110a4f3af2aaa1 rfl h5)⟩;exact cB (λ_=>wpS_pure (hd _ (.inr ⟨rfl,g⟩))) (λ_=>wpS_pure (hy _ _ _ _ _ g))
theorem qkr (T:Two a b){mg base:Nat}{out:Array Keyed}{na nb:Nat}(hk:kindOf st=oneType')(hg:H a b base out na nb){Q:N1->SortSt->Prop}(hd:∀c,H1 a b (base+1) c->Q c st) :
  wpS (model prog w) A E s (forIn [0:a.size+b.size] ((none,na,nb,out,0,0):N1) λ_ u=>hi1 a b mg u) Q st:=by
 have:=T.a0;refine wpS_forRange (I:=λx c st'=>st'=st/\∃out na nb ac bc,c=(none,na,nb,out,ac,bc)/\H a b (base+x) out na nb) (λx c st' _ hx=>?_) (λc st'=>?_) ⟨rfl,out,na,nb,0,0,rfl,hg⟩
 ·rintro⟨rfl,out,na,nb,ac,bc,rfl,g⟩;refine qkt T hk g (λc hc=>hd c ?_) λout' iH iI dN dR g'=>⟨rfl,out',iH,iI,dN,dR,rfl,g'⟩;exact hc.imp id λ⟨z,z1,z2,z3,z4,z5,z6⟩=>⟨z,z1,z2,z3,z4,z5,aA (eU 0xf4a32aaf10aa110af54aa32aa1 rfl z6)⟩
 ·rintro⟨rfl,out,na,nb,ac,bc,rfl,⟨z1,z2,z3,z4,z5,z6⟩⟩;exact hd _ (.inr ⟨rfl,z1,z2,z3,z4,z5,le_trans (Nat.add_le_add_left (Nat.add_le_add_left (le_trans (le_trans z2 (le_trans (le_trans (Nat.le_add_right na nb) (Nat.le_add_right _ _)) z6)) (Nat.le_max_right 0 _)) base) _) z6⟩)
theorem qci {left:Bool}{key:Keyed}{arr:Array Keyed}{n:Nat}(hk:kindOf st=oneType')(hkey:IK key)(ha:lC arr)(hs:fV arr)(h0:0<n)(hh:n<=arr.size){Q:Option Nat->SortSt->Prop}(h:∀k,k<=n->(∀i,i<k->K arr i<=nk key)->(∀i,k<=i->i<n->nk key<=K arr i)->Q (some k) st):wpS (model prog w) A E s (nY left key arr 0 n (n-1)) Q st :=
 G7 hk hkey (λi hi=>by rw[zero_add];exact ha i (ltN (aC 0x1010212f1a1 rfl hi hh))) (λi j hij hj=>by rw[zero_add,zero_add];exact hs _ _ (aA (aB 0x1f0a1011 rfl hij)) (ltN (aC 0x1010212f1a1 rfl hj hh))) (ltN (aB 0x1010f1a1 rfl (aM (aA (aK 0xff0a10f08a1 rfl h0))))) λk h1 h2 h3=>h k h1 (λi hi=>by have:=H8 (h2 i hi);rwa[zero_add]at this) λi hi hn=>by
  have:=H7 (h3 i hi hn);rwa[zero_add]at this
theorem qcl (T:Two a b){mg ac bc base:Nat}{out:Array Keyed}{na nb:Nat}(h:MH a b out na nb)(h1:1<=na)(h2:2<=nb)(h3:na<=a.size)(h4:nb<=b.size)(h5:na+nb+base<=a.size+b.size)(hl:∀j,j<nb->K b j<=K a (na-1)){Q:ForInStep N2->SortSt->Prop}(hd:∀c,H2 a b base c->Q (.done c) st)(hy:∀out' iH iI mg dN dR,H a b base out' iH iI->Q (.yield (none,iH,iI,out',mg,dN,dR)) st):wpS (model prog w) A E s (zO a b mg ac bc out na nb) Q st:=by
 obtain⟨na,rfl⟩:∃m,na=m+1:=⟨na-1,bG (aA (aB 0x1ff0aa1f0a11 rfl (aR _ _))) (aA (aB 0xf1af0a10f1a1 rfl (aM (aA (aK 0xff0a10f1 rfl h1)))))⟩;refine aF (T.ia na (ltN (aB 0x1010f1a1 rfl h3))) λx ex ix=>?_;unfold zO;rw[Nat.add_sub_cancel]at hl ⊢;have h':=h.pushA T.sa ex hl;refine wpS_bind (eX ex (cB (λq2=>?_) (λq2=>?_)))
 ·exact wpS_pure (hd _ (.inl ⟨_,rfl,h'.done T.sb (eq_of_beq q2)⟩))
 ·have q2:na≠0:=λz=>q2 (beq_iff_eq.mpr z);have g:H a b base (out.push x) na nb:=⟨h',aA λU=>(cF q2 ((aK 0x08f0a1 rfl)) (aK 0x0f08a1ff0a1 rfl U)),h2,aA (aB 0x1f0a10f1a1 rfl h3),h4,aA (bN 0x432aaf10aa110a43f2aaa1 rfl h5)⟩;exact cB (λ_=>wpS_pure (hd _ (.inr ⟨rfl,g⟩))) (λ_=>wpS_pure (hy _ _ _ _ _ _ g))
theorem qck (T:Two a b){mg ac bc base:Nat}{out:Array Keyed}{na nb:Nat}(hk:kindOf st=oneType')(h:MH a b out na nb)(h1:1<=na)(h2:2<=nb)(h3:na<=a.size)(h4:nb<=b.size)(h5:na+nb+base<=a.size+b.size)(hl:∀i,i<na->K a i<=K b (nb-1)){Q:ForInStep N2->SortSt->Prop}(hd:∀c,H2 a b base c->Q (.done c) st)(hy:∀out' iH iI mg dN dR,H a b base out' iH iI->Q (.yield (none,iH,iI,out',mg,dN,dR)) st):wpS (model prog w) A E s (zN a b mg ac bc nb out na) Q st:=by
 obtain⟨nb,rfl⟩:∃m,nb=m+1:=⟨nb-1,bG (aA (aB 0x1ff0aa1f0a11 rfl (aR _ _))) (aA (aB 0xf1af0a10f1a1 rfl (aM (aA (aK 0xff0a10281 rfl h2)))))⟩;refine aF (T.ib nb (ltN (aB 0x1010f1a1 rfl h4))) λy ey iy=>?_;refine aF (T.ia (na-1) (ltN (aC 0x1012f1a1021 rfl h3 (aM (aA (aK 0xff0a10f1 rfl h1)))))) λx ex ix=>?_;unfold zN;rw[Nat.add_sub_cancel]at hl ⊢;have h':=h.pushB T.sb ey hl;refine wpS_bind (eX ey (cB (λq2=>?_) (λq2=>?_)))
 ·exact wpS_pure (hd _ (.inl ⟨_,rfl,T.firstOk h' (eq_of_beq q2)⟩))
 ·have q2:nb≠1:=λz=>q2 (beq_iff_eq.mpr z);refine wpS_bind (eX ex (wpS_bind (qci hk ix T.ib T.sb (ltN (aK 0x0801f0a281 rfl h2)) (aA (aB 0x1f0a10f1a1 rfl h4)) λk g1 g2 g3=>?_)));dsimp only;refine cB (λhz=>?_) (λhz=>?_)
  ·have h'':=MH.appB (nb:=k) T.sb T.ib (by exact aA (aC 0x1f0a10f2a1211 rfl g1 h4)) (nb-k) (out:=out.push y) (by rw[show k+(nb-k)=nb by exact bG (aA (aC 0x21af0a1012a1 rfl (aM (aA (aB 0x1f0a1011 rfl g1))))) (aA (aC 0x2f10aa101a21 rfl (aR _ _)))];exact h') (by exact aA (aL 0x21af0a1312a10f3a1 rfl h4 (aM (aA (aB 0x1f0a1011 rfl g1))))) λi hi hi2 j hj=>Int.le_trans (T.sa j (na-1) (by exact aA (aC 0x1f0a1f0a212f1a1 rfl hj (aR _ _))) (by exact ltN (aC 0x1012f1a1021 rfl h3 (aM (aA (aK 0xff0a10f1 rfl h1)))))) (cJ ex▸g3 i hi (by exact ltN (aL 0x101023a132af1a1 rfl hi2 (aM (aA (aB 0x1f0a1011 rfl g1))))));rw[show k+(nb-k)=nb by exact bG (aA (aC 0x21af0a1012a1 rfl (aM (aA (aB 0x1f0a1011 rfl g1))))) (aA (aC 0x2f10aa101a21 rfl (aR _ _)))]at h'';refine cB (λq3=>?_) (λq3=>cB (λq4=>?_) (λq4=>?_))
   ·exact wpS_pure (hd _ (.inl ⟨_,rfl,T.firstOk h'' (eq_of_beq q3)⟩))
   ·exfalso;have e:=eq_of_beq q4;have:=g3 0 (aA (aK 0x0f08a10801 rfl (aQ e))) (ltN (aK 0x0801f0a281 rfl h2));rw[<-cJ ex]at this;exact absurd (T.first (na-1) (ltN (aC 0x1012f1a1021 rfl h3 (aM (aA (aK 0xff0a10f1 rfl h1)))))) (not_lt.mpr this)
   ·have q3:k≠1:=λz=>q3 (beq_iff_eq.mpr z);have q4:k≠0:=λz=>q4 (beq_iff_eq.mpr z);exact qcl T h'' h1 (aA λU=>(cF q4 ((aK 0x08f0a1 rfl)) λnH=>(cF q3 ((aK 0xff0a10f08a1 rfl nH)) (aK 0x0ffa128f0a1 rfl U)))) h3 (aA (aC 0x1f0a10f2a1211 rfl g1 h4)) (aA (eU 0x432aaf10aa110a4f5a2aa1531 rfl g1 h5)) (λj hj=>cJ ex▸g2 j hj) hd hy
  ·have e:k=nb:=bG (aA (aB 0x1f0a1011 rfl g1)) (aA (aC 0x1f0a102a110821 rfl (aA hz) (aR _ _)));exact qcl T h' h1 (aA λU=>(cF q2 ((aK 0xff0a1f0a281 rfl h2)) (aK 0x0ffa128f0a1 rfl U))) h3 (aA (aB 0x1f0a10f1a1 rfl h4)) (aA (bN 0x432aaf10aa110a4f3a2aa1 rfl h5)) (λj hj=>cJ ex▸g2 j (ltN (aC 0x1010212f1a1 rfl hj (aW e)))) hd hy
theorem qcj (T:Two a b){mg' mg ac bc base:Nat}{out:Array Keyed}{na nb:Nat}(hf:Fx st0 st)(hg:H a b base out na nb){Q:ForInStep N2->SortSt->Prop}(hd:∀c st',Fx st0 st'->H2 a b base c->Q (.done c) st')(hy:∀out' iH iI mg dN dR st',Fx st0 st'->H a b base out' iH iI->Q (.yield (none,iH,iI,out',mg,dN,dR)) st'):wpS (model prog w) A E s (zM a b (none,na,nb,out,mg',ac,bc) mg) Q st:=by
 obtain⟨h,h1,h2,h3,h4,h5⟩:=hg;refine aF (T.ib (nb-1) (ltN (aC 0x1012f1a1021 rfl h4 (aM (aA (aK 0xff0a10281 rfl h2)))))) λy ey iy=>?_;unfold zM;dsimp only;refine wpS_bind (G8 hf λst' hf'=>wpS_bind (eX ey (wpS_bind (qci hf'.1 iy T.ia T.sa (ltN (aK 0x08010f1 rfl h1)) h3 λk g1 g2 g3=>?_))));dsimp only;refine cB (λhz=>?_) (λhz=>?_)
 ·have h'':=MH.appA (na:=k) T.sa T.ia (by exact aA (aC 0x1f0a1021211 rfl g1 h3)) (na-k) (out:=out) (by rw[show k+(na-k)=na by exact bG (aA (aC 0x21af0a1012a1 rfl (aM (aA (aB 0x1f0a1011 rfl g1))))) (aA (aC 0x2f10aa101a21 rfl (aR _ _)))];exact h) (by exact aA (aL 0x21af0a1312a1031 rfl h3 (aM (aA (aB 0x1f0a1011 rfl g1))))) λi hi hi2 j hj=>Int.le_trans (T.sb j (nb-1) (by exact aA (aC 0x1f0a1f0a212f1a1 rfl hj (aR _ _))) (by exact ltN (aC 0x1012f1a1021 rfl h4 (aM (aA (aK 0xff0a10281 rfl h2)))))) (cJ ey▸g3 i hi (by exact ltN (aL 0x101023a132af1a1 rfl hi2 (aM (aA (aB 0x1f0a1011 rfl g1))))));rw[show k+(na-k)=na by exact bG (aA (aC 0x21af0a1012a1 rfl (aM (aA (aB 0x1f0a1011 rfl g1))))) (aA (aC 0x2f10aa101a21 rfl (aR _ _)))]at h'';refine cB (λq3=>?_) (λq3=>?_)
  ·exact wpS_pure (hd _ _ hf' (.inl ⟨_,rfl,h''.done T.sb (eq_of_beq q3)⟩))
  ·have q3:k≠0:=λz=>q3 (beq_iff_eq.mpr z);exact qck T hf'.1 h'' (aA λU=>(cF q3 ((aK 0x08f0a1 rfl)) (aK 0x0f08a1ff0a1 rfl U))) h2 (aA (aC 0x1f0a1021211 rfl g1 h3)) h4 (aA (eU 0x432aaf10aa110a435aa1521 rfl g1 h5)) (λi hi=>cJ ey▸g2 i hi) (λc=>hd c st' hf') λ_ _ _ _ _ _=>hy _ _ _ _ _ _ st' hf'
 ·exact qck T hf'.1 h h1 h2 h3 h4 h5 (λi hi=>cJ ey▸g2 i (ltN (aL 0x10103a2108312f1a1 rfl hi (aA hz) (aR _ _)))) (λc=>hd c st' hf') λ_ _ _ _ _ _=>hy _ _ _ _ _ _ st' hf'
theorem qks (T:Two a b){mg ac bc base:Nat}{out:Array Keyed}{na nb:Nat}(hf:Fx st0 st)(hg:H a b base out na nb){Q:N2->SortSt->Prop}(hd:∀c st',Fx st0 st'->H2 a b base c->Q c st') :
  wpS (model prog w) A E s (forIn [0:a.size+b.size] ((none,na,nb,out,mg,ac,bc):N2) λ_ u=>hi2 a b u) Q st:=by
 refine wpS_forRange (I:=λx c st'=>Fx st0 st'/\∃out na nb mg ac bc,c=(none,na,nb,out,mg,ac,bc)/\H a b base out na nb) (λx c st' _ hx=>?_) (λc st'=>?_) ⟨hf,out,na,nb,mg,ac,bc,rfl,hg⟩
 ·rintro⟨hf',out,na,nb,mg,ac,bc,rfl,g⟩;unfold hi2;exact cB (λ_=>qcj T hf' g (λc st''=>hd c st'') λout' iH iI mg dN dR st'' f g'=>⟨f,out',iH,iI,mg,dN,dR,rfl,g'⟩) (λ_=>qcj T hf' g (λc st''=>hd c st'') λout' iH iI mg dN dR st'' f g'=>⟨f,out',iH,iI,mg,dN,dR,rfl,g'⟩)
 ·rintro⟨hf',out,na,nb,mg,ac,bc,rfl,g⟩;exact hd _ _ hf' (.inr ⟨rfl,g⟩)
theorem qkx (T:Two a b)(hk:kindOf st=oneType'){Q:Array Keyed->SortSt->Prop}(h:∀m st',Fx st st'->MR a b m->Q m st'):wpS (model prog w) A E s (M8 a b) Q st:=by
 rw[qgi];have hf:Fx st st:=⟨hk,rfl,rfl,rfl⟩;have ha:=T.a0;have hb:=T.b0;refine aF (T.ia (a.size-1) (ltN (aB 0x1010f1a1 rfl (aM (aA (aK 0xff0a10f08a1 rfl ha)))))) λx ex ix=>?_;have m0:MH a b #[] (a.size-1+1) b.size:=⟨by rw[show a.size-1+1=a.size by exact bG (aA (aB 0xf1af0a10f1a1 rfl (aM (aA (aK 0xff0a10f08a1 rfl ha))))) (aA (aB 0x1ff0aa1f0a11 rfl (aR _ _))),drop_of_length_le (by simp),drop_of_length_le (by simp)];exact List.Perm.refl _,Pairwise.nil,λx hx=>absurd hx (by simp),λx hx=>absurd hx (by simp)⟩;have m1:MH a b #[x] (a.size-1) b.size:=m0.pushA T.sa ex λj hj=>le_of_lt (T.last j hj);refine wpS_bind (uK (wpS_bind (eX ex (cB (λq=>?_) (λq=>cB (λq2=>?_) (λq2=>?_))))))
 ·exact wpS_pure (h _ _ hf (m1.done T.sb (eq_of_beq q)))
 ·exact wpS_pure (h _ _ hf (T.firstOk m1 (eq_of_beq q2)))
 ·have q:a.size-1≠0:=λz=>q (beq_iff_eq.mpr z);have q2:b.size≠1:=λz=>q2 (beq_iff_eq.mpr z);refine wpS_bind (wpS_get (wpS_bind (wpS_mono (wpS_forRange (I:=λx c st'=>Fx st st'/\∃out na nb mg,c=(none,na,nb,out,mg)/\H a b (x+1) out na nb) (Q:=λc st'=>Fx st st'/\∃r,c.1=some r/\MR a b r) (λx c st' _ hx=>?_) (λc st'=>?_)
   ⟨hf,#[x],_,_,_,rfl,m1,aA λU=>(cF q2 ((aK 0xff0a10f08a1 rfl hb)) λnH=>(cF q ((aK 0x08f0a1 rfl)) (aK 0x0f08a1ff0a1 rfl U))),aA λU=>(cF q2 ((aK 0xff0a10f08a1 rfl hb)) (aK 0x0ffa128f0a1 rfl U)),aA (aB 0x1f0a1011 rfl (eV _ _)),aA (aK 0x0f0a1 rfl),aA (aC 0xf08a12aaf10aa10f2a1 rfl (aM (aA (aK 0xff0a10f08a1 rfl ha))))⟩) λc st'=>?_)))
  ·rintro⟨hf',out,na,nb,mg,rfl,g⟩;unfold hi0;refine wpS_bind (qkr T hf'.1 g λu hu=>?_);rcases hu with ⟨r,e,hr⟩|⟨e,g'⟩
   ·rw[e];exact wpS_pure ⟨hf',r,rfl,hr⟩
   ·rw[e];refine wpS_bind (uK (wpS_bind (qks T hf' g' λv st2 hf2 hv=>?_)));rcases hv with ⟨r,e,hr⟩|⟨e,g2⟩
    ·rw[e];exact wpS_pure ⟨hf2,r,rfl,hr⟩
    ·rw[e];exact wpS_bind (G8 hf2 λst3 JL=>wpS_pure ⟨JL,_,_,_,_,rfl,g2⟩)
  ·rintro⟨hf',out,na,nb,mg,rfl,g⟩;obtain⟨_,g1,g2,g3,g4,g5⟩:=g;exact absurd (lt_of_lt_of_le (Nat.lt_succ_of_le (Nat.le_max_right 0 _)) (le_trans (Nat.le_add_left _ _) g5)) (lt_irrefl _)
  ·rintro⟨hf',r,e,hr⟩;obtain⟨c,c'⟩:=c;have e:c=some r:=e;subst e;exact wpS_pure (h r st' hf' hr)
end
end TS
end Internal
end
section
open PySem PySem.W PyProof.Rows
namespace Internal
namespace TS
variable [Kd]
noncomputable def Seg (xs:Array Keyed)(lo hi:Nat):Prop:=∀i j,lo<=i->i<=j->j<hi->K xs i<=K xs j
noncomputable def Dec (xs:Array Keyed)(lo hi:Nat):Prop:=∀i j,lo<=i->i<=j->j<hi->K xs j<=K xs i
structure SI (a₀:Array Keyed) (st0:SortSt) (lo:Nat) (st:SortSt):Prop where
 perm:(arrOf st).Perm a₀
 kind:kindOf st=oneType'
 failed:failedOf st=none
 pend:pendingOf st=pendingOf st0
 low:∀i,i<lo->K (arrOf st) i=K (arrOf st0) i
noncomputable def xN (lo a nrem:Nat):StateT SortSt Sem AscSt :=
 forIn [a:nrem] ((none,a):AscSt) λ_ s=>do
  let x <-ltAt' (lo+s.2) (lo+s.2-1)
  match x with
  | some smaller=>if smaller=true then pure (.done (none,s.2)) else pure (.yield (none,s.2+1))
  | _=>pure (.done (some none,s.2))
noncomputable def FP (lo n nrem:Nat):StateT SortSt Sem (Option Nat):=do
 reverseSlice' lo (lo+n)
 let s <-xN lo n nrem
 match s.1 with
 | some r=>pure r
 | none=>pure (some s.2)
noncomputable def HW (lo n nrem:Nat):StateT SortSt Sem DescSt :=
 forIn [n:nrem] ((none,n,0):DescSt) λ_ s=>do
  let x <-ltAt' (lo+s.2.1) (lo+s.2.1-1)
  match x with
  | some smaller =>
   if smaller=true then
    if s.2.2>0 then do
     reverseSlice' (lo+s.2.1-(s.2.2+1)) (lo+s.2.1)
     pure (.yield (none,s.2.1+1,0))
    else pure (.yield (none,s.2.1+1,0))
   else do
    let x <-ltAt' (lo+s.2.1-1) (lo+s.2.1)
    match x with
    | some larger=>if larger=true then pure (.done (none,s.2.1,s.2.2)) else pure (.yield (none,s.2.1+1,s.2.2+1))
    | _=>pure (.done (some none,s.2.1,s.2.2))
  | _=>pure (.done (some none,s.2.1,s.2.2))
noncomputable def CT (lo n nrem:Nat):StateT SortSt Sem (Option Nat):=do
 liftM (rule "list.sort.descending-run")
 let s <-HW lo (n+1) nrem
 match s.1 with
 | some r=>pure r
 | none =>
  if s.2.2>0 then do
   reverseSlice' (lo+s.2.1-(s.2.2+1)) (lo+s.2.1)
   FP lo s.2.1 nrem
  else FP lo s.2.1 nrem
theorem qdn (lo nrem:Nat):countRun' lo nrem=(do
  let s <-xN lo 1 nrem
  match s.1 with
  | some r=>pure r
  | none =>
   if (s.2==nrem)=true then pure (some s.2)
   else if s.2>1 then do
    let x <-ltAt' lo (lo+s.2-1)
    match x with
    | some rose=>if rose=true then pure (some s.2) else do
      reverseSlice' lo (lo+s.2)
      CT lo s.2 nrem
    | _=>pure none
   else CT lo s.2 nrem):=by kernel_rfl
section
variable {prog:Program}{w:World}{A:Around}{E:Value->Shared->Prop}{s:Shared}[j9 prog w A s]{a₀:Array Keyed}{st st0:SortSt}{lo:Nat}
theorem SI.size (h:SI a₀ st0 lo st):(arrOf st).size=a₀.size:=h.perm.size_eq
theorem SI.all (h:SI a₀ st0 lo st)(h0:AllK a₀):lC (arrOf st):=λi hi=>by
 have hm:(arrOf st)[i]∈a₀.toList:=(Array.perm_iff_toList_perm.mp h.perm).mem_iff.mp (by simp);exact⟨_,Array.getElem?_eq_getElem hi,h0 _ hm⟩
theorem wX {i j:Nat}{Q:Option Bool->SortSt->Prop}(hB:SI a₀ st0 lo st)(h0:AllK a₀)(hi:i<a₀.size)(hj:j<a₀.size)(h:Q (some (decide (K (arrOf st) i<K (arrOf st) j))) st):wpS (model prog w) A E s (ltAt' i j) Q st:=by
 refine aF (hB.all h0 i (by rw[hB.size];exact hi)) λx e1 x1=>?_;refine aF (hB.all h0 j (by rw[hB.size];exact hj)) λy e2 y1=>?_;rw[cJ e1,cJ e2]at h;rw[ltAt'_eq];refine wpS_bind (wpS_get (wpS_bind (eX e1 (wpS_bind (eX e2 (wW hB.kind x1 y1 h))))))
theorem SI.mir (h:SI a₀ st0 lo st){i j:Nat}(hi:lo<=i)(hj:j<=a₀.size):SI a₀ st0 lo (setArr st (mirror (arrOf st) i j ((j-i)/2))) :=
 ⟨(mirror_perm _ _ _ _).trans h.perm,h.kind,h.failed,h.pend,λk hk=>by
  show K (mirror (arrOf st) i j ((j-i)/2)) k=_;rw[K_mirror (by rw[h.size];exact hj),if_neg (λU=>(aC 0x0212111f0a1 rfl hk hi U.1))];exact h.low k hk⟩
theorem qce {a nrem:Nat}{Q:AscSt->SortSt->Prop}(h0:AllK a₀)(hn:lo+nrem<=a₀.size)(ha:1<=a)(han:a<=nrem)(hB:SI a₀ st0 lo st)(hs:Seg (arrOf st) lo (lo+a))(h:∀n,a<=n->n<=nrem->Seg (arrOf st) lo (lo+n)->(n=nrem\/K (arrOf st) (lo+n)<K (arrOf st) (lo+n-1))->Q (none,n) st) :
  wpS (model prog w) A E s (xN lo a nrem) Q st:=by
 unfold xN;refine wpS_forRange (I:=λx c st'=>st'=st/\c=(none,x)/\Seg (arrOf st) lo (lo+x)) (λx c st' hax hxn=>?_) (λc st'=>?_) ⟨rfl,rfl,hs⟩
 ·rintro⟨rfl,rfl,hs'⟩;dsimp only;refine wpS_bind (wX hB h0 (ltN (aL 0x21a01031a13f2a1 rfl hxn hn)) (ltN (bN 0x10124a11034a13f2a1 rfl hxn hn (eV _ _))) ?_);dsimp only;refine cB (λq=>wpS_pure (h x hax (aA (aB 0x1f0a10f1a1 rfl hxn)) hs' (.inr (of_decide_eq_true q)))) (λq=>?_);have q:¬K (arrOf st') (lo+x)<K (arrOf st') (lo+x-1):=λz=>q (decide_eq_true z);refine wpS_pure ⟨rfl,rfl,λi j hi hij hj=>?_⟩;by_cases hjx:j<lo+x
  ·exact hs' i j hi hij hjx
  ·have hj':j=lo+x:=bG (aA (aC 0x2f10aa1f1a0af2a1 rfl hj)) (aA (aC 0x21af0a1021a1 rfl (aA hjx)));subst hj';by_cases hi':i=lo+x
   ·subst hi';exact Int.le_refl _
   ·exact Int.le_trans (hs' i (lo+x-1) hi (aA λU=>(cF hi' ((aL 0x21af0a1f3a21a10f3a1 rfl U (aR _ _))) (aC 0x2f10aa110a21 rfl hij))) (ltN (aC 0x210a110af2a1 rfl (aM (aA (aC 0xff10aa12f1121 rfl hax ha)))))) (not_lt.mp q)
 ·rintro⟨rfl,rfl,hs'⟩;rw[show max a nrem=nrem by lia]at hs' ⊢;exact h nrem han (le_refl _) hs' (.inl rfl)
noncomputable def Found (a₀:Array Keyed)(st0:SortSt)(lo nrem:Nat)(Q:Option Nat->SortSt->Prop):Prop:=∀m st',SI a₀ st0 lo st'->1<=m->m<=nrem->Seg (arrOf st') lo (lo+m)->Q (some m) st'
theorem qcr {n nrem:Nat}{Q:Option Nat->SortSt->Prop}(h0:AllK a₀)(hn:lo+nrem<=a₀.size)(h1:1<=n)(hnn:n<=nrem)(hB:SI a₀ st0 lo st)(hs:Dec (arrOf st) lo (lo+n))(h:Found a₀ st0 lo nrem Q) :
  wpS (model prog w) A E s (FP lo n nrem) Q st:=by
 unfold FP;have hB':=hB.mir (i:=lo) (j:=lo+n) (le_refl _) (aA (aL 0x21af0a1031a1321 rfl hnn hn));refine wpS_bind (wpS_reverse (wpS_bind (qce h0 hn h1 hnn hB' (λi j hi hij hj=>?_) λm hm1 hm2 hsm _=>wpS_pure (h m _ hB' (aA (aB 0xff0a11f1011 rfl hm1 h1)) hm2 hsm))));show K (mirror (arrOf st) lo (lo+n) ((lo+n-lo)/2)) i<=K (mirror (arrOf st) lo (lo+n) ((lo+n-lo)/2)) j;rw[K_mirror (by rw[hB.size];exact aA (aL 0x21af0a1031a1321 rfl hnn hn)),K_mirror (by rw[hB.size];exact aA (aL 0x21af0a1031a1321 rfl hnn hn)),if_pos (⟨(aA (aB 0x1f0a1011 rfl hi)),(ltN (aL 0x210a132110af3a1 rfl hj hij))⟩),if_pos (⟨(aA (aC 0x1f0a1211021 rfl hij hi)),(ltN (aC 0x210a110af2a1 rfl hj))⟩)];exact hs _ _ (aA (bN 0x1f0a120a41f4a31a1a131af2a1 rfl hj (aR _ _) (aR _ _))) (aA (bN 0x1f0a1431a120a41321 rfl hij (aR _ _) (aM (aA (aL 0x1f0a1f0a32a2a132af1a1 rfl hj (aR _ _)))))) (lt_of_le_of_lt (Nat.sub_le_sub_left hi _) (by rw[Nat.sub_right_comm,Nat.add_sub_cancel_left];exact Nat.sub_lt (lt_of_lt_of_le h1 (Nat.le_add_left _ _)) Nat.one_pos))
theorem qko {n nrem:Nat}{Q:DescSt->SortSt->Prop}(h0:AllK a₀)(hn:lo+nrem<=a₀.size)(h1:1<=n)(hnn:n<=nrem)(hB:SI a₀ st0 lo st)(hs:Dec (arrOf st) lo (lo+n))(h:∀m neq st',SI a₀ st0 lo st'->n<=m->m<=nrem->Dec (arrOf st') lo (lo+m)->neq+1<=m->(∀i,lo+m-(neq+1)<=i->i<lo+m->K (arrOf st') i=K (arrOf st') (lo+m-1))->Q (none,m,neq) st') :
  wpS (model prog w) A E s (HW lo n nrem) Q st:=by
 unfold HW;refine wpS_forRange (I:=λx c st'=>∃neq,c=(none,x,neq)/\SI a₀ st0 lo st'/\Dec (arrOf st') lo (lo+x)/\neq+1<=x/\(∀i,lo+x-(neq+1)<=i->i<lo+x->K (arrOf st') i=K (arrOf st') (lo+x-1)))
  (λx c st' hax hxn=>?_) (λc st'=>?_) ⟨0,rfl,hB,hs,aA (aK 0xf08af0a10f1 rfl h1),λi h1 h2=>by congr 1;exact bG (aA (aL 0x1f0a1f0a32a132af1a1 rfl h2 (aR _ _))) (aA (aB 0x1f0a1011 rfl h1))⟩
 ·rintro⟨neq,rfl,hB',hs',hq,he⟩;dsimp only;have hsz:lo+x<=(arrOf st').size:=by rw[hB'.size];exact aA (aL 0x21af0a1031a13f2a1 rfl hxn hn)
  refine wpS_bind (wX hB' h0 (ltN (aL 0x21a01031a13f2a1 rfl hxn hn)) (ltN (bN 0x10124a11034a13f2a1 rfl hxn hn (eV _ _))) ?_);dsimp only;refine cB (λhl=>?_) (λhl=>?_)
  ·have hl:=of_decide_eq_true hl;have step:∀xs:Array Keyed,(∀k,K xs k=K (arrOf st') k)->Dec xs lo (lo+(x+1)):=by
    intro xs hk i j hi hij hj;rw[hk,hk];by_cases hjx:j<lo+x
    ·exact hs' i j hi hij hjx
    ·have hj':j=lo+x:=bG (aA (aC 0x2f10aa1f1a0af2a1 rfl hj)) (aA (aC 0x21af0a1021a1 rfl (aA hjx)));subst hj';by_cases hi':i=lo+x
     ·subst hi';exact Int.le_refl _
     ·exact Int.le_trans (le_of_lt hl) (hs' i (lo+x-1) hi (aA λU=>(cF hi' ((aL 0x21af0a1f3a21a10f3a1 rfl U (aR _ _))) (aC 0x2f10aa110a21 rfl hij))) (ltN (aC 0x210a110af2a1 rfl (aM (aA (aC 0xff10aa11f2a1 rfl hq))))))
   refine cB (λ_=>?_) (λ_=>?_)
   ·exact wpS_bind (wpS_reverse (wpS_pure ⟨0,rfl,hB'.mir (aA (aL 0x1f0a1f2a0a31a13f2a1 rfl hq (aR _ _))) (aA (aL 0x21af0a1031a13f2a1 rfl hxn hn)),step _ (K_mirror_equal hsz he),aA (aK 0xf08aff0aa1 rfl),λi h1 h2=>by congr 1;exact bG (aA (aL 0x1f0a1f0af3a2a1f3a2af1a1 rfl h2 (aR _ _))) (aA (aB 0x1f0a1011 rfl h1))⟩))
   ·exact wpS_pure ⟨0,rfl,hB',step _ (λ_=>rfl),aA (aK 0xf08aff0aa1 rfl),λi h1 h2=>by congr 1;exact bG (aA (aL 0x1f0a1f0af3a2a1f3a2af1a1 rfl h2 (aR _ _))) (aA (aB 0x1f0a1011 rfl h1))⟩
  ·have hl:¬K (arrOf st') (lo+x)<K (arrOf st') (lo+x-1):=λz=>hl (decide_eq_true z);refine wpS_bind (wX hB' h0 (ltN (bN 0x10124a11034a13f2a1 rfl hxn hn (eV _ _))) (ltN (aL 0x21a01031a13f2a1 rfl hxn hn)) ?_);dsimp only;refine cB (λhg=>wpS_pure (h x neq st' hB' hax (aA (aB 0x1f0a10f1a1 rfl hxn)) hs' hq he)) (λhg=>?_);have hg:¬K (arrOf st') (lo+x-1)<K (arrOf st') (lo+x):=λz=>hg (decide_eq_true z);have heq:K (arrOf st') (lo+x)=K (arrOf st') (lo+x-1):=jC (bV (cN 0x1f0a1011 rfl (bV hg))) (bV (cN 0x1f0a1011 rfl (bV hl)));refine wpS_pure ⟨neq+1,rfl,hB',λi j hi hij hj=>?_,aA (aB 0xff1aaff0aa10f1a1 rfl hq),λi h1 h2=>?_⟩
   ·by_cases hjx:j<lo+x
    ·exact hs' i j hi hij hjx
    ·have hj':j=lo+x:=bG (aA (aC 0x2f10aa1f1a0af2a1 rfl hj)) (aA (aC 0x21af0a1021a1 rfl (aA hjx)));subst hj';by_cases hi':i=lo+x
     ·subst hi';exact Int.le_refl _
     ·rw[heq];exact hs' i (lo+x-1) hi (aA λU=>(cF hi' ((aL 0x21af0a1f3a21a10f3a1 rfl U (aR _ _))) (aC 0x2f10aa110a21 rfl hij))) (ltN (aC 0x210a110af2a1 rfl (aM (aA (aC 0xff10aa11f2a1 rfl hq)))))
   ·rw[show lo+(x+1)-1=lo+x by exact bG (aA (aC 0x2f10aa1f1a0af2a1 rfl (aM (aA (aB 0xfff1a0aa1 rfl))))) (aA (aC 0x21af0a1f0af2a1a1 rfl (aR _ _)))];by_cases hix:i=lo+x
    ·subst hix;rfl
    ·rw[heq];exact he i (aA (eU 0x1f0a143af5a1a1ff5aa2af4a3a1021 rfl h1 (aR _ _) (aM (aA (aC 0xf2af10aa11f2a1 rfl hq))))) (ltN λU=>(cF hix ((aC 0x21af0a1021a1 rfl U)) (aC 0x2f10aa1f1a0af2a1 rfl h2)))
 ·rintro⟨neq,rfl,hB',hs',hq,he⟩;rw[show max n nrem=nrem by lia]at hs' hq he ⊢;exact h nrem neq st' hB' hnn (le_refl _) hs' hq he
theorem qcq {n nrem:Nat}{Q:Option Nat->SortSt->Prop}(h0:AllK a₀)(hn:lo+nrem<=a₀.size)(hnn:n+1<=nrem)(hB:SI a₀ st0 lo st)(hs:Dec (arrOf st) lo (lo+(n+1)))(h:Found a₀ st0 lo nrem Q) :
  wpS (model prog w) A E s (CT lo n nrem) Q st:=by
 unfold CT;refine wpS_bind (uK (wpS_bind (qko h0 hn (aA (aK 0xfff0aa1 rfl)) hnn hB hs λm neq st' hB' hm1 hm2 hs' hq he=>?_)));dsimp only;have hsz:lo+m<=(arrOf st').size:=by rw[hB'.size];exact aA (aL 0x21af0a1031a1321 rfl hm2 hn)
 refine cB (λ_=>?_) (λ_=>qcr h0 hn (aA (aB 0xff0a10f1a1 rfl hq)) hm2 hB' hs' h);refine wpS_bind (wpS_reverse (qcr h0 hn (aA (aB 0xff0a10f1a1 rfl hq)) hm2 (hB'.mir (aA (aL 0x1f0a1f2a0a31a13f2a1 rfl hq (aR _ _))) (aA (aL 0x21af0a1031a1321 rfl hm2 hn))) (λi j hi hij hj=>?_) h));show K (mirror (arrOf st') _ _ _) j<=K (mirror (arrOf st') _ _ _) i;rw[K_mirror_equal hsz he,K_mirror_equal hsz he];exact hs' i j hi hij hj
theorem qkn {nrem:Nat}{Q:Option Nat->SortSt->Prop}(h0:AllK a₀)(hn:lo+nrem<=a₀.size)(h1:1<=nrem)(hB:SI a₀ st0 lo st)(h:Found a₀ st0 lo nrem Q):wpS (model prog w) A E s (countRun' lo nrem) Q st:=by
 rw[qdn];refine wpS_bind (qce h0 hn (le_refl 1) h1 hB (λi j hi hij hj=>by
  have:i=j:=bG (aA (aB 0x1f0a1011 rfl hij)) (aA (aC 0x1f0a1021f2af1a1 rfl hj hi));subst this;exact Int.le_refl _) λn hn1 hn2 hsn hor=>?_)
 dsimp only;refine cB (λ_=>wpS_pure (h n st hB hn1 hn2 hsn)) (λhnn=>?_);have hnn:n≠nrem:=λz=>hnn (beq_iff_eq.mpr z);have hlt:=hor.resolve_left hnn;have snoc:Dec (arrOf st) lo (lo+n)->∀xs:Array Keyed,(∀k,K xs k=K (arrOf st) k)->Dec xs lo (lo+(n+1)):=λhd xs hk i j hi hij hj=>by
  rw[hk,hk];by_cases hjn:j<lo+n
  ·exact hd i j hi hij hjn
  ·have hj':j=lo+n:=bG (aA (aC 0x2f10aa1f1a0af2a1 rfl hj)) (aA (aC 0x21af0a1021a1 rfl (aA hjn)));subst hj';by_cases hi':i=lo+n
   ·subst hi';exact Int.le_refl _
   ·exact Int.le_trans (le_of_lt hlt) (hd i (lo+n-1) hi (aA λU=>(cF hi' ((aL 0x21af0a1f3a21a10f3a1 rfl U (aR _ _))) (aC 0x2f10aa110a21 rfl hij))) (ltN (aC 0x210a110af2a1 rfl (aM (aA (aB 0xff10aa11f1 rfl hn1))))))
 refine cB (λhgt=>?_) (λhgt=>?_)
 ·refine wpS_bind (wX hB h0 (ltN (aL 0x101031a13212ffa1 rfl hgt hn2 hn)) (ltN (bN 0x10124af1a1034a1321 rfl hn2 hn (aM (aA (aB 0xff10aa11ffa1 rfl hgt))))) ?_);dsimp only;refine cB (λ_=>wpS_pure (h n st hB hn1 hn2 hsn)) (λhr=>?_);have hr:¬K (arrOf st) lo<K (arrOf st) (lo+n-1):=λz=>hr (decide_eq_true z);have hsz:lo+n<=(arrOf st).size:=by rw[hB.size];exact aA (aL 0x21af0a1031a1321 rfl hn2 hn)
  have hall:∀k,lo<=k->k<lo+n->K (arrOf st) k=K (arrOf st) (lo+n-1):=by
   intro k hk0 hk;have a1:=hsn lo k (le_refl _) hk0 hk;have a2:=hsn k (lo+n-1) hk0 (aA (aL 0x1f0a1f0a32a132af1a1 rfl hk (aR _ _))) (ltN (aC 0x210a110af2a1 rfl (aM (aA (aB 0xff10aa11ffa1 rfl hgt)))));exact jC (bV (cN 0x1f0a1011 rfl a2)) (bV (mX 0x1f0a1211021 rfl a1 (bV hr)))
  refine wpS_bind (wpS_reverse (qcq h0 hn (aA λU=>(cF hnn ((aB 0x1f0a1f0af1a1 rfl U)) (aB 0x1f0a1011 rfl hn2))) (hB.mir (le_refl _) (aA (aL 0x21af0a1031a1321 rfl hn2 hn))) ?_ h));exact snoc (λi j hi hij hj=>by rw[hall i hi (ltN (aL 0x210a132110af3a1 rfl hj hij)),hall j (aA (aC 0x1f0a1211021 rfl hij hi)) hj];exact Int.le_refl _) _ (K_mirror_equal hsz hall)
 ·refine qcq h0 hn (aA λU=>(cF hnn ((aB 0x1f0a1f0af1a1 rfl U)) (aB 0x1f0a1011 rfl hn2))) hB (snoc (λi j hi hij hj=>?_) _ λ_=>rfl) h;have:i=j:=bG (aA (aB 0x1f0a1011 rfl hij)) (aA (aL 0x1f0a1f3102132af1a1 rfl hj hi (aA hgt)));subst this;exact Int.le_refl _
theorem SI.bub (h:SI a₀ st0 lo st){src d:Nat}(hs:src<a₀.size)(hd:lo+d<=src):SI a₀ st0 lo (setArr st (bubble (arrOf st) src d)) :=
 ⟨(bubble_perm _ _ _).trans h.perm,h.kind,h.failed,h.pend,λk hk=>by
  show K (bubble (arrOf st) src d) k=_;rw[K_bubble (by rw[h.size];exact hs) (by exact aA (aL 0x1f0a1013a13f2a1 rfl hk hd)),if_neg (by exact λU=>(bN 0x30a41432a12f1a1101 rfl (aW U) hk hd (aR _ _))),if_neg (by exact λU=>(bN 0x24a310f4a1321a11f0a1 rfl hk hd U.1 (aR _ _)))];exact h.low k hk⟩
theorem qkm {n ok:Nat}{Q:Bool->SortSt->Prop}(h0:AllK a₀)(hn:lo+n<=a₀.size)(hok:ok<=n)(hB:SI a₀ st0 lo st)(hs:Seg (arrOf st) lo (lo+ok))(h:∀st',SI a₀ st0 lo st'->Seg (arrOf st') lo (lo+n)->Q true st'):wpS (model prog w) A E s (binarySort' lo n ok) Q st:=by
 rw[binarySort'_eq];refine wpS_bind (wpS_mono (wpS_forRange (I:=λk c st'=>c=(none,())/\SI a₀ st0 lo st'/\Seg (arrOf st') lo (lo+min k n)) (Q:=λc st'=>c=(none,())/\SI a₀ st0 lo st'/\Seg (arrOf st') lo (lo+n)) (λk c st' hak hkn=>?_) (λc st'=>?_) ⟨rfl,hB,λi j hi hij hj=>?_⟩) λc st'=>?_)
 ·rintro⟨rfl,hB',hs'⟩;rw[show min k n=k by lia]at hs';refine wpS_bind (wpS_mono (wpS_forRange (I:=λx c st''=>st''=st'/\∃l r,c=(none,l,r)/\l<=r/\r<=k/\r-l<=k-x/\(∀i,i<l->K (arrOf st') (lo+i)<=K (arrOf st') (lo+k))/\(∀i,r<=i->i<k->K (arrOf st') (lo+k)<K (arrOf st') (lo+i)))
   (Q:=λc st''=>st''=st'/\∃l r,c=(none,l,r)/\l<=k/\(∀i,i<l->K (arrOf st') (lo+i)<=K (arrOf st') (lo+k))/\(∀i,l<=i->i<k->K (arrOf st') (lo+k)<K (arrOf st') (lo+i))) (λx c st'' _ hxk=>?_) (λc st''=>?_)
   ⟨rfl,0,k,rfl,by exact aA (aK 0x08f0a1 rfl),by exact aA (aK 0x0f0a1 rfl),by exact aA (aK 0x0f0a1 rfl),λi hi=>by lia,λi h1 h2=>by lia⟩) λc st''=>?_)
  ·rintro⟨rfl,l,r,rfl,hlr,hrk,hm,hlo,hhi⟩;dsimp only;refine cB (λhge=>?_) (λhge=>?_)
   ·have:l=r:=by exact bG (aA (aB 0x1f0a1011 rfl hlr)) (aA (aB 0x1f0a1011 rfl hge))
    subst this;exact wpS_pure ⟨rfl,l,l,rfl,hrk,hlo,hhi⟩
   ·refine wpS_bind (wX hB' h0 (by exact ltN (aL 0x21a01031a13f2a1 rfl hkn hn)) (by exact ltN (lV 0x21a0236a22c13f6a1051a25f4a2432 rfl hrk hkn hn (ltN hge) (d7 _ _))) ?_);dsimp only;refine cB (λhl=>?_) (λhl=>?_)
    ·have hl:=of_decide_eq_true hl;exact wpS_pure ⟨rfl,l,(l+r)/2,rfl,by exact aA (aC 0x1f0a22802caf21aa12f1a1 rfl (ltN hge) (mU _ (by decide))),by exact aA (aL 0x1f0a223a12c12f3a1022 rfl hrk (ltN hge) (d7 _ _)),by exact aA (qah 0x1f0a2453a1671a272a0d10d7a62c1f5a0a41321 rfl hm (aR _ _) (d7 _ _) (aR _ _) (aM (aA (aC 0x1f0a22802caf21aa12f1a1 rfl (ltN hge) (mU _ (by decide))))) (aM (aA (aB 0x1f0a10f1a1 rfl hxk)))),hlo,λi h1 h2=>Int.lt_of_lt_of_le hl (hs' _ _ (by exact aA (aB 0x0f10aa1 rfl)) (by exact aA (aC 0x20af10aa1121 rfl h1)) (by exact ltN (aC 0x20a10a11f2a1 rfl h2)))⟩
    ·have hl:¬K (arrOf st'') (lo+k)<K (arrOf st'') (lo+(l+r)/2):=λz=>hl (decide_eq_true z);exact wpS_pure ⟨rfl,(l+r)/2+1,r,rfl,by exact aA (aC 0xf1af0a202a12c10f2a1 rfl (ltN hge) (d7 _ _)),by exact aA (aB 0x1f0a1011 rfl hrk),by exact aA (qah 0x1f0a2453a17f0da1a262a71280d2caf76aa1f5a0a41321 rfl hm (aR _ _) (mU _ (by decide)) (aR _ _) (aM (aA (aC 0xf1af0a202a12c10f2a1 rfl (ltN hge) (d7 _ _)))) (aM (aA (aB 0x1f0a10f1a1 rfl hxk)))),λi h1=>Int.le_trans (hs' (lo+i) (lo+(l+r)/2) (by exact aA (aB 0x0f10aa1 rfl)) (by exact aA (aC 0x20af10aa1f1af2a1 rfl h1)) (by exact ltN (bN 0x20a10a234a22c13f4a1132 rfl hrk (ltN hge) (d7 _ _)))) (not_lt.mp hl),hhi⟩
  ·rintro⟨rfl,l,r,rfl,hlr,hrk,hm,hlo,hhi⟩;have:l=r:=by lia
   subst this;exact⟨rfl,l,l,rfl,hrk,hlo,hhi⟩
  ·rintro⟨rfl,l,r,rfl,hlk,hlo,hhi⟩;show wpS _ _ _ _ (do moveDown' (lo+k) (lo+l);pure (ForInStep.yield (none,()))) _ _;rw[moveDown'_eq];have hks:lo+k<(arrOf st'').size:=by rw[hB'.size];exact ltN (aL 0x21a01031a13f2a1 rfl hkn hn)
   refine wpS_bind (wpS_modify (wpS_pure ⟨rfl,hB'.bub (by exact ltN (aL 0x21a01031a13f2a1 rfl hkn hn)) (by exact aA (aL 0x20af10aa110a30a2a1 rfl (aM (aA (aC 0x20af10aa1121 rfl hlk))))),λi j hi hij hj=>?_⟩));rw[show min (k+1) n=k+1 by lia]at hj;show K (bubble (arrOf st'') (lo+k) (lo+k-(lo+l))) i<=K (bubble (arrOf st'') (lo+k) (lo+k-(lo+l))) j;rw[K_bubble hks (by exact aA (aC 0x2f10aa110a21 rfl (eV _ _))),K_bubble hks (by exact aA (aC 0x2f10aa110a21 rfl (eV _ _))),show lo+k-(lo+k-(lo+l))=lo+l by exact bG (aA (bN 0x2f10aa130a42a110a4a30a1 rfl (aR _ _) (aM (aA (aC 0x2f10aa110a21 rfl (eV _ _)))))) (aA (bN 0x21af0a131a21a4a140a31a1 rfl (aR _ _) (aM (aA (aC 0x20af10aa1121 rfl hlk)))))];have hlo':∀i,lo<=i->i<lo+l->K (arrOf st'') i<=K (arrOf st'') (lo+k):=λi h1 h2=>by
    have:=hlo (i-lo) (by exact ltN (aL 0x101231a103af2a1 rfl h2 (aM (aA (aB 0x1f0a1011 rfl h1)))));rwa[show lo+(i-lo)=i by exact bG (aA (aC 0x21af0a1012a1 rfl (aM (aA (aB 0x1f0a1011 rfl h1))))) (aA (aC 0x2f10aa101a21 rfl (aR _ _)))]at this
   have hhi':∀i,lo+l<=i->i<lo+k->K (arrOf st'') (lo+k)<=K (arrOf st'') i:=λi h1 h2=>by
    have:=le_of_lt (hhi (i-lo) (by exact aA (aL 0x1f0a120a31312a1 rfl h1 (aR _ _))) (by exact ltN (aL 0x101231a103af2a1 rfl h2 (aM (aA (aC 0x1f0a1021a1 rfl h1))))));rwa[show lo+(i-lo)=i by exact bG (aA (aC 0x21af0a1012a1 rfl (aM (aA (aC 0x1f0a1021a1 rfl h1))))) (aA (aC 0x2f10aa101a21 rfl (aR _ _)))]at this
   by_cases ei:i=lo+l
   ·rw[if_pos ei];by_cases ej:j=lo+l
    ·rw[if_pos ej];exact Int.le_refl _
    ·rw[if_neg ej,if_pos ⟨by exact ltN λU=>(cF ej ((aL 0x21af0a1031321a1 rfl (aW ei) hij)) (aC 0x2f10aa110a21 rfl U)),by exact aA (aC 0x2f10aa1f1a0af2a1 rfl hj)⟩];exact hhi' _ (by exact aA λU=>(cF ej ((aL 0x21af0a1031321a1 rfl (aW ei) hij)) (aL 0x2f10aa1f3a2110af3a1 rfl U (aR _ _)))) (by exact ltN λU=>(cF ej ((aL 0x21af0a1031321a1 rfl (aW ei) hij)) λnH=>(aL 0x3f2a1f1a0af3a1210a1 rfl U hj (aM (aA (aC 0xff0a10f21aa1 rfl nH))))))
   ·rw[if_neg ei];by_cases ci:lo+l<i/\i<=lo+k
    ·rw[if_pos ci,if_neg (show ¬j=lo+l by exact λU=>(aL 0x3f21aa103121a01 rfl (aQ U) hij ci.1)),if_pos ⟨by exact ltN (aL 0x21a013f21aa1031 rfl hij ci.1),by exact aA (aC 0x2f10aa1f1a0af2a1 rfl hj)⟩];exact hs' _ _ (by exact aA (aL 0x1f0a1f0a313f21aa1 rfl ci.1 (aR _ _))) (by exact aA (aL 0x1f0a12f1a1f0a31321 rfl hij (aR _ _) (aM (aA (aC 0xff0a10f21aa1 rfl ci.1))))) (by exact ltN (aL 0x210a13f2a1f1a0af3a1 rfl hj (aM (aA (aL 0xff0a11f32aa1011 rfl hij ci.1)))))
    ·rw[if_neg ci];have il:i<lo+l:=by exact ltN λU=>(cF ei ((aC 0x21af0a1021a1 rfl U)) (aC 0x2f10aa110a21 rfl (aA (nB ci (aA (aL 0x2f10aa1321f1a0af3a1 rfl hj hij))))))
     by_cases ej:j=lo+l
     ·rw[if_pos ej];exact hlo' _ hi il
     ·rw[if_neg ej];by_cases cj:lo+l<j/\j<=lo+k
      ·rw[if_pos cj];exact hs' _ _ hi (by exact aA (bN 0x1f0a1f0a414f32aa132af1a1 rfl il cj.1 (aR _ _))) (by exact ltN (aL 0x210a13f2a1f1a0af3a1 rfl hj (aM (aA (aL 0xff0a10f32aa132af1a1 rfl il cj.1)))))
      ·rw[if_neg cj];exact hs' _ _ hi hij (by exact ltN λU=>(cF ej ((aL 0x21af0a1321031a1 rfl U hlk)) (aC 0x2f10aa110a21 rfl (aA (nB cj (aA (aC 0x2f10aa1f1a0af2a1 rfl hj)))))))
 ·rintro⟨hc,hB',hs'⟩;rw[show min (max (max ok 1) n) n=n from min_eq_right (Nat.le_max_right _ _)]at hs';exact⟨hc,hB',hs'⟩
 ·by_cases h1:ok=0
  ·have t:lo+min (max ok 1) n<=lo+1:=Nat.add_le_add_left (le_trans (Nat.min_le_left _ _) (by rw[h1];exact le_refl _)) lo;have:i=j:=Nat.le_antisymm hij (le_trans (Nat.le_of_lt_succ (lt_of_lt_of_le hj t)) hi);subst this;exact Int.le_refl _
  ·exact hs i j hi hij (lt_of_lt_of_le hj (Nat.add_le_add_left (le_trans (Nat.min_le_left _ _) (Nat.max_le.mpr ⟨le_refl _,Nat.pos_of_ne_zero h1⟩)) lo))
 ·rintro⟨rfl,hB',hs'⟩;exact wpS_pure (h st' hB' hs')
end
end TS
end Internal
end
section
open PySem PySem.W PyProof.Rows
namespace Internal
namespace TS
variable [Kd]
noncomputable def putAll (sa:Nat)(l:List Keyed)(arr:Array Keyed):Array Keyed:=l.zipIdx.foldl (λa (p:Keyed×Nat)=>a.setIfInBounds (sa+p.2) p.1) arr
noncomputable def wC (sa:Nat)(m:Array Keyed):StateT SortSt Sem Bool:=do
 modify λs=>setArr s (putAll sa m.toList (arrOf s))
 let s <-get
 pure (failedOf s).isNone
noncomputable def qaA (arr:Array Keyed)(sa na sb nb:Nat):StateT SortSt Sem Bool :=
 if (na==0)=true then pure true else do
  let e <-elem' arr (sa+na-1);let x <-nY true e arr sb nb (nb-1)
  match x with
  | some nb=>if (nb==0)=true then pure true else if na<=nb then M9 (arr.extract sa sb) (arr.extract sb (sb+nb)) >>= wC sa else M8 (arr.extract sa sb) (arr.extract sb (sb+nb)) >>= wC sa
  | _=>pure false
noncomputable def M4 (i sa na pw sb nb:Nat)(s:SortSt):StateT SortSt Sem Bool:=do
 set (setPending s (((pendingOf s).setIfInBounds i (sa,na+nb,pw)).eraseIdxIfInBounds (i+1)))
 let e <-elem' (arrOf s) sb;let x <-nY false e (arrOf s) sa na 0
 match x with
 | some k=>qaA (arrOf s) (sa+k) (na-k) sb nb
 | _=>pure false
theorem qgh (i:Nat):mergeAt' i=(do
  let s <-get
  match ((pendingOf s)[i]?,(pendingOf s)[i+1]?) with
  | (some (sa,na,pw),some (sb,nb,_))=>M4 i sa na pw sb nb s
  | _=>liftM (unsupported "internal:list.sort.pending":Sem Bool)):=by kernel_rfl
theorem qa3 (sa:Nat):∀(l:List Keyed) (j:Nat) (arr:Array Keyed),sa+j+l.length<=arr.size->((l.zipIdx j).foldl (λa (p:Keyed×Nat)=>a.setIfInBounds (sa+p.2) p.1) arr).toList=arr.toList.take (sa+j)++(l++arr.toList.drop (sa+j+l.length))
 | []=>λj arr h=>by
  rw[nil_append,length_nil,add_zero,take_append_drop];rfl
 | x::l=>λj arr h=>by
  rw[length_cons]at h;have hs:arr.toList.length=arr.size:=length_toList;rw[List.zipIdx_cons,foldl_cons,qa3 sa l (j+1) _ (by rw[Array.size_setIfInBounds];exact aA (aL 0x3f2a1aaf0a10f3a21aa1 rfl h)),Array.toList_setIfInBounds,<-add_assoc,List.take_set,List.drop_set_of_lt (by exact ltN (aC 0x10a2f10aaa1 rfl)),length_cons];have hj:sa+j<arr.toList.length:=by rw[length_toList];exact ltN (aL 0x21a010f3a21aa1 rfl h)
  rw[List.take_add_one,getElem?_eq_getElem hj,Option.toList_some,set_append_right _ _ (by rw[length_take];exact Nat.min_le_left _ _)];rw[length_take,min_eq_left (by exact aA (aC 0x21af0a10f21aa1 rfl hj)),sub_self,List.set_cons_zero,append_assoc,List.singleton_append,List.cons_append];rw[show sa+j+1+l.length=sa+j+(l.length+1) by exact bG (aA (aC 0x2f10aaaff2a10aaa1 rfl)) (aA (aC 0xf2a10aaf2f10aaaa1 rfl))]
theorem qa4 {sa:Nat}{l:List Keyed}{arr:Array Keyed}(h:sa+l.length<=arr.size):(putAll sa l arr).toList=arr.toList.take sa++(l++arr.toList.drop (sa+l.length)):=qa3 sa l 0 arr h
theorem xF {xs:Array Keyed}{i:Nat}:K xs i=((xs.toList[i]?).map nk).getD 0:=by
 unfold K nk;rw[Array.getElem?_toList];cases xs[i]? <;> rfl
theorem qcx {sa i:Nat}{m arr:Array Keyed}(h:sa+m.size<=arr.size):K (putAll sa m.toList arr) i=if sa<=i/\i<sa+m.size then K m (i-sa) else K arr i:=by
 rw[xF,qa4 (by simpa using h)];have ht:(arr.toList.take sa).length=sa:=by rw[length_take,length_toList];lia
 by_cases h1:i<sa
 ·rw[getElem?_append_left (by exact ltN (aC 0x1010212f1a1 rfl h1 (aW ht))),List.getElem?_take_of_lt h1,if_neg (by exact λU=>(aB 0x0111f0a1 rfl h1 U.1)),xF]
 ·rw[getElem?_append_right (by exact aA (aC 0x1f0a1021211 rfl (aQ ht) (aA h1))),ht];by_cases h2:i<sa+m.size
  ·rw[getElem?_append_left (by rw[length_toList];exact ltN (aL 0x101231a103af2a1 rfl h2 (aM (aA (aB 0x1f0a1011 rfl (aA h1)))))),if_pos (⟨(aA (aB 0x1f0a1011 rfl (aA h1))),(ltN (aC 0x210a110af2a1 rfl h2))⟩),xF]
  ·rw[getElem?_append_right (by rw[length_toList];exact aA (aL 0x1f0a120a31312a1 rfl (aA h2) (aR _ _))),length_toList,List.getElem?_drop,if_neg (by exact λU=>(aC 0x021a121af0a1 rfl U.2 (aA h2))),xF,show sa+m.size+(i-sa-m.size)=i by exact bG (aA (bN 0x321aaf0a1423a1014a1 rfl (aM (aA (aB 0x1f0a1011 rfl (aA h1)))) (aM (aA (aL 0x1f0a120a31312a1 rfl (aA h2) (aR _ _)))))) (aA (bN 0x3f210aaa112a4104a31 rfl (aR _ _) (aR _ _)))]
theorem qhd {sa sb nb:Nat}{m arr:Array Keyed}(h1:sa<=sb)(h2:sb+nb<=arr.size)(hp:m.toList.Perm ((arr.extract sa sb).toList++(arr.extract sb (sb+nb)).toList)):(putAll sa m.toList arr).Perm arr/\m.size=sb+nb-sa:=by
 have e:(arr.extract sa sb).toList++(arr.extract sb (sb+nb)).toList=(arr.toList.drop sa).take (sb+nb-sa):=by
  rw[toList_extract,toList_extract,extract,extract,show sb+nb-sa=(sb-sa)+nb by exact bG (aA (bN 0x2f10aa113a42a140a31 rfl (aR _ _) (aM (aA (aC 0x2f10aa1021 rfl h1))))) (aA (bN 0x21af0a1341a140a23a1 rfl (aR _ _) (aM (aA (aB 0x1f0a1011 rfl h1))))),show sb+nb-sb=nb by exact bG (aA (aC 0x1f0a102a21a1 rfl (aM (aA (aB 0x0f10aa1 rfl))))) (aA (aC 0x1f0a120a12a1 rfl (aR _ _))),List.take_add,List.drop_drop,show sa+(sb-sa)=sb by exact bG (aA (aC 0x21af0a1012a1 rfl (aM (aA (aB 0x1f0a1011 rfl h1))))) (aA (aC 0x2f10aa101a21 rfl (aR _ _)))]
 rw[e]at hp;have hl:=hp.length_eq;rw[length_take,length_drop,length_toList,length_toList]at hl;have hm:m.size=sb+nb-sa:=hl.trans (min_eq_left (Nat.sub_le_sub_right h2 sa));refine⟨Array.perm_iff_toList_perm.mpr ?_,hm⟩;rw[qa4 (by rw[length_toList];exact aA (eU 0x21af0a154a13a1054a1321 rfl (aQ hm) h2 (aM (aA (aC 0x2f10aa1021 rfl h1))))),length_toList,hm];have e2:arr.toList=arr.toList.take sa++((arr.toList.drop sa).take (sb+nb-sa)++arr.toList.drop (sa+(sb+nb-sa))):=by
  rw[<-List.drop_drop,take_append_drop,take_append_drop]
 exact(List.Perm.append_left _ (hp.append_right _)).trans (List.Perm.of_eq e2.symm)
theorem nO {arr:Array Keyed}{i j p:Nat}(hj:j<=arr.size)(hp:p<j-i):K (arr.extract i j) p=K arr (i+p):=by
 unfold K;rw[Array.getElem?_extract,if_pos (by rw[min_eq_left hj];exact hp)]
theorem wM {arr:Array Keyed}{i j:Nat}(hj:j<=arr.size):(arr.extract i j).size=j-i:=by
 rw[Array.size_extract];rw[min_eq_left hj]
theorem MR.at {a b m:Array Keyed}(h:MR a b m):∀i j,i<=j->j<m.size->K m i<=K m j:=λi j hij hj=>by
 rcases lt_or_ge i j with q|q
 ·have:=List.pairwise_iff_getElem.mp h.2 i j (by simpa using by exact ltN (aC 0x1010f2a12f1a1 rfl q hj)) (by simpa using hj) q;simp only[getElem_map,Array.getElem_toList]at this;rwa[cJ (Array.getElem?_eq_getElem (by exact ltN (aC 0x1010f2a12f1a1 rfl q hj))),cJ (Array.getElem?_eq_getElem (by exact ltN (aB 0x1010f1a1 rfl hj)))]
 ·have:i=j:=bG (aA (aB 0x1f0a1011 rfl hij)) (aA (aB 0x1f0a1011 rfl q));subst this;exact Int.le_refl _
theorem MR.mem {a b m:Array Keyed}(h:MR a b m){i:Nat}(hi:i<m.size):(∃p,p<a.size/\K a p=K m i)\/∃p,p<b.size/\K b p=K m i:=by
 have e:=Array.getElem?_eq_getElem hi;have hm:m[i]∈a.toList++b.toList:=h.1.mem_iff.mp (by simp);rw[cJ e];exact(mem_append.mp hm).imp RD RD
section
variable {prog:Program}{w:World}{A:Around}{E:Value->Shared->Prop}{s:Shared}[j9 prog w A s]{a₀:Array Keyed}{st:SortSt}
theorem qkA {sa:Nat}{m:Array Keyed}{Q:Bool->SortSt->Prop}(hf:failedOf st=none)(h:Q true (setArr st (putAll sa m.toList (arrOf st)))):wpS (model prog w) A E s (wC sa m) Q st:=by
 unfold wC;refine wpS_bind (wpS_modify (wpS_bind (wpS_get (wpS_pure ?_))));have:failedOf (setArr st (putAll sa m.toList (arrOf st)))=none:=hf;rw[this];exact h
theorem qeE {key:Keyed}{arr:Array Keyed}{base i:Nat}(h:bP true key arr base i=true):K arr (base+i)<nk key:=of_decide_eq_true h
theorem qeD {key:Keyed}{arr:Array Keyed}{base i:Nat}(h:bP false key arr base i=false):nk key<K arr (base+i):=by
 have h:(!decide (Kd.num key.1<K arr (base+i)))=false:=h;simp only[Bool.not_eq_false',decide_eq_true_eq]at h;exact h
theorem qkw {i sa na pw nb:Nat}{Q:Bool->SortSt->Prop}(hk:kindOf st=oneType')(hf:failedOf st=none)(hp:(arrOf st).Perm a₀)(hi:lC (arrOf st))(h1:1<=na)(h2:1<=nb)(h3:sa+na+nb<=(arrOf st).size)(s1:Seg (arrOf st) sa (sa+na))(s2:Seg (arrOf st) (sa+na) (sa+na+nb))(h:∀st',(arrOf st').Perm a₀->kindOf st'=oneType'->failedOf st'=none->pendingOf st'=((pendingOf st).setIfInBounds i (sa,na+nb,pw)).eraseIdxIfInBounds (i+1)->Seg (arrOf st') sa (sa+na+nb)->(∀j,(j<sa\/sa+na+nb<=j)->K (arrOf st') j=K (arrOf st) j)->Q true st') :
  wpS (model prog w) A E s (M4 i sa na pw (sa+na) nb st) Q st:=by
 unfold M4;refine aF (hi (sa+na) (by exact ltN (aL 0x21a013f10321aa1 rfl h3 h2))) λe he ie=>?_;refine wpS_bind (show wpS _ _ _ _ (modify λ_=>_) _ _ from wpS_modify (wpS_bind (eX he (wpS_bind (G7 (n:=na) (hint:=0) (show kindOf (setPending st (((pendingOf st).setIfInBounds i (sa,na+nb,pw)).eraseIdxIfInBounds (i+1)))=oneType' from hk) ie (λj hj=>hi (sa+j) (by exact ltN (bN 0x21a014f10431aa13f2a1 rfl hj h3 h2))) (λp q hpq hq=>s1 _ _ (by exact aA (aB 0x0f10aa1 rfl)) (by exact aA (aC 0x20af10aa1121 rfl hpq)) (by exact ltN (aC 0x20a10a11f2a1 rfl hq))) (by exact ltN (aK 0x08010f1 rfl h1)) λk g1 g2 g3=>?_)))));dsimp only;unfold qaA;have LK:∀j,sa<=j->j<sa+k->K (arrOf st) j<=nk e:=λj hj hj2=>by
  have:=H8 (g2 (j-sa) (by exact ltN (aL 0x101231a103af2a1 rfl hj2 (aM (aA (aB 0x1f0a1011 rfl hj))))));rwa[show sa+(j-sa)=j by exact bG (aA (aC 0x21af0a1012a1 rfl (aM (aA (aB 0x1f0a1011 rfl hj))))) (aA (aC 0x2f10aa101a21 rfl (aR _ _)))]at this
 have YJ:∀j,sa+k<=j->j<sa+na->nk e<K (arrOf st) j:=λj hj hj2=>by
  have:=qeD (g3 (j-sa) (by exact aA (aL 0x1f0a120a31312a1 rfl hj (aR _ _))) (by exact ltN (aL 0x101231a103af2a1 rfl hj2 (aM (aA (aC 0x1f0a1021a1 rfl hj))))));rwa[show sa+(j-sa)=j by exact bG (aA (aC 0x21af0a1012a1 rfl (aM (aA (aC 0x1f0a1021a1 rfl hj))))) (aA (aC 0x2f10aa101a21 rfl (aR _ _)))]at this
 have e0:K (arrOf st) (sa+na)=nk e:=cJ he;refine cB (λhz=>?_) (λhz=>?_)
 ·have hz:=eq_of_beq hz;refine wpS_pure (h _ hp hk hf rfl (λp q hp1 hpq hq=>?_) λj _=>rfl);show K (arrOf st) p<=K (arrOf st) q;rcases lt_or_ge q (sa+na) with c|c
  ·exact s1 p q hp1 hpq c
  ·rcases lt_or_ge p (sa+na) with c2|c2
   ·have a1:=LK p hp1 (by exact ltN (bN 0x210a114a31084130af2a1 rfl c2 (aQ hz) (aR _ _)));have a2:=s2 (sa+na) q (le_refl _) c hq;exact bV (KC 0x1f0a1231311021 rfl a2 a1 (mV e0))
   ·exact s2 p q c2 hpq hq
 ·have hz:na-k≠0:=λz=>hz (beq_iff_eq.mpr z);refine aF (hi (sa+k+(na-k)-1) (by exact ltN λU=>(lV 0x562aaf1a1365a14f10432aa1101 rfl U h3 h2 (aM (aA (aB 0x1f0a1011 rfl g1))) (aM (aA (lV 0xff210aaa1210aa415f16f13650aa1431 rfl U h3 h2 h1 (eV _ _))))))) λf hfl iff=>?_;have f0:K (arrOf st) (sa+k+(na-k)-1)=nk f:=cJ hfl;refine wpS_bind (eX hfl (wpS_bind (G7 (n:=nb) (hint:=nb-1) (show kindOf (setPending st (((pendingOf st).setIfInBounds i (sa,na+nb,pw)).eraseIdxIfInBounds (i+1)))=oneType' from hk) iff (λj hj=>hi (sa+na+j) (by exact ltN (bN 0x321aa010421aa14f3a1 rfl hj h3))) (λp q hpq hq=>s2 _ _ (by exact aA (aC 0x10af210aaa1 rfl)) (by exact aA (aL 0x310aaf210aaa1231 rfl hpq)) (by exact ltN (aL 0x310aa210aa12f3a1 rfl hq))) (by exact ltN (aB 0x1010f1a1 rfl (aM (aA (aK 0xff0a10f1 rfl h2))))) λk2 f1 f2 f3=>?_)));dsimp only;have qax:∀j,sa+na<=j->j<sa+na+k2->K (arrOf st) j<nk f:=λj hj hj2=>by
   have:=qeE (f2 (j-(sa+na)) (by exact ltN (bN 0x101243a1a1043aaf2a1 rfl hj2 (aM (aA (aC 0x21af0a1021a1 rfl hj))))));rwa[show sa+na+(j-(sa+na))=j by exact bG (aA (aL 0x321aaf0a1021a3a1 rfl (aM (aA (aC 0x21af0a1021a1 rfl hj))))) (aA (aL 0x3f210aaa110a2a31 rfl (aR _ _)))]at this
  have JM:∀j,sa+na+k2<=j->j<sa+na+nb->nk f<=K (arrOf st) j:=λj hj hj2=>by
   have:=H7 (f3 (j-(sa+na)) (by exact aA (bN 0x1f0a132a0a414132aa1 rfl hj (aR _ _))) (by exact ltN (bN 0x101243a1a1043aaf2a1 rfl hj2 (aM (aA (aL 0x21af0a10321aa1 rfl hj))))));rwa[show sa+na+(j-(sa+na))=j by exact bG (aA (aL 0x321aaf0a1021a3a1 rfl (aM (aA (aL 0x21af0a10321aa1 rfl hj))))) (aA (aL 0x3f210aaa110a2a31 rfl (aR _ _)))]at this
  refine cB (λhz2=>?_) (λhz2=>?_)
  ·have hz2:=eq_of_beq hz2;refine wpS_pure (h _ hp hk hf rfl (λp q hp1 hpq hq=>?_) λj _=>rfl);show K (arrOf st) p<=K (arrOf st) q;rcases lt_or_ge q (sa+na) with c|c
   ·exact s1 p q hp1 hpq c
   ·rcases lt_or_ge p (sa+na) with c2|c2
    ·have a1:=s1 p (sa+k+(na-k)-1) hp1 (by exact aA (eU 0x1f0a1f0a452aa154a3132af1a1 rfl c2 (aR _ _) (aR _ _))) (by exact ltN (bN 0x210a1340aaf2a1143a1 rfl (aM (aA (aB 0x1f0a1011 rfl g1))) (aM (aA (aL 0xff210aaa112a313f1 rfl h1 (aR _ _))))));have a2:=JM q (by exact aA (aL 0x321aaf0a10831021a1 rfl c (aQ hz2))) hq;exact bV (KC 0x1f0a1231311021 rfl a2 a1 (jG f0))
    ·exact s2 p q c2 hpq hq
  ·have hz2:k2≠0:=λz=>hz2 (beq_iff_eq.mpr z);have T:Two ((arrOf st).extract (sa+k) (sa+na)) ((arrOf st).extract (sa+na) (sa+na+k2)):=by
    have z1:((arrOf st).extract (sa+k) (sa+na)).size=na-k:=by rw[wM (by exact aA (aL 0x21af0a13f10321aa1 rfl h3 h2))];exact bG (aA (bN 0x1f0a124a34a1a130a21 rfl (aR _ _) (aM (aA (aC 0x20af10aa1121 rfl g1))))) (aA (bN 0x1f0a1341a142a0a32a1 rfl (aR _ _) (aM (aA (aB 0x1f0a1011 rfl g1)))))
    have z2:((arrOf st).extract (sa+na) (sa+na+k2)).size=k2:=by rw[wM (by exact aA (bN 0x321aaf0a10421aa1431 rfl f1 h3))];exact bG (aA (aL 0x1f0a1032aa32a1a1 rfl (aM (aA (aC 0x10af210aaa1 rfl))))) (aA (aL 0x1f0a132a0a132aa1 rfl (aR _ _)))
    have all:∀i j,j<=(arrOf st).size->lC ((arrOf st).extract i j):=λi j hj p hp=>by
     rw[wM hj]at hp;rw[Array.getElem?_extract,if_pos (by rw[min_eq_left hj];exact hp)];exact hi (i+p) (lt_of_lt_of_le (Nat.add_lt_of_lt_sub' hp) hj)
    refine⟨λp q hpq hq=>?_,λp q hpq hq=>?_,all _ _ (by exact aA (aL 0x21af0a13f10321aa1 rfl h3 h2)),all _ _ (by exact aA (bN 0x321aaf0a10421aa1431 rfl f1 h3)),by exact ltN λU=>(cF hz2 ((aK 0x08f0a1 rfl)) λnH=>(cF hz ((aK 0x08f0a1 rfl)) (aB 0x0f08a11010811 rfl U (aW z1)))),by exact ltN λU=>(cF hz2 ((aK 0x08f0a1 rfl)) (aB 0x0f08a11010811 rfl U (aW z2))),λj hj=>?_,λj hj=>?_⟩
    ·rw[nO (by exact aA (aL 0x21af0a13f10321aa1 rfl h3 h2)) (by exact ltN (zX 0x101674a175a0a65a14312113f2a1 rfl hq hpq (aQ z1) (aR _ _) (aM (aA (aB 0x1f0a1011 rfl g1))))),nO (by exact aA (aL 0x21af0a13f10321aa1 rfl h3 h2)) (by exact ltN (lV 0x101563a164a0a54a13212f1a1 rfl hq (aQ z1) (aR _ _) (aM (aA (aB 0x1f0a1011 rfl g1)))))];exact s1 _ _ (by exact aA (aC 0x0f210aaa1 rfl)) (by exact aA (aL 0x310aaf210aaa1231 rfl hpq)) (by exact ltN (eU 0x320aa10a1125a15414f3a1 rfl hq (aQ z1) (aM (aA (aB 0x1f0a1011 rfl g1)))))
    ·rw[nO (by exact aA (bN 0x321aaf0a10421aa1431 rfl f1 h3)) (by exact ltN (lV 0x10165a0a465aa14312113f2a1 rfl hq hpq (aQ z2) (aR _ _))),nO (by exact aA (bN 0x321aaf0a10421aa1431 rfl f1 h3)) (by exact ltN (eU 0x10154a0a354aa13212f1a1 rfl hq (aQ z2) (aR _ _)))];exact s2 _ _ (by exact aA (aC 0x10af210aaa1 rfl)) (by exact aA (aL 0x310aaf210aaa1231 rfl hpq)) (by exact ltN (eU 0x310aa210aa12515414f3a1 rfl hq (aQ z2) f1))
    ·rw[nO (by exact aA (bN 0x321aaf0a10421aa1431 rfl f1 h3)) (by exact ltN (eU 0x10154a0a354aa13212f1a1 rfl hj (aQ z2) (aR _ _))),nO (by exact aA (aL 0x21af0a13f10321aa1 rfl h3 h2)) (by exact ltN λU=>(cF hz2 ((aK 0x08f0a1 rfl)) λnH=>(cF hz ((aK 0x08f0a1 rfl)) λω2=>(lV 0x2f1a1563a164a0a54a1321101 rfl U (aQ z1) (aR _ _) (aM (aA (aB 0x1f0a1011 rfl g1))) (aM (aA (aB 0xff0a10111f08a1 rfl ω2 (aW z1)))))))),z1,show sa+k+(na-k-1)=sa+k+(na-k)-1 by lia,f0];exact qax _ (by exact aA (aC 0x10af210aaa1 rfl)) (by exact ltN (bN 0x310aa210aa12414f3a1 rfl hj (aQ z2)))
    ·rw[nO (by exact aA (bN 0x321aaf0a10421aa1431 rfl f1 h3)) (by exact ltN λU=>(cF hz2 ((aK 0x08f0a1 rfl)) (aL 0x0f08a132a1a032aa10811 rfl U (aR _ _)))),nO (by exact aA (aL 0x21af0a13f10321aa1 rfl h3 h2)) (by exact ltN (lV 0x101563a164a0a54a13212f1a1 rfl hj (aQ z1) (aR _ _) (aM (aA (aB 0x1f0a1011 rfl g1))))),add_zero,e0];exact YJ _ (by exact aA (aC 0x10af210aaa1 rfl)) (by exact ltN (eU 0x320aa10a1125a15414f3a1 rfl hj (aQ z1) (aM (aA (aB 0x1f0a1011 rfl g1)))))
   have fin:∀m st',Fx (setPending st (((pendingOf st).setIfInBounds i (sa,na+nb,pw)).eraseIdxIfInBounds (i+1))) st'->MR ((arrOf st).extract (sa+k) (sa+na)) ((arrOf st).extract (sa+na) (sa+na+k2)) m->wpS (model prog w) A E s (wC (sa+k) m) Q st':=by
    rintro m st' ⟨x1,x2,x3,x4⟩ hm;have x2:arrOf st'=arrOf st:=x2;have x4:failedOf st'=none:=x4.trans hf;refine bI (qhd (sa:=sa+k) (sb:=sa+na) (nb:=k2) (by exact aA (aC 0x20af10aa1121 rfl g1)) (by exact aA (bN 0x321aaf0a10421aa1431 rfl f1 h3)) hm.1) λpp ms=>?_;refine qkA x4 ?_;rw[x2];have hK:∀j,K (putAll (sa+k) m.toList (arrOf st)) j=if sa+k<=j/\j<sa+k+m.size then K m (j-(sa+k)) else K (arrOf st) j:=λj=>qcx (by exact aA (zX 0x321aaf0a1571aa21a4a10671aa1651431 rfl (aQ ms) f1 h3 (aM (aA (aL 0x30af210aaa1131 rfl g1)))))
    have mb:∀j,j<m.size->nk e<=K m j/\K m j<=nk f:=λj hj=>by
     rcases hm.mem hj with ⟨p,hp,q⟩|⟨p,hp,q⟩
     ·rw[wM (by exact aA (aL 0x21af0a13f10321aa1 rfl h3 h2))]at hp;rw[<-q,nO (by exact aA (aL 0x21af0a13f10321aa1 rfl h3 h2)) (by exact ltN (aB 0x1010f1a1 rfl hp))];exact⟨le_of_lt (YJ _ (by exact aA (aC 0x10af210aaa1 rfl)) (by exact ltN (bN 0x320aa10a110a20a4a14f3a1 rfl hp (aM (aA (aC 0x20af10aa1121 rfl g1)))))),f0▸s1 _ _ (by exact aA (aC 0x0f210aaa1 rfl)) (by exact aA (lV 0x321aaf0a151a21a4a1f0a621aa126a514f3a1 rfl hp (aR _ _) (aR _ _) (aM (aA (aC 0x20af10aa1121 rfl g1))))) (by exact ltN (bN 0x210a1340aaf2a1143a1 rfl (aM (aA (aB 0x1f0a1011 rfl g1))) (aM (aA (aL 0xff210aaa112a313f1 rfl h1 (aR _ _))))))⟩
     ·rw[wM (by exact aA (bN 0x321aaf0a10421aa1431 rfl f1 h3))]at hp;rw[<-q,nO (by exact aA (bN 0x321aaf0a10421aa1431 rfl f1 h3)) (by exact ltN (aB 0x1010f1a1 rfl hp))];exact⟨e0▸s2 _ _ (by exact aA (aB 0x10af10aa1 rfl)) (by exact aA (aC 0x10af210aaa1 rfl)) (by exact ltN (eU 0x310aa210aa1510aa10a4a12514f3a1 rfl hp f1 (aM (aA (aC 0x10af210aaa1 rfl))))),le_of_lt (qax _ (by exact aA (aC 0x10af210aaa1 rfl)) (by exact ltN (bN 0x310aa210aa1210aa10a4a14f3a1 rfl hp (aM (aA (aC 0x10af210aaa1 rfl))))))⟩
    have nef:nk e<=nk f:=by
     have:=mb 0 (by exact ltN λU=>(cF hz2 ((aK 0x08f0a1 rfl)) (eU 0x0f08a135a2a045aa14311210811 rfl U (aW ms) g1 (aR _ _))));exact bV (mX 0x1f0a1021211 rfl this.1 this.2)
    refine h _ (pp.trans hp) x1 x4 x3 (λp q hp1 hpq hq=>?_) λj hj=>?_
    ·show K (putAll (sa+k) m.toList (arrOf st)) p<=K (putAll (sa+k) m.toList (arrOf st)) q;rw[hK,hK];by_cases cp:sa+k<=p/\p<sa+k+m.size
     ·have mp:=mb (p-(sa+k)) (by exact ltN (bN 0x101243a1a1043aaf2a1 rfl cp.2 (aM (aA (aC 0x21af0a1021a1 rfl cp.1)))));rw[if_pos cp];by_cases cq:sa+k<=q/\q<sa+k+m.size
      ·rw[if_pos cq];exact hm.at _ _ (by exact aA (eU 0x1f0a1254a1a154a0a31321 rfl hpq (aR _ _) (aM (aA (aC 0x21af0a1021a1 rfl cp.1))))) (by exact ltN (bN 0x101243a1a1043aaf2a1 rfl cq.2 (aM (aA (aC 0x21af0a1021a1 rfl cq.1)))))
      ·rw[if_neg cq];have:=JM q (by exact aA (lV 0x321aaf0a161a4a321aa10561aa1541 rfl (aW ms) (aA (nA cq (aA (aL 0x21af0a1321a1031 rfl hpq cp.1)))) (aR _ _))) hq;exact bV (mX 0x1f0a1211021 rfl this mp.2)
     ·rw[if_neg cp];by_cases cq:sa+k<=q/\q<sa+k+m.size
      ·rw[if_pos cq];have mq:=mb (q-(sa+k)) (by exact ltN (bN 0x101243a1a1043aaf2a1 rfl cq.2 (aM (aA (aC 0x21af0a1021a1 rfl cq.1)))));have:=LK p hp1 (by exact ltN λU=>(bN 0x432aaf1a10432aa1101 rfl hpq (aA (nA cp (aA (aC 0x21af0a1021a1 rfl U)))) cq.2));exact bV (mX 0x1f0a1021211 rfl this mq.1)
      ·rw[if_neg cq];rcases lt_or_ge q (sa+k) with c|c
       ·exact s1 p q hp1 hpq (by exact ltN (aL 0x210a113130af2a1 rfl c g1))
       ·have a2:=JM q (by exact aA (lV 0x321aaf0a161a4a321aa10561aa1541 rfl (aW ms) (aA (nA cq (aA (aC 0x21af0a1021a1 rfl c)))) (aR _ _))) hq;rcases lt_or_ge p (sa+k) with c2|c2
        ·have a1:=LK p hp1 c2;exact bV (KC 0x1f0a1321031211 rfl a1 a2 nef)
        ·exact s2 p q (by exact aA (lV 0x21af0a151a3a621aa10451aa1431 rfl (aW ms) (aA (nA cp (aA (aC 0x21af0a1021a1 rfl c2)))) (aR _ _))) hpq hq
    ·show K (putAll (sa+k) m.toList (arrOf st)) j=_;rw[hK,if_neg (by exact λU=>(Or.elim hj ((aC 0x1f0a1021a1 rfl U.1)) (zX 0x3210aa1610aa70a5a1470aaf3a1261541 rfl (aQ ms) f1 U.2 (aM (aA (aL 0x30af210aaa1131 rfl g1))))))]
   refine cB (λ_=>wpS_bind (qky T (show kindOf (setPending st (((pendingOf st).setIfInBounds i (sa,na+nb,pw)).eraseIdxIfInBounds (i+1)))=oneType' from hk) fin)) (λ_=>wpS_bind (qkx T (show kindOf (setPending st (((pendingOf st).setIfInBounds i (sa,na+nb,pw)).eraseIdxIfInBounds (i+1)))=oneType' from hk) fin))
end
end TS
end Internal
end
section
open PySem PySem.W PyProof.Rows
namespace Internal
namespace TS
variable [Kd]
noncomputable abbrev Rn:=Nat×Nat×Nat
noncomputable def Runs:List Rn->Nat->Nat->Prop
 | [],b,e=>b=e
 | r::l,b,e=>r.1=b/\1<=r.2.1/\Runs l (b+r.2.1) e
theorem Runs.app:∀{l l':List Rn} {b e:Nat},Runs (l++l') b e↔∃m,Runs l b m/\Runs l' m e
 | [],l',b,e=>⟨λh=>⟨b,rfl,h⟩,λ⟨m,h1,h2⟩=>by cases (h1:b=m);exact h2⟩
 | r::l,l',b,e=>by
  constructor
  ·rintro⟨h1,h2,h3⟩;refine aF (Runs.app.mp h3) λm a b=>?_;exact⟨m,⟨h1,h2,a⟩,b⟩
  ·rintro⟨m,⟨h1,h2,h3⟩,h4⟩;exact⟨h1,h2,Runs.app.mpr ⟨m,h3,h4⟩⟩
theorem Runs.len:∀{l:List Rn} {b e:Nat},Runs l b e->b+l.length<=e
 | [],b,e,h=>le_of_eq h
 | r::l,b,e,⟨_,h2,h3⟩=>by
  have:=Runs.len h3;rw[length_cons];exact aA (aL 0xf2a1af0a13f10231aa1 rfl this h2)
theorem Runs.mem:∀{l:List Rn} {b e:Nat},Runs l b e->∀r∈l,b<=r.1/\r.1+r.2.1<=e
 | r::l,b,e,⟨h1,h2,h3⟩,q,hq=>by
  rcases mem_cons.mp hq with rfl|hq
  ·have:=Runs.len h3;exact⟨(aA (aB 0x1f0a1011 rfl (aW h1))),(aA (bN 0x21af0a13110423aa1 rfl this (aQ h1)))⟩
  ·have:=Runs.mem h3 q hq;exact⟨(aA (aC 0x1f0a1021a12f1 rfl h2 this.1)),(aA (aC 0x21af0a1021a1 rfl this.2))⟩
structure PI (a₀:Array Keyed) (lo:Nat) (st:SortSt):Prop where
 perm:(arrOf st).Perm a₀
 kind:kindOf st=oneType'
 failed:failedOf st=none
 runs:Runs (pendingOf st).toList 0 lo
 segs:∀r∈(pendingOf st).toList,Seg (arrOf st) r.1 (r.1+r.2.1)
section
variable {prog:Program}{w:World}{A:Around}{E:Value->Shared->Prop}{s:Shared}[j9 prog w A s]{a₀:Array Keyed}{st:SortSt}{lo:Nat}
theorem PI.all (h:PI a₀ lo st)(h0:AllK a₀):lC (arrOf st):=SI.all (st0:=st) (lo:=0) ⟨h.perm,h.kind,h.failed,rfl,λ_ _=>rfl⟩ h0
theorem PI.size (h:PI a₀ lo st):(arrOf st).size=a₀.size:=h.perm.size_eq
theorem qcU {α:Type}{l:List α}{i:Nat}(h:i+1<l.length):∃x y r,l=l.take i++x::y::r/\l[i]?=some x/\l[i+1]?=some y :=
 ⟨l[i],l[i+1],l.drop (i+2),by
  rw[List.getElem_cons_drop,List.getElem_cons_drop,take_append_drop],getElem?_eq_getElem (ltN (aB 0x1010ff1aa1 rfl h)),getElem?_eq_getElem h⟩
theorem qcp (h0:AllK a₀)(hP:PI a₀ lo st)(hlo:lo<=a₀.size){i:Nat}(hi:i+1<(pendingOf st).size){Q:Bool->SortSt->Prop}(h:∀st',PI a₀ lo st'->(pendingOf st').size+1=(pendingOf st).size->(∀j,lo<=j->K (arrOf st') j=K (arrOf st) j)->Q true st'):wpS (model prog w) A E s (mergeAt' i) Q st:=by
 rw[qgh];have hl:i+1<(pendingOf st).toList.length:=hi;refine fY (qcU hl) λx y r hs h1 h2=>?_;have e1:(pendingOf st)[i]?=some x:=by rw[<-Array.getElem?_toList];exact h1
 have e2:(pendingOf st)[i+1]?=some y:=by rw[<-Array.getElem?_toList];exact h2
 refine wpS_bind (wpS_get ?_);rw[e1,e2];obtain⟨sa,na,pw⟩:=x;obtain⟨sb,nb,pw2⟩:=y;dsimp only;have hr:=hP.runs;rw[hs]at hr;obtain⟨m,r1,r2,r3,r4,r5,r6⟩:=Runs.app.mp hr;have r2:sa=m:=r2;have r4:sb=m+na:=r4;subst r2;subst r4;have hlen:=Runs.len r6;have s1:=hP.segs (sa,na,pw) (by rw[hs];simp);have s2:=hP.segs (sa+na,nb,pw2) (by rw[hs];simp);have hsz:=hP.size;have r3:1<=na:=r3;have r5:1<=nb:=r5;have hlen:sa+na+nb+r.length<=lo:=hlen;refine qkw hP.kind hP.failed hP.perm (hP.all h0) r3 r5 (aA (lV 0x321aaf0a165106154321aaa1 rfl hlen (aW hsz) hlo)) s1 s2 λst' p1 p2 p3 p4 p5 p6=>?_;have hi':((pendingOf st).toList.take i).length=i:=by rw[length_take];lia
 have hp:(pendingOf st').toList=(pendingOf st).toList.take i++(sa,na+nb,pw)::r:=by
  have z1:i<(pendingOf st).size:=ltN (aB 0x1010ff1aa1 rfl hi);have q:((pendingOf st).setIfInBounds i (sa,na+nb,pw)).toList=(pendingOf st).toList.take i++(sa,na+nb,pw)::(sa+na,nb,pw2)::r:=by
   rw[Array.toList_setIfInBounds]
   conv=>lhs;rw[hs]
   rw[set_append_right _ _ (by exact aA (aB 0x1f0a1011 rfl (aQ hi'))),hi',sub_self,List.set_cons_zero]
  rw[p4,Array.eraseIdxIfInBounds,dif_pos (by rw[Array.size_setIfInBounds];exact ltN (aB 0xf1a010ff1aa1 rfl hi)),Array.toList_eraseIdx,q,List.eraseIdx_append_of_length_le (by exact aA (aB 0x1ff0aa1011 rfl (aQ hi'))),hi',Nat.add_sub_cancel_left];rfl
 have hlp:(pendingOf st).toList.length=i+(2+r.length):=by
  conv=>lhs;rw[hs]
  rw[length_append,hi',length_cons,length_cons];exact bG (aA (aB 0xff1aa0af128a0aa1 rfl)) (aA (aB 0x128a0afff1aa0aa1 rfl))
 refine h st' ⟨p1,p2,p3,?_,λq hq=>?_⟩ ?_ λj hj=>p6 j (.inr (aA (eU 0x321aaf0a145321aaa1041 rfl hj hlen)))
 ·rw[hp];exact Runs.app.mpr ⟨sa,r1,rfl,(by show 1<=na+nb;exact aA (aB 0xff10aa10f11f1 rfl r5 r3)),(by rw[<-add_assoc];exact r6)⟩
 ·rw[hp]at hq;have same:(q.1+q.2.1<=sa\/sa+na+nb<=q.1)->q∈(pendingOf st).toList->Seg (arrOf st') q.1 (q.1+q.2.1):=λc hm i j h1 h2 h3=>by
   rw[p6 i (c.imp (λz=>lt_of_lt_of_le (lt_of_le_of_lt h2 h3) z) λz=>le_trans z h1),p6 j (c.imp (λz=>lt_of_lt_of_le h3 z) λz=>le_trans z (le_trans h1 h2))];exact hP.segs q hm i j h1 h2 h3
  rcases mem_append.mp hq with hq|hq
  ·have:=Runs.mem r1 q hq;exact same (.inl this.2) (List.mem_of_mem_take hq)
  ·rcases mem_cons.mp hq with rfl|hq
   ·show Seg (arrOf st') sa (sa+(na+nb));rw[<-add_assoc];exact p5
   ·have:=Runs.mem r6 q hq;exact same (.inr this.1) (by rw[hs];simp[hq])
 ·have z:(pendingOf st').toList.length=(pendingOf st').size:=length_toList;have z2:(pendingOf st).toList.length=(pendingOf st).size:=length_toList;rw[<-z,<-z2,hp,hlp,length_append,hi',length_cons];exact bG (aA (aB 0xff1a0aaf128a0aa1 rfl)) (aA (aB 0x128a0afff1a0aaa1 rfl))
theorem PI.push (h:PI a₀ lo st){n:Nat}(hn:1<=n)(hs:Seg (arrOf st) lo (lo+n)):PI a₀ (lo+n) (setPending st ((pendingOf st).push (lo,n,0))):=by
 have e:(pendingOf (setPending st ((pendingOf st).push (lo,n,0)))).toList=(pendingOf st).toList++[(lo,n,0)]:=toList_push;refine⟨h.perm,h.kind,h.failed,?_,λr hr=>?_⟩
 ·rw[e];exact Runs.app.mpr ⟨lo,h.runs,rfl,hn,rfl⟩
 ·rw[e]at hr;rcases mem_append.mp hr with hr|hr
  ·exact h.segs r hr
  ·rw[mem_singleton.mp hr];exact hs
theorem qbt:∀{l l':List Rn} {b e:Nat},l.map (λr=>(r.1,r.2.1))=l'.map (λr=>(r.1,r.2.1))->Runs l b e->Runs l' b e
 | [],[],b,e,_,h=>h
 | [],r::l,b,e,q,h=>by cases q
 | r::l,[],b,e,q,h=>by cases q
 | r::l,r'::l',b,e,q,⟨h1,h2,h3⟩=>by
  rw[map_cons,map_cons]at q;refine bI (List.cons.inj q) λq1 q2=>?_;refine bI (Prod.mk.inj q1) λq3 q4=>?_;exact⟨q3▸h1,q4▸h2,q4▸qbt q2 h3⟩
theorem PI.mod (h:PI a₀ lo st){p':Array Rn}(hp:(pendingOf st).toList.map (λr=>(r.1,r.2.1))=p'.toList.map (λr=>(r.1,r.2.1))):PI a₀ lo (setPending st p'):=by
 refine⟨h.perm,h.kind,h.failed,qbt hp h.runs,λr hr=>?_⟩;have:(r.1,r.2.1)∈p'.toList.map (λr:Rn=>(r.1,r.2.1)):=mem_map.mpr ⟨r,hr,rfl⟩;rw[<-hp]at this;refine aF (mem_map.mp this) λq hq e=>?_;refine bI (Prod.mk.inj e) λq3 q4=>?_;rw[<-q3,<-q4];exact h.segs q hq
theorem qgc (l:List Rn)(i pw:Nat):l.map (λr=>(r.1,r.2.1))=(l.modify i λr=>(r.1,r.2.1,pw)).map (λr=>(r.1,r.2.1)):=by
 induction l generalizing i with
 | nil=>cases i <;> rfl
 | cons r l ih =>
  cases i with
  | zero=>rfl
  | succ i=>rw[List.modify_succ_cons,map_cons,map_cons,<-ih]
theorem PI.seek (h:PI a₀ lo st):SI a₀ st lo st:=⟨h.perm,h.kind,h.failed,rfl,λ_ _=>rfl⟩
theorem PI.found (h:PI a₀ lo st){st':SortSt}(h':SI a₀ st lo st'):PI a₀ lo st':=by
 refine⟨h'.perm,h'.kind,h'.failed,by rw[h'.pend];exact h.runs,λr hr i j h1 h2 h3=>?_⟩;rw[h'.pend]at hr;have:=Runs.mem h.runs r hr;rw[h'.low i (ltN (bN 0x101043a121143af2a1 rfl h3 h2 this.2)),h'.low j (ltN (aL 0x101032a132af1a1 rfl h3 this.2))];exact h.segs r hr i j h1 h2 h3
noncomputable def settle (size lo n:Nat)(s1 n1:Nat):StateT SortSt Sem (Option Unit×PUnit) :=
 forIn [0:size] ((none,()):Option Unit×PUnit) λ_ _=>do
  let s <-get
  match (if (pendingOf s).size>1 then(pendingOf s)[(pendingOf s).size-2]? else none) with
  | some (_,_,older)=>if older<=power' size (2*s1+n1) (2*s1+n1+n1+n) size then pure (.done (none,())) else do
    let r <-mergeAt' ((pendingOf s).size-2)
    if (!r)=true then pure (.done (some (),())) else pure (.yield (none,()))
  | _=>pure (.done (none,()))
theorem qkB (h0:AllK a₀)(hlo:lo<=a₀.size)(hP:PI a₀ lo st)(h1:1<=(pendingOf st).size){size n s1 n1:Nat}{Q:Option Unit×PUnit->SortSt->Prop}(h:∀st',PI a₀ lo st'->1<=(pendingOf st').size->(∀j,lo<=j->K (arrOf st') j=K (arrOf st) j)->Q (none,()) st'):wpS (model prog w) A E s (settle size lo n s1 n1) Q st:=by
 unfold settle;refine wpS_forRange (I:=λx c st'=>c=(none,())/\PI a₀ lo st'/\1<=(pendingOf st').size/\∀j,lo<=j->K (arrOf st') j=K (arrOf st) j) (λx c st' _ _=>?_) (λc st'=>?_) ⟨rfl,hP,h1,λ_ _=>rfl⟩
 ·rintro⟨rfl,hP',h1',hK⟩;refine wpS_bind (wpS_get ?_);by_cases hc:(pendingOf st').size>1
  ·rw[if_pos hc];obtain⟨r,hr⟩:∃r,(pendingOf st')[(pendingOf st').size-2]?=some r:=⟨_,Array.getElem?_eq_getElem (ltN (aB 0x1010281a1 rfl (aM (aA (aK 0x28f0a10ffa1 rfl hc)))))⟩;rw[hr];obtain⟨x1,x2,older⟩:=r;dsimp only;refine cB (λ_=>wpS_pure (h _ hP' h1' hK)) (λ_=>?_);refine wpS_bind (qcp h0 hP' hlo (ltN (aB 0xf1a010281a1 rfl (aM (aA (aK 0x28f0a10ffa1 rfl hc))))) λst2 hP2 hsz hK2=>?_);exact wpS_pure ⟨rfl,hP2,aA (aB 0xff0a11ffa1f0a11 rfl (aW hsz) hc),λj hj=>(hK2 j hj).trans (hK j hj)⟩
  ·rw[if_neg hc];exact wpS_pure (h _ hP' h1' hK)
 ·rintro⟨rfl,hP',h1',hK⟩;exact h _ hP' h1' hK
noncomputable def afterRun (size lo n:Nat):StateT SortSt Sem (ForInStep (Option Unit×Nat)):=do
 let s <-get
 match (pendingOf s).back? with
 | some (s1,n1,_)=>do
  let c <-settle size lo n s1 n1
  match c.1 with
  | some r=>pure (.done (some r,lo))
  | none=>do
   modify λs=>setPending s ((pendingOf s).modify ((pendingOf s).size-1) λ(st,len,_)=>(st,len,power' size (2*s1+n1) (2*s1+n1+n1+n) size))
   modify λs=>setPending s ((pendingOf s).push (lo,n,0))
   pure (.yield (none,lo+n))
 | _=>do
  modify λs=>setPending s ((pendingOf s).push (lo,n,0))
  pure (.yield (none,lo+n))
noncomputable def oneRun (size minrun:Nat)(s:Option Unit×Nat):StateT SortSt Sem (ForInStep (Option Unit×Nat)) :=
 if s.2 >= size then pure (.done (none,s.2)) else do
  let x <-countRun' s.2 (size-s.2)
  match x with
  | some found=>if found<minrun then((liftM (rule "list.sort.binary-insertion"):StateT SortSt Sem Unit) >>= λ_=>binarySort' s.2 (min (size-s.2) minrun) found >>= λr=>if (!r)=true then pure (.done (some (),s.2)) else afterRun size s.2 (min (size-s.2) minrun)) else afterRun size s.2 found
  | _=>pure (.done (some (),s.2))
noncomputable def K8:StateT SortSt Sem (ForInStep (Option Unit×PUnit)):=do
 let s <-get
 if (pendingOf s).size<=1 then pure (.done (none,())) else do
  let before:=if (pendingOf s).size-2>0 then(pendingOf s)[(pendingOf s).size-2-1]?.map (·.2.1) else none
  let i:=if before.any (·<((pendingOf s)[(pendingOf s).size-2+1]?.elim 0 (·.2.1))) then(pendingOf s).size-2-1 else(pendingOf s).size-2
  let r <-mergeAt' i
  if (!r)=true then pure (.done (some (),())) else pure (.yield (none,()))
theorem qjO:sortRuns'=(do
  let s <-get;let c <-forIn [0:(arrOf s).size] ((none,0):Option Unit×Nat) λ_ c=>oneRun (arrOf s).size (minRun' (arrOf s).size (arrOf s).size 0) c
  match c.1 with
  | some r=>pure r
  | none=>do
   let c <-forIn [0:(arrOf s).size] ((none,()):Option Unit×PUnit) λ_ _=>K8
   match c.1 with
   | some r=>pure r
   | none=>pure ()):=by kernel_rfl
theorem qcd (h0:AllK a₀)(hP:PI a₀ lo st){n:Nat}(hn:1<=n)(hlo:lo+n<=a₀.size)(hs:Seg (arrOf st) lo (lo+n)){Q:ForInStep (Option Unit×Nat)->SortSt->Prop}{size:Nat}(h:∀st',PI a₀ (lo+n) st'->Q (.yield (none,lo+n)) st'):wpS (model prog w) A E s (afterRun size lo n) Q st:=by
 unfold afterRun;refine wpS_bind (wpS_get ?_);cases hb:(pendingOf st).back? with
 | none=>exact wpS_bind (wpS_modify (wpS_pure (h _ (hP.push hn hs))))
 | some q =>
  obtain⟨s1,n1,pw⟩:=q;dsimp only;have h1:1<=(pendingOf st).size:=by
   rcases Nat.eq_zero_or_pos (pendingOf st).size with z|z
   ·have:pendingOf st=#[]:=Array.eq_empty_of_size_eq_zero z;rw[this]at hb;cases hb
   ·exact z
  refine wpS_bind (qkB h0 (aA (aC 0x1f0a12f1021a1 rfl hlo hn)) hP h1 λst' hP' h1' hK=>?_);dsimp only;refine wpS_bind (wpS_modify (wpS_bind (wpS_modify (wpS_pure (h _ ?_)))));refine PI.push (PI.mod hP' ?_) hn λi j h1 h2 h3=>?_
  ·rw[Array.toList_modify];exact qgc _ _ _
  ·show K (arrOf st') i<=K (arrOf st') j;rw[hK i h1,hK j (aA (aC 0x1f0a1211021 rfl h2 h1))];exact hs i j h1 h2 h3
theorem qkz (h0:AllK a₀)(hP:PI a₀ lo st){x minrun:Nat}(hlo:lo<=a₀.size)(hx:x<=lo)(hm:1<=minrun){Q:ForInStep (Option Unit×Nat)->SortSt->Prop}(hd:lo=a₀.size->Q (.done (none,lo)) st)(hy:∀lo' st',PI a₀ lo' st'->lo<lo'->lo'<=a₀.size->Q (.yield (none,lo')) st'):wpS (model prog w) A E s (oneRun a₀.size minrun (none,lo)) Q st:=by
 unfold oneRun;dsimp only;refine cB (λhge=>wpS_pure (hd (bG (aA (aB 0x1f0a1011 rfl hlo)) (aA (aB 0x1f0a1011 rfl hge))))) (λhge=>?_);refine wpS_bind (qkn h0 (aA (aC 0x21af0a1012a1 rfl (aM (aA (aB 0x1f0a10f1a1 rfl (ltN hge)))))) (aA (aC 0xff0a110a212f1a1 rfl (ltN hge) (aR _ _))) hP.seek λm st' hS hm1 hm2 Z3=>?_);dsimp only;refine cB (λhlt=>?_) (λhlt=>?_)
 ·refine wpS_bind (uK (wpS_bind (qkm h0 (le_trans (Nat.add_le_add_left (Nat.min_le_left _ _) lo) (le_of_eq (Nat.add_sub_cancel' hlo))) (Nat.le_min.mpr ⟨hm2,Nat.le_of_lt hlt⟩) hS Z3 λst2 hS2 qfb=>?_)));rw[if_neg (by decide)];exact qcd h0 (hP.found hS2) (Nat.lt_min.mpr ⟨Nat.sub_pos_of_lt (Nat.not_le.mp hge),hm⟩) (le_trans (Nat.add_le_add_left (Nat.min_le_left _ _) lo) (le_of_eq (Nat.add_sub_cancel' hlo))) qfb λst3 JD=>hy _ _ JD (Nat.lt_add_of_pos_right (Nat.lt_min.mpr ⟨Nat.sub_pos_of_lt (Nat.not_le.mp hge),hm⟩)) (le_trans (Nat.add_le_add_left (Nat.min_le_left _ _) lo) (le_of_eq (Nat.add_sub_cancel' hlo)))
 ·exact qcd h0 (hP.found hS) hm1 (aA (aL 0x21af0a1013a1321 rfl hm2 (aM (aA (aB 0x1f0a10f1a1 rfl (ltN hge)))))) Z3 λst3 JD=>hy _ _ JD (ltN (aB 0x010a11f1 rfl hm1)) (aA (aL 0x21af0a1013a1321 rfl hm2 (aM (aA (aB 0x1f0a10f1a1 rfl (ltN hge))))))
theorem qku (h0:AllK a₀)(hP:PI a₀ a₀.size st){Q:ForInStep (Option Unit×PUnit)->SortSt->Prop}(hd:(pendingOf st).size<=1->Q (.done (none,())) st)(hy:∀st',PI a₀ a₀.size st'->(pendingOf st').size+1=(pendingOf st).size->Q (.yield (none,())) st'):wpS (model prog w) A E s K8 Q st:=by
 unfold K8;refine wpS_bind (wpS_get (cB (λh=>wpS_pure (hd h)) (λh=>?_)));dsimp only;have hi:∀(c:Prop) [Decidable c],(if c then(pendingOf st).size-2-1 else(pendingOf st).size-2)+1<(pendingOf st).size:=λc _=>by split <;> (first|exact ltN λU=>(aC 0x2f1a10282a1f1a01 rfl U (aM (aA (aK 0x28f0a10ffa1 rfl (ltN h)))) (aM (aA (aC 0xff0a10211ffa1f2a11 rfl U (ltN h) (eV _ _)))))|exact ltN (aB 0xf1a010281a1 rfl (aM (aA (aK 0x28f0a10ffa1 rfl (ltN h))))))
 refine wpS_bind (qcp h0 hP (le_refl _) (hi _) λst' hP' hsz _=>wpS_pure (hy st' hP' hsz))
theorem qaG:∀(f n r:Nat),1<=n->1<=minRun' (f+1) n r
 | 0=>λn r h=>by
  rw[minRun'_succ];split
  ·exact aA (aB 0xff10aa10f1 rfl h)
  ·show 1<=n/2+max r (n%2);exact le_trans (Nat.div_pos (le_trans (by decide:2<=64) (Nat.not_lt.mp ‹_›)) (by decide)) (Nat.le_add_right _ _)
 | f+1=>λn r h=>by
  rw[minRun'_succ];split
  ·exact aA (aB 0xff10aa10f1 rfl h)
  ·exact qaG f (n/2) _ (Nat.div_pos (le_trans (by decide:2<=64) (Nat.not_lt.mp ‹_›)) (by decide))
theorem qkC {Q:Unit->SortSt->Prop}(h0:AllK a₀)(hB:SBase a₀ st)(h2:2<=a₀.size)(h:∀st',(arrOf st').Perm a₀->failedOf st'=none->SortedTo (arrOf st') a₀.size->Q () st'):wpS (model prog w) A E s sortRuns' Q st:=by
 rw[qjO];refine wpS_bind (wpS_get ?_);rw[hB.size];have hmr:1<=minRun' a₀.size a₀.size 0:=by
  obtain⟨f,hf⟩:∃f,a₀.size=f+1:=⟨a₀.size-1,bG (aA (aB 0x1ff0aa1f0a11 rfl (aR _ _))) (aA (aB 0xf1af0a10f1a1 rfl (aM (aA (aK 0xff0a10281 rfl h2)))))⟩;have:=qaG f a₀.size 0 (aA (aK 0xff0a10281 rfl h2));rwa[<-hf]at this
 have hP0:PI a₀ 0 st:=⟨hB.perm,hB.kind,hB.failed,by rw[hB.pend];rfl,λr hr=>by rw[hB.pend]at hr;simp at hr⟩;refine wpS_bind (wpS_mono (wpS_forRange (I:=λx c st'=>∃lo,c=(none,lo)/\PI a₀ lo st'/\lo<=a₀.size/\x<=lo) (Q:=λc st'=>c=(none,a₀.size)/\PI a₀ a₀.size st') (λx c st' _ hx=>?_) (λc st'=>?_) ⟨0,rfl,hP0,aA (aK 0x08f0a10281 rfl h2),le_refl _⟩) λc st'=>?_)
 ·rintro⟨lo,rfl,hP,hlo,pX⟩;exact qkz h0 hP hlo pX hmr (λe=>by subst e;exact⟨rfl,hP⟩) λlo' st2 hP2 h1 h2=>⟨lo',rfl,hP2,h2,aA (aC 0xf1af0a12110f2a1 rfl h1 pX)⟩
 ·rintro⟨lo,rfl,hP,hlo,pX⟩;have:lo=a₀.size:=by lia
  subst this;exact⟨rfl,hP⟩
 ·rintro⟨rfl,hP⟩;have hl:=Runs.len hP.runs;dsimp only;refine wpS_bind (wpS_mono (wpS_forRange (I:=λx c st''=>c=(none,())/\PI a₀ a₀.size st''/\(pendingOf st'').size+x<=a₀.size) (Q:=λc st''=>c=(none,())/\PI a₀ a₀.size st''/\(pendingOf st'').size<=1) (λx c st'' _ hx=>?_) (λc st''=>?_) ⟨rfl,hP,by rw[length_toList]at hl;exact aA (aB 0x081af0a10108a1 rfl hl)⟩) λc st''=>?_)
  ·rintro⟨rfl,hP',hsz⟩;exact qku h0 hP' (λe=>⟨rfl,hP',e⟩) λst2 hP2 e=>⟨rfl,hP2,aA (aL 0xf2a1af0a1023a13f1a1 rfl (aQ e) hsz)⟩
  ·rintro⟨rfl,hP',hsz⟩;exact⟨rfl,hP',by lia⟩
  ·rintro⟨rfl,hP',hsz⟩;refine wpS_pure (h _ hP'.perm hP'.failed λi j hij hj=>?_);have hr:=hP'.runs;have hs:=hP'.segs;have hlen:(pendingOf st'').toList.length<=1:=by rw[length_toList];exact hsz
   generalize (pendingOf st'').toList=l at hr hs hlen;cases l
   case nil=>exact absurd (show 0=a₀.size from hr) (λU=>(aK 0x02810801 rfl (aW U) h2))
   case cons q l =>
    cases l
    case cons=>exact absurd (Nat.le_of_succ_le_succ hlen) (Nat.not_succ_le_zero _)
    have e1:q.1=0:=hr.1;have e3:0+q.2.1=a₀.size:=e1▸hr.2.2;exact hs _ mem_cons_self i j (e1▸zero_le _) hij (by show j<q.1+q.2.1;rw[e1,e3];assumption)
end
end TS
end Internal
end
section
open PySem PySem.W PyProof.Rows
namespace Internal
namespace TS
noncomputable def midHeap (h:Heap)(a:Addr)(vs:List Value):Heap:=((h.update a (Obj.mapSeq λ_=>#[])).push (seqObj "tuple" vs.toArray 0)).push (seqObj "list" #[] 0)
theorem mid_old {h:Heap}{a b:Addr}{o:Obj}{vs:List Value}(hb:b≠a)(e:h.get? b=some o):(midHeap h a vs).get? b=some o:=by
 have hl:b<h.objs.size:=Heap.lt_size e;unfold midHeap;rw[Heap.get?_push_ne _ _ _ (by rw[size_push',Heap.size_update];exact ne_of_lt (Nat.lt_succ_of_lt hl)),Heap.get?_push_ne _ _ _ (by rw[Heap.size_update];exact ne_of_lt hl),Heap.get?_update_ne _ _ _ _ hb];exact e
section
variable [Kd]{prog:Program}{w:World}{A:Around}{E:Value->Shared->Prop}{s:Shared}
theorem qgV {vs:List Value}{xs:Array Keyed}(hp:xs.Perm (pairsOf vs)):(xs.map (·.2)).toList.Perm vs:=by
 have h:=(Array.perm_iff_toList_perm.mp hp).map (·.2);rw[pairsOf_toList,List.map_snd_zip (le_refl _)]at h;rw[Array.toList_map];exact h
theorem qgW {vs:List Value}{xs:Array Keyed}(hp:xs.Perm (pairsOf vs))(hs:SortedTo xs (pairsOf vs).size):((xs.map (·.2)).toList.map Kd.num).Pairwise (·<=·):=by
 have e:(xs.map (·.2)).toList.map Kd.num=xs.toList.map λp=>Kd.num p.1:=by
  rw[Array.toList_map,map_map];refine map_congr_left λp hm=>?_;have:=(Array.perm_iff_toList_perm.mp hp).mem_iff.mp hm;rw[pairsOf_toList]at this;exact congrArg Kd.num (mem_zip_self this).1.symm
 rw[e,List.pairwise_iff_getElem];intro i j hi hj hij;rw[length_map]at hi hj;have h:=hs i j (Nat.le_of_lt hij) (by rw[<-hp.size_eq];exact hj);rw[cJ (x:=xs[i]) (Array.getElem?_eq_getElem hi),cJ (x:=xs[j]) (Array.getElem?_eq_getElem hj)]at h;rw[getElem_map,getElem_map];exact h
theorem sort_any {a:Addr}{vs:List Value}{n:Nat}{P:Fin->Shared->Prop}(ho:s.heap.get? a=some (seqObj "list" vs.toArray n)) (hok:∀v∈vs,Kd.ok v) (hlen:vs.length<=1000)
  (hk:2<=vs.length->j9 prog w A {s with heap:=midHeap s.heap a vs}/\∀Q:SortKind->Shared->Prop,Q oneType' {s with heap:=midHeap s.heap a vs}->wpAny (model prog w) A (keyKind' vs.toArray) Q E {s with heap:=midHeap s.heap a vs})
  (h:∀out:Array Value,out.toList.Perm vs->(out.toList.map Kd.num).Pairwise (·<=·)->P (.done (.ret .none)) {s with heap:=sortedHeap s.heap a vs out}) :
  wpAny (model prog w) A (Builtin.«list.sort» ⟨[.ref a],[]⟩) P E s:=by
 rw[list_sort_plain];have ha:a<s.heap.objs.size:=Heap.lt_size ho;have hl:sizeLine=16777216:=sizeLine_eq;refine wpAny_bind (listItems_at ho rfl (wpAny_bind (listUpdate_at ho rfl ?_)));obtain⟨e1,ho1⟩:∃e1,(s.heap.update a (Obj.mapSeq λ_=>#[])).get? a=some (seqObj "list" #[] e1):=⟨_,get?_update_seq ho (λ_=>#[])⟩;refine wpAny_bind (seqEpoch_at ho1 rfl (wpAny_bind (wpAny_newTuple (wpAny_bind (wpAny_newList (wpAny_holding ?_))))));have ho6:(midHeap s.heap a vs).get? a=some (seqObj "list" #[] e1):=by
  unfold midHeap;rw[Heap.get?_push_ne _ _ _ (by rw[size_push',Heap.size_update];exact ne_of_lt (Nat.lt_succ_of_lt ha)),Heap.get?_push_ne _ _ _ (by rw[Heap.size_update];exact ne_of_lt ha)];exact ho1
 show wpAny (model prog w) A _ P E {s with heap:=midHeap s.heap a vs};dsimp only;have fin:∀st':SortSt,(arrOf st').Perm (pairsOf vs)->SortedTo (arrOf st') (pairsOf vs).size->failedOf st'=none->wpAny (model prog w) A (do
   let touched:=(<-seqEpoch a) != e1
   Builtin.List.listUpdate (.ref a) λ_=>(arrOf st').map (·.2)
   if let some e:=failedOf st' then rule "list.sort.comparison-raised";throw e
   if touched then rule "list.sort.modified";raiseError "ValueError" "list modified during sort"
   ret .none) P E {s with heap:=midHeap s.heap a vs}:=λst' hp hs hf=>by
  refine wpAny_bind (seqEpoch_at ho6 rfl (wpAny_bind (listUpdate_at ho6 rfl ?_ (hsz2:=?_))))
  ·rw[hf];simp only[bne_self_eq_false,false_eq_true,if_false];exact wpAny_pure (h _ (qgV hp) (qgW hp hs))
  ·rw[Array.size_map,hp.size_eq,pairsOf_size,hl];omega
 have hz:vs.toArray.size=vs.length:=size_toArray;by_cases h2:vs.toArray.size<2
 ·rw[if_pos h2,if_pos h2];refine wpAny_bind (wpAny_pure ?_);rw[StateT.run_pure];refine wpAny_bind (wpAny_pure ?_);dsimp only;refine fin (SortSt.mk' general' (vs.toArray.zip vs.toArray) #[] 7 none) (Array.Perm.refl _) (λi j hij hj=>?_) rfl;rw[pairsOf_size]at hj;have:i=j:=bG (aA (aB 0x1f0a1011 rfl hij)) (aA (aL 0x1f0a132128f3a12f1a1 rfl hj h2 (aW hz)));subst this;exact Int.le_refl _
 ·rw[if_neg h2,if_neg h2];have h22:2<=vs.length:=aA (aB 0x28f0a11281011 rfl (aQ hz) (aA h2));refine bI (hk h22) λk1 k2=>?_;refine wpAny_bind (k2 _ (wpAny_bind (wpAny_mono (qkC (A:=A) (E:=E) (s:={s with heap:=midHeap s.heap a vs}) (a₀:=pairsOf vs) (st:=SortSt.mk' oneType' (pairsOf vs) #[] 7 none) (Q:=λ_ st'=>(arrOf st').Perm (pairsOf vs)/\failedOf st'=none/\SortedTo (arrOf st') (pairsOf vs).size)
   (λp hp=>?_) ⟨Array.Perm.refl _,rfl,rfl,rfl⟩ (by rw[pairsOf_size];exact h22) λst' a1 a2 a3=>⟨a1,a2,a3⟩) ?_ λ_ _ e=>e)))
  ·rw[pairsOf_toList]at hp;exact hok _ (mem_zip_self hp).2
  ·rintro⟨⟨⟩,st'⟩ s' ⟨rfl,hp,hf,hs⟩;exact fin st' hp hs hf
end
section
variable {prog:Program}{w:World}{A:Around}{E:Value->Shared->Prop}{s:Shared}
@[reducible] noncomputable def JX:Kd:=⟨numOf,λv=>∃n t,v=.int n t⟩
theorem qft {s:Shared}:@j9 JX prog w A s:=@j9.mk JX _ _ _ _ λ{x y} hx hy E Q q=>by
 obtain⟨n,t,rfl⟩:=hx;obtain⟨m,u,rfl⟩:=hy;exact oneLt_int q
theorem sort_small {a:Addr}{vs:List Value}{ns:List Int}{n:Nat}{P:Fin->Shared->Prop}(ho:s.heap.get? a=some (seqObj "list" vs.toArray n)) (hI:IntsAre vs ns) (hlen:vs.length<=1000)
  (h:∀(out:Array Value) (ns':List Int),IntsAre out.toList ns'->ns'.Perm ns->ns'.Pairwise (·<=·)->P (.done (.ret .none)) {s with heap:=sortedHeap s.heap a vs out}) :
  wpAny (model prog w) A (Builtin.«list.sort» ⟨[.ref a],[]⟩) P E s:=by
 refine@sort_any JX prog w A E s a vs n P ho hI.all hlen (λh2=>⟨qft,λQ q=>?_⟩) λout hp hs=>h out _ (intsAre_map out.toList λv hv=>hI.all v (hp.mem_iff.mp hv)) (hI.nums▸hp.map numOf) hs
 match vs,h2,hI with
 | v₁::v₂::rest,_,hI=>rw[keyKind_ints hI];exact wpAny_pure q
end
end TS
end Internal
end
section
open PySem PySem.W PyProof.Rows PySem.SeqAt
open AutoSeq1 (wpAny_loadPart')
open MeetsSeq MeetsSeq2 MeetsSeq3 SeqRoads2
namespace Internal
namespace TS
theorem ZK {vs:List Value}{ns:List Int}(h:IntsAre vs ns){i:Nat}(hi:i<ns.length):∃t,vs[i]?=some (.int ns[i] t):=by
 have hl:=h.length;refine fM (h.at i vs[i] (getElem?_eq_getElem (ltN (aC 0x1012f1a1021 rfl (aW hl) hi)))) λn t e1 e2=>?_;rw[getElem?_eq_getElem hi]at e2;exact⟨t,(getElem?_eq_getElem (ltN (aC 0x1012f1a1021 rfl (aW hl) hi))).trans (congrArg some (e1.trans (by rw[<-Option.some.inj e2])))⟩
theorem qgb (l b:Addr)(vs us:List Value)(ns ms:List Int)(n n2:Nat)(h1:IntsAre vs ns)(h2:IntsAre us ms)(k:Nat):∀i:Nat,ns.length-i=k->i<=ns.length->i<=ms.length->Meets (Builtin.«list.__eq__.loop» ⟨[.ref l,.ref b,rawInt i,rawInt 0],[]⟩)
  (λA R s=>s.heap.get? l=some {cls:=.type "list",data:=.seq vs.toArray n}/\s.heap.get? b=some {cls:=.type "list",data:=.seq us.toArray n2}/\R (.ok (.ret (.bool (dX (ns.drop i) (ms.drop i))))) s):=by
 have e1:=h1.length;have e2:=h2.length
 induction k with
 | zero =>
  intro i hk hi hj prog w A R s h;obtain⟨hp,g,d,tk,os⟩:=s;refine cQ (h) λhl hb h=>?_
  wp_walk using wpAny_loadPart' hl,wpAny_loadPart' hb
  have hi1:vs.toArray[((i:Nat):Int).toNat]?=none:=by simp;exact aA (aL 0x1f0a102a313110821 rfl (aQ hk) (aQ e1) (aR _ _))
  rw[hi1]
  wp_walk using wpAny_loadPart' hl,wpAny_loadPart' hb
  show R (.ok (.ret (.bool (decide (vs.toArray.size<us.toArray.size))))) _;have hd:ns.drop i=[]:=by simp;exact aA (aC 0x1f0a102a110821 rfl (aQ hk) (aR _ _))
  rw[hd]at h;have:decide (vs.toArray.size<us.toArray.size)=dX [] (ms.drop i):=by
   show _=!(ms.drop i).isEmpty;rw[Bool.eq_iff_iff,decide_eq_true_iff];simp;exact⟨(λU=>(ltN (bN 0x1012410314113f2a1 rfl U hi (aQ e2) (aW e1)))),(λU=>(ltN (eU 0x10124a5151103108413f2a1 rfl U (aQ hk) (aW e2) (aQ e1) (aR _ _))))⟩
  rw[this];exact h
 | succ k ih =>
  intro i hk hi hj prog w A R s h;obtain⟨hp,g,d,tk,os⟩:=s;refine cQ (h) λhl hb h=>?_
  wp_walk using wpAny_loadPart' hl,wpAny_loadPart' hb
  have hlt:i<ns.length:=ltN λU=>(aB 0x08111f0a1 rfl (aW hk) (sbD (aA (aB 0x1f0a1011 rfl U))));refine dH (ZK h1 hlt) λt hx=>?_;have hi1:vs.toArray[((i:Nat):Int).toNat]?=some (.int ns[i] t):=by simpa using hx
  have hd:ns.drop i=ns[i]::ns.drop (i+1):=List.drop_eq_getElem_cons hlt;rw[hd]at h;rw[hi1];rcases lt_or_ge i ms.length with hlt2|hge
  ·refine dH (ZK h2 hlt2) λu hy=>?_;have hi2:us.toArray[((i:Nat):Int).toNat]?=some (.int ms[i] u):=by simpa using hy
   have hd2:ms.drop i=ms[i]::ms.drop (i+1):=List.drop_eq_getElem_cons hlt2;rw[hd2]at h;have hc:((i:Int)+1)=((i+1:Nat):Int):=by push_cast;rfl
   rw[hi2];dsimp only;refine wpAny_bind (EqGives.int _ _ _ _ prog w _ _ _ _ ?_);by_cases q:ns[i]=ms[i]
   ·have hq:(ns[i]==ms[i])=true:=beq_iff_eq.mpr q;have h':dX (ns[i]::ns.drop (i+1)) (ms[i]::ms.drop (i+1))=dX (ns.drop (i+1)) (ms.drop (i+1)):=by
     show (bif ns[i]==ms[i] then _ else _)=_;rw[hq];rfl
    rw[h']at h;rw[hq]
    wp_walk
    rw[hc];exact⟨plainId_quiet plain_eq_loop _,codeAny_builtin entry_eq_loop (by
     rw[Around.under_plainId plain_eq_loop _];exact ih (i+1) (bG (aA (bN 0x1f0a13f4a1a142a31f0a21 rfl (aQ hk) (aR _ _) (aM (aA (aB 0xf1af0a10f1a1 rfl hlt))))) (aA (bN 0x1f0a1342a1f4a0a312f1a1 rfl (aW hk) (aR _ _) (aM (aA (aB 0x1f0a10f1a1 rfl hlt)))))) (aA (aB 0xf1af0a10f1a1 rfl hlt)) (aA (aB 0xf1af0a10f1a1 rfl hlt2)) prog w A R _ ⟨hl,hb,h⟩)⟩
   ·have hq:(ns[i]==ms[i])=false:=beq_eq_false_iff_ne.mpr q;have h':dX (ns[i]::ns.drop (i+1)) (ms[i]::ms.drop (i+1))=decide (ns[i]<ms[i]):=by
     show (bif ns[i]==ms[i] then _ else _)=_;rw[hq];rfl
    rw[h']at h;rw[hq]
    wp_walk using wpAny_loadPart' hl,wpAny_loadPart' hb
    rw[hi1,hi2];show wpAny _ _ (compareOp .Lt _ _ >>= _) _ _ _;exact wpAny_bind (P.lt_int (wpAny_pure h))
  ·have hi2:us.toArray[((i:Nat):Int).toNat]?=none:=by simp;exact aA (aC 0x1f0a1211021 rfl hge (aQ e2))
   have hd2:ms.drop i=[]:=List.drop_eq_nil_iff.mpr hge;rw[hd2]at h;rw[hi2]
   wp_walk using wpAny_loadPart' hl,wpAny_loadPart' hb
   show R (.ok (.ret (.bool (decide (vs.toArray.size<us.toArray.size))))) _;have:decide (vs.toArray.size<us.toArray.size)=false:=decide_eq_false (by simp;exact aA (bN 0x1f0a10412114f3a1321 rfl hge hlt (aQ e2) (aW e1)));rw[this];exact h
theorem qfV (l b:Addr)(vs us:List Value)(ns ms:List Int)(n n2:Nat)(h1:IntsAre vs ns)(h2:IntsAre us ms):Meets (Builtin.«list.__lt__» ⟨[.ref l,.ref b],[]⟩)
  (λA R s=>s.heap.get? l=some {cls:=.type "list",data:=.seq vs.toArray n}/\s.heap.get? b=some {cls:=.type "list",data:=.seq us.toArray n2}/\R (.ok (.ret (.bool (dX ns ms)))) s):=by
 intro prog w A R s h;obtain⟨hp,g,d,tk,os⟩:=s;refine cQ (h) λhl hb h=>?_;have f3:=AutoSeq1.sub_list_list
 wp_walk using wpAny_loadPart' hl,wpAny_loadPart' hb
 exact⟨plainId_quiet plain_eq_loop _,codeAny_builtin entry_eq_loop (by
  rw[Around.under_plainId plain_eq_loop _];exact qgb l b vs us ns ms n n2 h1 h2 _ 0 rfl (zero_le _) (zero_le _) prog w A R _ ⟨hl,hb,h⟩)⟩
section
variable {prog:Program}{w:World}{A:Around}{E:Value->Shared->Prop}{s:Shared}
theorem qgR {l b:Addr}{vs us:List Value}{ns ms:List Int}(hl:s.heap.PlainList l vs.toArray)(hb:s.heap.PlainList b us.toArray)(h1:IntsAre vs ns)(h2:IntsAre us ms)(hu:A.units<cLine){Q:Bool->Shared->Prop}(h:Q (dX ns ms) s):wpAny (model prog w) A (oneLt' true (.ref l) (.ref b)) Q E s:=by
 refine hide λH gH=>?_;obtain⟨n,hl⟩:=hl;obtain⟨m,hb⟩:=hb;refine gH ?_;rw[oneLt'_eq];simp only[if_true];refine wpAny_bind (wpAny_cRoomFor hu ?_);refine wpAny_bind (wpAny_callSpecialIfBound?_slot ⟨_,hl,rfl⟩ F.slot_list_lt (call_meets F.slot_list_lt ⟨_,hl,rfl⟩ F.entry_list_lt (F.args_list_lt_2 _ _) (qfV l b vs us ns ms n m h1 h2) ⟨hl,hb,?_⟩));exact wpAny_truthy_bool h
noncomputable def rowOf (h:Heap):Value->List Int
 | .ref a=>((h.get? a).bind λo=>match o.data with
  | .seq xs _=>some (xs.toList.map numOf)
  | _=>none).getD []
 | _=>[]
noncomputable def IsRow (h:Heap)(v:Value):Prop:=∃a vs ns,v=.ref a/\h.PlainList a (toArray vs)/\IntsAre vs ns
theorem rowOf_eq {h:Heap}{a:Addr}{vs:List Value}{ns:List Int}(hp:h.PlainList a vs.toArray)(hi:IntsAre vs ns):rowOf h (.ref a)=ns:=by
 obtain⟨n,e⟩:=hp;show ((h.get? a).bind _).getD []=ns;rw[e];exact hi.nums
@[reducible] noncomputable def rowKd (h:Heap) (R:List (List Int)):Kd:=⟨λv=>rank R (rowOf h v),λv=>IsRow h v/\rowOf h v∈R⟩
theorem row_lt_ok {h:Heap}{R:List (List Int)}(hk:∀b o,h.get? b=some o->s.heap.get? b=some o)(hu:A.units<cLine):@j9 (rowKd h R) prog w A s:=@j9.mk (rowKd h R) _ _ _ _ λ{x y} hx hy E Q q=>by
 refine hide λH gH=>?_;obtain⟨⟨a,vs,ns,rfl,hp,hi⟩,hm⟩:=hx;obtain⟨⟨b,us,ms,rfl,hp',hi'⟩,hm'⟩:=hy;have q:Q (decide (rank R (rowOf h (.ref a))<rank R (rowOf h (.ref b)))) s:=q;rw[qie hm,rowOf_eq hp hi,rowOf_eq hp' hi']at q;obtain⟨n,e⟩:=hp;obtain⟨n',e'⟩:=hp';refine gH ?_;exact qgR ⟨n,hk _ _ e⟩ ⟨n',hk _ _ e'⟩ hi hi' hu q
theorem qct {α:Type}{f:Value->Sem α}{c:α}:∀{vs:List Value},(∀v∈vs,∀Q:α->Shared->Prop,Q c s->wpAny (model prog w) A (f v) Q E s)->∀{Q:List α->Shared->Prop},Q (vs.map λ_=>c) s->wpAny (model prog w) A (vs.mapM f) Q E s
 | []=>λ_ Q q=>by rw[List.mapM_nil];exact wpAny_pure q
 | v::vs=>λh Q q=>by
  rw[List.mapM_cons];exact wpAny_bind (h v mem_cons_self _ (wpAny_bind (qct (λv hv=>h v (mem_cons_of_mem _ hv)) (wpAny_pure q))))
theorem qcs {α:Type}{f:Value->Sem α}{c:α}{vs:List Value}(h:∀v∈vs,∀Q:α->Shared->Prop,Q c s->wpAny (model prog w) A (f v) Q E s){Q:Array α->Shared->Prop}(q:Q (vs.map λ_=>c).toArray s):wpAny (model prog w) A (vs.toArray.mapM f) Q E s:=by
 rw[List.mapM_toArray,map_eq_pure_bind];exact wpAny_bind (qct h (wpAny_pure q))
theorem keyKind_rows {vs:List Value}(h2:2<=vs.length)(hv:∀v∈vs,s.TypeIs v "list") {Q:SortKind->Shared->Prop} (q:Q oneType' s):wpAny (model prog w) A (keyKind' vs.toArray) Q E s:=by
 rw[keyKind'_eq]
 match vs,h2 with
 | v₁::v₂::rest,_ =>
  refine wpAny_bind (qcs (c:=none) (λv m Q q=>?_) ?_)
  ·show wpAny _ _ (typeOf v >>= _) _ _ _;refine wpAny_bind (wpAny_typeOf (hv v m) ?_);exact wpAny_pure q
  ·rw[if_neg (by simp),if_neg (by simp)];rw[oneTypeOnly'_eq];refine wpAny_bind (wpAny_bind (qcs (c:=Value.type "list") (λv m Q q=>wpAny_typeOf (hv v m) q) ?_));have hall:((List.map (λ_=>Value.type "list") (v₁::v₂::rest)).toArray.all λx=>x==Value.type "list")=true:=by
    simp only[List.all_toArray,List.all_map,all_eq_true];intro _ _;rfl
   have h0:(List.map (λ_=>Value.type "list") (v₁::v₂::rest)).toArray[0]?=some (Value.type "list"):=by simp
   rw[h0];simp only[hall,if_true];exact wpAny_pure (wpAny_pure q)
end
end TS
end Internal
end
section
open PySem PySem.W PyProof.Rows PySem.SeqAt
namespace Internal
noncomputable def xP:B->Value
 | .abs=>.builtin "abs"
 | .len=>.builtin "len"
 | .range=>.type "range"
 | .sorted=>.builtin "sorted"
 | .sum=>.builtin "sum"
 | .min=>.builtin "min"
 | .divmod=>.builtin "divmod"
 | .list=>.type "list"
 | .tuple=>.type "tuple"
 | .bool=>.type "bool"
 | .iter=>.builtin "iter"
 | .set=>.type "set"
theorem JV (i:Int):∀l:List Int,(o6 i l).Perm (i::l)
 | []=>List.Perm.refl _
 | j::r=>by
  unfold o6;split
  ·exact List.Perm.refl _
  ·exact((JV i r).cons j).trans (List.Perm.swap i j r)
theorem ZJ (i:Int):∀l:List Int,l.Pairwise (·<=·)->(o6 i l).Pairwise (·<=·)
 | []=>λ_=>by simp[o6]
 | j::r=>λh=>by
  unfold o6;refine bI (pairwise_cons.mp h) λh1 h2=>?_;split
  ·rename_i hij;refine pairwise_cons.mpr ⟨λx hx=>?_,h⟩;rcases mem_cons.mp hx with rfl|hx
   ·exact hij
   ·exact Int.le_trans hij (h1 x hx)
  ·rename_i hij;refine pairwise_cons.mpr ⟨λx hx=>?_,ZJ i r h2⟩;rcases mem_cons.mp ((JV i r).mem_iff.mp hx) with rfl|hx
   ·exact bV (cN 0x1f0a10f1a1 rfl (ltI hij))
   ·exact h1 x hx
theorem sortI_perm:∀l:List Int,(sortI l).Perm l
 | []=>List.Perm.refl _
 | i::r=>(JV i _).trans ((sortI_perm r).cons i)
theorem sV:∀l:List Int,(sortI l).Pairwise (·<=·)
 | []=>Pairwise.nil
 | i::r=>ZJ i _ (sV r)
theorem qaE:∀(r:List Int) (i:Int),qJ i r∈i::r/\∀x∈i::r,qJ i r<=x
 | []=>λi=>by simp[qJ]
 | j::r=>λi=>by
  unfold qJ;refine bI (qaE r (if j<i then j else i)) λh1 h2=>?_;have h0:=h2 _ mem_cons_self;refine⟨?_,λx hx=>?_⟩
  ·rcases mem_cons.mp h1 with e|e
   ·rw[e];split <;> simp
   ·simp[e]
  ·rcases mem_cons.mp hx with rfl|hx
   ·refine Int.le_trans h0 ?_;split <;> omega
   ·rcases mem_cons.mp hx with rfl|hx
    ·refine Int.le_trans h0 ?_;split <;> omega
    ·exact h2 x (mem_cons_of_mem _ hx)
section
variable {c:bJ}{A:Around}{Z:List Addr}{lk:Nat->Nat}{s:Shared}{ads:aY}{σ σ':Store}{n:Nat}{C:SC}{W:Addr->Prop}{h:Heap}{fr:List Env}
theorem v6 {X:Txt}:∀{l:List D} {vs:List Value} {is:List Int},aX X ads W h l vs->iM l=some is->IntsAre vs is
 | [],_,_,e,q=>by cases e;cases q;exact .nil
 | d::ds,_,_,e,q=>cY e λv r hv h1 h2=>jM h1 q λi t ht q=>aJ q λis' h3 q=>by
  subst hv;subst ht;rw[<-Option.some.inj q];exact .cons _ _ (v6 h2 h3)
theorem qbf {X:Txt}:∀{vs:List Value} {is:List Int},IntsAre vs is->aX X ads W h (is.map .int) vs:=λh=>by
 induction h with
 | nil=>rfl
 | cons n t r ih=>exact⟨_,_,rfl,⟨t,rfl⟩,ih⟩
theorem H4 (is:List Int):iM (is.map .int)=some is:=by
 induction is with
 | nil=>rfl
 | cons i r ih=>rw[map_cons,iM,ih];rfl
theorem RZ:∀{l:List D} {is:List Int},iM l=some is->is.length=l.length
 | [],_,q=>Option.some.inj q▸rfl
 | d::ds,_,q=>aJ q λi _ q=>aJ q λis' h3 q=>Option.some.inj q▸congrArg Nat.succ (RZ h3)
theorem NT {X:Txt}{d:D}{vals:List Value}(r:aX X ads W h [d] vals):∃v,vals=[v]/\Rep X ads W h d v:=by
 refine cY (r) λv q qhL h1 h2=>?_;subst qhL;cases h2;exact⟨v,rfl,h1⟩
theorem qb2 {X:Txt}{d e:D}{vals:List Value}(r:aX X ads W h [d,e] vals):∃v u,vals=[v,u]/\Rep X ads W h d v/\Rep X ads W h e u:=by
 refine cY (r) λv q qhM h1 h2=>?_;subst qhM;refine aF (NT h2) λu qhN h3=>?_;subst qhN;exact⟨v,u,rfl,h1,h3⟩
theorem qgE {X:Txt}{vals:List Value}(r:aX X ads W h [] vals):vals=[]:=r
theorem H5 {d:D}{v:Value}{l:List D}(R:c.R Z lk h ads σ)(r:c.P Z ads σ h d v)(e:oW σ d=some l) :
  ∃a vs,v=.ref a/\(h.PlainList a (toArray vs)\/∃m,h.get? a=some {cls:=.type "tuple",data:=.seq (toArray vs) m})/\c.PL Z ads σ h l vs/\l.length<=lim:=by
 cases d
 case tup=>exact iT r λa vs m h1 h2 _ h4 h5=>⟨a,vs,h1,.inr ⟨m,h2⟩,Option.some.inj e▸h5,Option.some.inj e▸h4⟩
 case list=>exact c7 (jU (σ:=σ) R r e) λa vs h1 h2 h3 h4=>⟨a,vs,h1,.inl h2,h3,h4⟩
 case ref=>exact c7 (jU (σ:=σ) R r e) λa vs h1 h2 h3 h4=>⟨a,vs,h1,.inl h2,h3,h4⟩
 all_goals exact bO e
theorem oK {t:Sem Value}{d:D}(R:c.R Z lk s.heap ads σ)(h:∀(Q:Value->Shared->Prop) (E:Value->Shared->Prop),
  (∀v h' tk,(∀b o,s.heap.get? b=some o->h'.get? b=some o)->c.P Z ads σ h' d v->Q v {s with heap:=h',toks:=tk})->wpAny (model c.prog c.w) A t Q E s) :
  Yields c A t Z lk s ads σ d σ:=λQ E k=>h Q E λv h' tk hk r=>k _ _ ads (Ext.more hk) (R.grow hk) r
theorem qfQ {d:D}{v:Value}{l:List D}(R:c.R Z lk s.heap ads σ)(r:c.P Z ads σ s.heap d v)(e:oW σ d=some l) :
  Yields c A (call (.builtin "len") [v]) Z lk s ads σ (.int l.length) σ:=by
 refine oK R λQ E k=>?_;refine c7 (H5 R r e) λa vs O6 hp hr hl=>?_;subst O6;have hlen:=hr.length;have key:∀t,c.P Z ads σ s.heap (.int l.length) (.int ((toArray vs).size:Int) t):=λt=>⟨t,by simp[hlen]⟩;rcases hp with hp|⟨m,hp⟩
 ·exact len_list (PlainList.isList hp) (vQ hl hlen) (k _ s.heap _ (λ_ _ e=>e) (key _))
 ·exact P.len_tuple hp (by have:=vQ hl hlen;exact(cN 0x1010f1a1 rfl this)) (k _ s.heap _ (λ_ _ e=>e) (key _))
theorem qba {h:Heap}{a b:Int}{t u x:Tok}(R:c.R Z lk h ads σ)(h1:nC a b=true) :
  c.P Z ads σ (h.push {cls:=.type "range",data:=.fields #[.int a t,.int b u,.int 1 x]}) (.rng a b) (.ref h.objs.size) :=
 ⟨_,t,u,x,rfl,Heap.get?_push_size _ rfl,R.fresh_ww (bU _),h1⟩
theorem RX:∀{l:List D} {is:List Int},iM l=some is->l=is.map .int
 | [],_,e=>Option.some.inj e▸rfl
 | d::l,_,e=>aJ e λi h1 e=>aJ e λr h2 e=>by rw[<-Option.some.inj e,uX h1,RX h2];rfl
theorem qbg {X:Txt}{f:Value->D}:∀{vs:List Value},(∀v∈vs,Rep X ads W h (f v) v)->aX X ads W h (vs.map f) vs
 | []=>λ_=>rfl
 | v::vs=>λk=>⟨v,vs,rfl,k v mem_cons_self,qbg λu hu=>k u (mem_cons_of_mem _ hu)⟩
theorem qbs {X:Txt}:∀{l:List D} {vs:List Value} {rs:List (List Int)},aX X ads W h l vs->uY l=some rs->rs=vs.map (TS.rowOf h)/\∀v∈vs,TS.IsRow h v/\Rep X ads W h (aD (TS.rowOf h v)) v
 | [],_,_,e,q=>by cases e;cases q;exact⟨rfl,λv hv=>absurd hv not_mem_nil⟩
 | d::ds,_,_,e,q=>cY e λv r hv h1 h2=>aJ q λl1 q1 q=>aJ q λis q2 q=>aJ q λrs q3 q=>by
  subst hv;refine bI (qbs h2 q3) λk1 k2=>?_;rw[S5 q1]at h1;refine eE h1 λa us ha hp hw hl hr=>?_;have hI:=v6 hr q2;have e1:=TS.rowOf_eq hp hI;rw[<-ha]at e1;rw[<-Option.some.inj q,map_cons,e1,<-k1];refine⟨rfl,λu hu=>?_⟩;rcases mem_cons.mp hu with rfl|hu
  ·refine⟨⟨a,us,is,ha,hp,hI⟩,?_⟩;rw[e1];unfold aD;rw[<-RX q2];exact h1
  ·exact k2 u hu
theorem qjR {A:Around}{l l':List D}{vs:List Value}{L:Addr}{s1:Shared}{m:Nat}{P:Fin->Shared->Prop}{E:Value->Shared->Prop}(hu:A.units<cLine)(hr:c.PL Z ads σ s.heap l vs)(es:qP l=some l')(hlen:vs.length<=1000)(ho:s1.heap.get? L=some (seqObj "list" vs.toArray m)) (hL:s.heap.get? L=none) (hk:∀b o,s.heap.get? b=some o->s1.heap.get? b=some o)
  (k:∀out:Array Value,l'.length=l.length->c.PL Z ads σ s.heap l' out.toList->P (.done (.ret .none)) {s1 with heap:=sortedHeap s1.heap L vs out}):wpAny (model c.prog c.w) A (Builtin.«list.sort» ⟨[.ref L],[]⟩) P E s1:=by
 unfold qP at es;cases q:iM l with
 | some is =>
  rw[q]at es;rw[<-Option.some.inj es]at k;refine TS.sort_small ho (v6 hr q) hlen λout ns' h1 h2 h3=>?_;have hs:ns'=sortI is:=lks_uniq (h2.trans (sortI_perm is).symm) h3 (sV is);subst hs;exact k out (by rw[length_map,(sortI_perm is).length_eq,RZ q]) (qbf h1)
 | none =>
  rw[q]at es;refine aJ es λrs q2 es=>?_;rw[<-Option.some.inj es]at k;refine bI (qbs hr q2) λe1 e2=>?_;have hmid:∀b o,s.heap.get? b=some o->(TS.midHeap s1.heap L vs).get? b=some o:=λb o e=>TS.mid_old (λq=>by rw[q,hL]at e;cases e) (hk b o e);refine@TS.sort_any (TS.rowKd s.heap rs) c.prog c.w A E s1 L vs m P ho (λv hv=>⟨(e2 v hv).1,by rw[e1];exact mem_map_of_mem hv⟩) hlen (λh2=>⟨TS.row_lt_ok hmid hu,λQ q=>TS.keyKind_rows h2 (λv hv=>?_) q⟩) λout hp hs=>?_
  ·obtain⟨a,us,is,rfl,⟨n',e⟩,_⟩:=(e2 v hv).1;exact⟨_,hmid _ _ e,rfl⟩
  ·have hm:=λv (hv:v∈out.toList)=>hp.mem_iff.mp hv;have hpw:(out.toList.map (TS.rowOf s.heap)).Pairwise λa b=>gR a b=true:=by
    refine pairwise_map.mpr ((pairwise_map.mp hs).imp_of_mem λ{x y} hx hy le=>tX.mpr λlt=>?_);have:=qbc (R:=rs) (by rw[e1];exact mem_map_of_mem (hm y hy)) lt;exact absurd le (not_le.mpr this)
   have hsl:pF rs=out.toList.map (TS.rowOf s.heap):=qbG (by rw[e1];exact(hp.symm.map _)) hpw;rw[hsl,map_map]at k;refine k out ?_ (qbg λv hv=>(e2 v (hm v hv)).2);rw[length_map,hp.length_eq,hr.length]
theorem qjV {d:D}{v:Value}{l l':List D}(hA:dI A n fr)(R:c.R Z lk s.heap ads σ)(r:c.P Z ads σ s.heap d v)(e:oW σ d=some l)(h64:l.length<1000)(es:qP l=some l') :
  Yields c A (call (.builtin "sorted") [v]) Z lk s ads σ (.list l') σ:=by
 refine oK R λQ E k=>?_;refine c7 (H5 R r e) λa vs O7 hp hr hl=>?_;subst O7;have hlen:=hr.length;have run:∀h':Heap,(∀b o,s.heap.get? b=some o->h'.get? b=some o)->wpAny (model c.prog c.w) A.in1 (newList vs >>= λl=>holding [l] (call (.builtin "list.sort") [l] []) >>= λ_=>ret l) (λf s'=>∃v,f=.done (.ret v)/\Q v s') E {s with heap:=h'}:=λh' hk=>by
  refine wpAny_bind (wpAny_newList ?_ (by unfold sizeLine;simp;omega));have hoL:(h'.push {cls:=.type "list",data:=.seq vs.toArray}).get? h'.objs.size=some (seqObj "list" vs.toArray 0):=Heap.get?_push_size _ rfl;have hnone:s.heap.get? h'.objs.size=none:=by
   cases q:s.heap.get? h'.objs.size with
   | none=>rfl
   | some o=>exact absurd (Heap.lt_size (hk _ _ q)) (lt_irrefl _)
  refine wpAny_bind (wpAny_holding (wpAny_call_entry slot_list_sort ⟨_,hoL,rfl⟩ entry_list_sort (qjR (by have:=hA.units_lt (m:=5) (by decide);show _<_;simp only[Around.in1_units];exact ltN (aB 0xff1aa010f581aa1 rfl this)) hr es (aA (aB 0x0f3e89a13e89f1a1101 rfl (aQ hlen) h64)) hoL hnone (λb o e=>Heap.get?_push_of_some _ (hk b o e)) λout h0 h1=>⟨_,rfl,?_⟩) (args_list_sort _)));refine dH (sortedHeap_at (out:=out) hoL) λe' he=>?_;have hall:∀b o,s.heap.get? b=some o->(sortedHeap (h'.push {cls:=.type "list",data:=.seq vs.toArray}) h'.objs.size vs out).get? b=some o:=λb o q=>by
   have hlt:=Heap.lt_size (hk b o q);rw[sortedHeap_old (ne_of_lt hlt) (by rw[Heap.size_push];exact Nat.lt_succ_of_lt hlt)];exact Heap.get?_push_of_some _ (hk b o q)
  exact wpAny_pure ⟨_,rfl,k _ _ s.toks hall ⟨_,out.toList,rfl,⟨e',by simpa using he⟩,R.fresh_ww hnone,by rw[h0];exact hl,aX.mono (Sub.refl _) (λa o _ _ e=>hall a o e) (λ_ _ _ x=>x) _ _ h1⟩⟩
 refine Calls.call_function_entry kind_sorted plain_sorted entry_sorted (args_sorted1 _) ?_;unfold Builtin.«sorted»;refine wpAny_bind (m:=checkCount "sorted" 1 1 _) (wpAny_pure ?_);rcases hp with hp|⟨m,hp⟩
 ·exact hp.elim λm hp=>wpAny_bind (wpAny_collect_seq a (.inl rfl) hp rfl rfl (λh' hk=>run h' hk) (jQ hl hr.length))
 ·exact wpAny_bind (wpAny_collect_seq a (.inr rfl) hp rfl rfl (λh' hk=>run h' hk) (jQ hl hr.length))
theorem qj2 {d:D}{v:Value}{l:List D}{is:List Int}(hA:dI A n fr)(R:c.R Z lk s.heap ads σ)(r:c.P Z ads σ s.heap d v)(e:asList σ d=some l)(ei:iM l=some is) :
  Yields c A (call (.builtin "sum") [v]) Z lk s ads σ (.int is.sum) σ:=by
 refine oK R λQ E k=>?_;refine c7 (jU R r e) λa vs qhP hp hr hl=>?_;subst qhP;have hI:=v6 hr ei;refine dH (hI.allInts.items) λxs hx=>?_;have hns:is=xs.toList.map (·.1):=by rw[<-hI.numsOf,<-nums_intItems,<-hx]
 have hp':=PlainList.isList hp;rw[hx]at hp';refine sum_intListG hA.handled hp' λh' tk t' hk=>k _ h' tk hk ⟨t',?_⟩;rw[preSum_eq,List.take_of_length_le (by simp),hns]
theorem qgq {d:D}{v:Value}{l:List D}{i:Int}{is:List Int}(hA:dI A n fr)(R:c.R Z lk s.heap ads σ)(r:c.P Z ads σ s.heap d v)(e:asList σ d=some l)(ei:iM l=some (i::is)) :
  Yields c A (call (.builtin "min") [v]) Z lk s ads σ (.int (qJ i is)) σ:=by
 refine oK R λQ E k=>?_;refine c7 (jU R r e) λa vs qhQ hp hr hl=>?_;subst qhQ;have hI:=v6 hr ei;refine dH (hI.allInts.items) λxs hx=>?_;have hns:i::is=xs.toList.map (·.1):=by rw[<-hI.numsOf,<-nums_intItems,<-hx]
 have hp':=PlainList.isList hp;rw[hx]at hp';have hsz:0<xs.size:=by
  have:(i::is).length=xs.size:=by rw[hns];simp
  rw[<-this];simp
 refine min_intList hA.handled hp' hsz λv h' tk hv hk=>?_;obtain⟨t,rfl⟩:=intItems_at hv;refine bI (argBest_lt (numAt xs) (xs.size-1)) λh1 h2=>?_;refine k _ h' tk hk ⟨t,?_⟩
 congr 1
 refine bI (qaE is i) λm1 m2=>?_;apply le_antisymm
 ·rw[hns]at m1;refine aF (mem_getD m1) λj hj e=>?_;rw[length_map,length_toList]at hj;rw[<-e,<-numAt_eq];exact h2 j (aA (aC 0x1f0a1f0a212f1a1 rfl hj (aR _ _)))
 ·refine m2 _ ?_;rw[hns,numAt_eq];exact PySem.getD_mem (by rw[length_map,length_toList];exact ltN (aC 0x1010f2a1211 rfl h1 (aM (aA (aK 0xff0a10f08a1 rfl hsz)))))
theorem QR {l:List D}{vs:List Value}{h':Heap}{e:Nat}(R:c.R Z lk h ads σ)(hr:c.PL Z ads σ h l vs)(hl:l.length<=lim)(hk:∀b o,h.get? b=some o->h'.get? b=some o)(hn:h'.get? h.objs.size=some {cls:=.type "list",data:=.seq (toArray vs) e}) :
  c.R Z lk h' (ads++[(h.objs.size,h.objs.size)]) (σ++[.list l]):=by
 refine R.add hk (bU _) (bU _) ⟨_,hn⟩ ⟨_,hn⟩ ⟨vs,⟨e,hn⟩,?_,hl,rfl⟩;exact aX.mono (Sub.append _ _) (λa o _ _ e=>hk a o e) (λa o e x=>x.imp id λx=>((R.owned_add (o:=.list l) (p:=(h.objs.size,h.objs.size)) (bU _) (bU _)) a x).elim id λz=>by rw[e]at z;cases z) _ _ hr
theorem pP {h':Heap}{tk:Nat}{p:Addr×Addr}{o:O}(R:c.R Z lk s.heap ads σ)(h1:s.heap.get? p.1=none)(h2:s.heap.get? p.2=none)(hk:∀b o,s.heap.get? b=some o->h'.get? b=some o) :
  Ext Z ads σ s (ads++[p]) (σ++[o]) {s with heap:=h',toks:=tk}:=⟨⟨_,rfl⟩,λb o _ e=>SO.of (hk b o e),R.owned_add h1 h2,λb ⟨o,e⟩=>⟨o,hk b o e⟩,⟨_,_,rfl⟩⟩
theorem pC {h:Heap}{p:Addr×Addr}{W:Addr->Prop}{X:Txt}(hl:ads.length=σ.length):Rep X (ads++[p]) W h (.ref σ.length) (.ref p.1):=⟨p,by rw[<-hl];simp,rfl⟩
theorem qgg (l:Addr)(items:Array Value)(hfit:(items.size:Int)<2^63) :
  Meets (Builtin.«bool.__new__» ⟨[.type "bool",.ref l],[]⟩) (λ_ R s=>s.heap.IsList l items/\R (.ok (.ret (.bool (!items.isEmpty)))) {s with toks:=s.toks+1+1}) :=
 Meets.of_wp λprog w A R s hs=>by
  obtain⟨hp,g,d,tk,os⟩:=s;refine bI (hs) λhl hs=>?_;have f1:=F.conv_sub_bool
  repeat (any_goals (first|assumption|(with_reducible refine wpAny_truthy_list hl hfit ?_)|wp_step))
  all_goals first|exact⟨_,rfl,hs⟩|exact hs|skip
theorem qc9 {prog:Program}{w:World}{E:Value->Shared->Prop}{l:Addr}{items:Array Value}{Q:Value->Shared->Prop}(hl:s.heap.IsList l items)(hfit:(items.size:Int)<2^63)(h:Q (.bool (!items.isEmpty)) {s with toks:=s.toks+1+1}) :
  wpAny (model prog w) A (call (.type "bool") [.ref l]) Q E s :=
 call_bool_1 (qgg l items hfit) (show _/\wants (λobj s₁=>s₁.TypeIs obj "bool"/\Q obj s₁) E _ _ from⟨hl,rfl,h⟩)
theorem P0 (a b:Int):Builtin.Range.rangeSize a b 1=((b-a).toNat:Int):=by
 unfold Builtin.Range.rangeSize;rw[if_pos (by decide),Int.ediv_one];split <;> (first|rw[Int.sub_add_cancel,toNat_of_nonneg (Int.sub_nonneg_of_le (le_of_lt ‹_›))]|rw[Int.toNat_of_nonpos (Int.sub_nonpos_of_le (not_lt.mp ‹_›))];rfl)
theorem qbb {a b:Int}(h1:nC a b=true):Builtin.Range.small a b 1=true:=by
 simp only[nC,and_eq_true,decide_eq_true_eq]at h1;simp only[Builtin.Range.small,P0,Builtin.Range.rangeFitsLong,and_eq_true,decide_eq_true_eq];refine⟨⟨⟨?_,?_⟩,?_⟩,?_⟩ <;> try omega
 rw[if_pos (by decide),or_eq_true];right;simp only[and_eq_true,decide_eq_true_eq]
 omega
theorem H3 {X:Txt}{α:Type}{args:List D}{vals:List Value}{f:Option α}{x:α}{H:Prop}(r:aX X ads W h args vals)(e:arg0 args f=some x)(k:vals=[]->f=some x->H):H:=by
 cases args
 case nil=>exact k r e
 case cons=>exact bO e
theorem RT {X:Txt}{α:Type}{args:List D}{vals:List Value}{f:D->Option α}{x:α}{H:Prop}(r:aX X ads W h args vals)(e:arg1 args f=some x)(k:∀d v,vals=[v]->Rep X ads W h d v->f d=some x->H):H:=by
 cases args with
 | nil=>exact bO e
 | cons d r' =>
  cases r' with
  | nil=>exact aF (NT r) λv hv rv=>k d v hv rv e
  | cons=>exact bO e
theorem qcO {X:Txt}{α:Type}{args:List D}{vals:List Value}{f:D->D->Option α}{x:α}{H:Prop}(r:aX X ads W h args vals)(e:arg2 args f=some x)(k:∀d d' v v',vals=[v,v']->Rep X ads W h d v->Rep X ads W h d' v'->f d d'=some x->H):H:=by
 cases args with
 | nil=>exact bO e
 | cons d r' =>
  cases r' with
  | nil=>exact bO e
  | cons d' r'' =>
   cases r'' with
   | nil=>exact cY (qb2 r) λv v' hv rv rv'=>k d d' v v' hv rv rv' e
   | cons=>exact bO e
section
variable {args:List D}{vals:List Value}{d:D}
theorem pK {fv:Value}{f:D->Option (D×Store)}(r:c.PL Z ads σ s.heap args vals)(e:arg1 args f=some (d,σ'))(k:∀x v,c.P Z ads σ s.heap x v->f x=some (d,σ')->Yields c A (call fv [v]) Z lk s ads σ d σ') :
  Yields c A (call fv vals) Z lk s ads σ d σ':=RT r e λx v hv rv e=>by subst hv;exact k x v rv e
theorem U3 {fv:Value}{f:List D->Option (D×Store)}(R:c.R Z lk s.heap ads σ)(r:c.PL Z ads σ s.heap args vals)(e:(arg1 args λx=>(asList σ x).bind f)=some (d,σ'))(k:∀l a vs,s.heap.PlainList a (toArray vs)->c.PL Z ads σ s.heap l vs->l.length<=lim->f l=some (d,σ')->Yields c A (call fv [.ref a]) Z lk s ads σ d σ'):Yields c A (call fv vals) Z lk s ads σ d σ' :=
 pK r e λx v rv e=>aJ e λl hl e=>c7 (jU R rv hl) λa vs hv hp hr hlim=>by subst hv;exact k l a vs hp hr hlim e
theorem qip {X:Txt}{a b:Int}{H:Prop}(r:aX X ads W h args vals)(e:PQ args=some (a,b))(k1:∀t,vals=[.int b t]->a=0->H)(k2:∀t u,vals=[.int a t,.int b u]->H):H:=by
 cases args with
 | nil=>exact bO e
 | cons x q =>
  refine cY r λv vs hv rv hr=>jM rv e λi t ht e=>?_;subst hv;subst ht;cases q with
  | nil=>exact eG e λe1 e2=>k1 t (by rw[e2,show vs=[] from hr]) e1.symm
  | cons y q =>
   refine cY hr λv' vs' hv rv' hr2=>jM rv' e λj u hu e=>?_;subst hv;subst hu;cases q with
   | nil=>exact eG e λe1 e2=>k2 t u (by rw[e1,e2,show vs'=[] from hr2])
   | cons=>exact bO e
theorem qid (R:c.R Z lk s.heap ads σ)(r:c.PL Z ads σ s.heap args vals)(e:((PQ args).bind λp=>if nC p.1 p.2=true then some (.rng p.1 p.2,σ) else .none)=some (d,σ')):Yields c A (call (.type "range") vals) Z lk s ads σ d σ' :=
 aZ e λa b ha e=>d8 e λhb e=>Yields.cast e (oK R λQ E k=>qip r ha
  (λt hv h0=>by subst hv;subst h0;exact call_range_1 (k _ _ _ (λ_ _ e=>Heap.get?_push_of_some _ e) (qba R hb)))
  (λt u hv=>by subst hv;exact call_range_2 (k _ _ _ (λ_ _ e=>Heap.get?_push_of_some _ e) (qba R hb))))
theorem qfX {a b:Int}{v:Value}(hA:dI A n fr)(R:c.R Z lk s.heap ads σ)(r:c.P Z ads σ s.heap (.rng a b) v):Yields c A (call (.type "list") [v]) Z lk s ads σ (.ref σ.length) (σ++[.list (gU a b)]):=by
 obtain⟨r0,t,u,x,rfl,hg,_,h1⟩:=r;intro Q E k;have h2:=h1;simp only[nC,and_eq_true,decide_eq_true_eq]at h2;refine call_list_range hA.handled hg (qbb h1) (P0 a b) (le_trans (Int.toNat_le.mpr (Int.le_trans (Int.sub_le_self _ h2.1.1.1) h2.2)) (by decide)) λh' tk acc' c' hk hn hit=>?_;have hlen:(gU a b).length=(b-a).toNat:=by simp[gU]
 have hr:∀ads W,aX c.X ads W h' (gU a b) acc'.toList:=λads W=>by
  refine aX.of_get (by rw[length_toList,hit.1,hlen]) λi d v hd hv=>?_;have hi:i<(b-a).toNat:=by have:=(List.getElem?_eq_some_iff.mp hv).1;rw[length_toList,hit.1]at this;exact this
  rw[gU,getElem?_map,List.getElem?_range hi]at hd;obtain⟨t,rfl⟩:=hit.2 i v (by simpa using hv);rw[<-Option.some.inj hd];exact⟨t,by simp⟩
 have hn':h'.get? s.heap.objs.size=some {cls:=.type "list",data:=.seq (toArray acc'.toList) c'}:=by simpa using hn
 exact k _ _ _ (pP R (bU _) (bU _) hk) (R.add hk (bU _) (bU _) ⟨_,hn'⟩ ⟨_,hn'⟩ ⟨_,⟨c',hn'⟩,hr _ _,by rw[hlen];exact Int.toNat_le.mpr (Int.le_trans (Int.sub_le_self _ h2.1.1.1) h2.2),rfl⟩) (pC (p:=(s.heap.objs.size,s.heap.objs.size)) R.len)
theorem KD {x:D}{v:Value}{l:List D}(R:c.R Z lk s.heap ads σ)(r:c.P Z ads σ s.heap x v)(e:oW σ x=some l):Yields c A (call (.type "list") [v]) Z lk s ads σ (.ref σ.length) (σ++[.list l]) :=
 c7 (H5 R r e) λa vs ha hp hr hlim Q E k=>by
  subst ha;rcases hp with ⟨m,hp⟩|⟨m,hp⟩
  ·exact call_list_seq a (.inl rfl) hp rfl rfl (λh' c' hk hn=>k _ _ _ (pP R (bU _) (bU _) hk) (QR R hr hlim hk hn) (pC (p:=(s.heap.objs.size,s.heap.objs.size)) R.len)) (jQ hlim hr.length)
  ·exact call_list_seq a (.inr rfl) hp rfl rfl (λh' c' hk hn=>k _ _ _ (pP R (bU _) (bU _) hk) (QR R hr hlim hk hn) (pC (p:=(s.heap.objs.size,s.heap.objs.size)) R.len)) (jQ hlim hr.length)
theorem qfY {x:D}{v:Value}{l:List D}(hA:dI A n fr)(R:c.R Z lk s.heap ads σ)(r:c.P Z ads σ s.heap x v)(e:S8 σ x=some l):Yields c A (call (.type "list") [v]) Z lk s ads σ (.ref σ.length) (σ++[.list l]):=by
 cases x
 case rng=>exact Option.some.inj e▸qfX hA R r
 case tup=>exact KD (σ:=σ) R r e
 case list=>exact KD (σ:=σ) R r e
 case ref=>exact KD (σ:=σ) R r e
 all_goals exact bO e
theorem qfx {x:D}{v:Value}(R:c.R Z lk s.heap ads σ)(r:c.P Z ads σ s.heap x v)(e:((jE x).bind λk=>((σ[k]?).bind qM).bind λ_=>some (D.ref σ.length,σ++[.iter k 0]))=some (d,σ')):Yields c A (call (.builtin "iter") [v]) Z lk s ads σ d σ' :=
 aJ e λj hj e=>aJ e λl hl e=>aJ hl λo ho hl=>Yields.cast e λQ E k=>by
  rw[kI hj]at r;rw[uE hl]at ho;refine aF r λp hp hv=>cL (R.objs _ _ _ hp ho) λvs hpl hr hlim hpp=>?_;subst hv;refine Calls.call_function_entry (by decide +kernel) (by decide +kernel) kdk_entry_iter (kdk_args_iter _) ?_;unfold Builtin.«iter»;refine wpAny_bind (m:=someArgs "iter" 1 2 _) (wpAny_of_eq (a:=[Value.ref p.1]) (by first|rfl|kernel_rfl!) ?_);show wpAny _ _ (pyIter (.ref p.1) >>= _) _ _ _;refine wpAny_bind (wpAny_pyIter_list (PlainList.isList hpl) ?_);refine wpAny_pure ⟨_,rfl,?_⟩;have hk:∀b o,s.heap.get? b=some o->(s.heap.push {cls:=.type "list_iterator",data:=.fields #[.ref p.1,.int 0 0]}).get? b=some o:=λb o e=>Heap.get?_push_of_some _ e;refine k _ _ (ads++[(s.heap.objs.size,s.heap.objs.size)]) (pP (tk:=s.toks) R (bU _) (bU _) hk) ?_ (pC (p:=(s.heap.objs.size,s.heap.objs.size)) R.len);exact R.add hk (bU _) (bU _) (o4 _) (o4 _) ⟨p,Sub.append _ _ _ _ hp,⟨_,Heap.get?_push_size _ rfl,rfl,rfl⟩,rfl,λ_=>⟨_,Heap.get?_push_size _ rfl,rfl⟩⟩
theorem qiB (R:c.R Z lk s.heap ads σ):Yields c A (call (.type "set") []) Z lk s ads σ (.ref σ.length) (σ++[.set []]):=by
 intro Q E k;refine call_set_0 λled=>?_;have hk:∀b o,s.heap.get? b=some o->(s.heap.push {cls:=.type "set",dict:=none,data:=.set #[] 0 (.fresh 0 0 led)}).get? b=some o:=λb o e=>Heap.get?_push_of_some _ e;refine k _ _ (ads++[(s.heap.objs.size,s.heap.objs.size)]) (pP (tk:=s.toks) R (bU _) (bU _) hk) ?_ (pC (p:=(s.heap.objs.size,s.heap.objs.size)) R.len);refine R.add hk (bU _) (bU _) (o4 _) (o4 _) ⟨?_,rfl⟩;exact⟨_,#[],0,_,Heap.get?_push_size _ rfl,⟨rfl,rfl,rfl⟩,rfl,λe he=>by simp at he,λk=>by simp,by decide,by rfl,rfl⟩
theorem qdy (R:c.R Z lk s.heap ads σ)(r:c.PL Z ads σ s.heap args vals)(e:mQ .divmod σ args=some (d,σ')):Yields c A (call (.builtin "divmod") vals) Z lk s ads σ d σ' :=
 qcO r e λx y v v' hv rv rv' e=>JW rv rv' e λi j t u h1 h2 e=>d8 e λhb e=>by
  subst hv;subst h1;subst h2;exact Yields.cast e (oK R λQ E k=>divmod_int hb.1 (k _ _ _ (λ_ _ e=>Heap.get?_push_of_some _ e) (BV (vs:=[.int _ _,.int _ _]) R ⟨_,_,rfl,⟨_,rfl⟩,_,_,rfl,⟨_,rfl⟩,rfl⟩ (by simp[lim]))) (.inl (qbE hb.2)))
theorem qgp {is:List Int}{i:Int}(e:qaF is=some i):∃j r,is=j::r/\i=qJ j r:=by
 cases is
 case nil=>exact bO e
 case cons=>exact⟨_,_,rfl,(Option.some.inj e).symm⟩
end
theorem qc2 {b:B}{args:List D}{vals:List Value}{d:D}(B0:Base c)(hA:dI A n fr)(R:c.R Z lk s.heap ads σ)(r:c.PL Z ads σ s.heap args vals)(e:mQ b σ args=some (d,σ')) :
  Yields c A (call (xP b) vals) Z lk s ads σ d σ':=by
 cases b
 case abs=>exact pK r e λx v rv e=>jM rv e λi t ht e=>Yields.cast e (oK R λQ E k=>ht▸call_abs_int λu tk=>k _ s.heap tk (λ_ _ e=>e) ⟨u,rfl⟩)
 case len=>exact pK r e λx v rv e=>aJ e λl hl e=>Yields.cast e (qfQ R rv hl)
 case range=>exact qid R r e
 case sorted=>exact pK r e λx v rv e=>aJ e λl hl e=>d8 e λh64 e=>aJ e λl' hs e=>Yields.cast e (qjV hA R rv hl h64 hs)
 case sum=>exact pK r e λx v rv e=>aJ e λl hl e=>aJ e λis hi e=>Yields.cast e (qj2 hA R rv hl hi)
 case min=>exact pK r e λx v rv e=>aJ e λl hl e=>aJ e λis hi e=>aJ e λi hm e=>fM (qgp hm) λj q h1 h2=>Yields.cast e (h2▸qgq hA R rv hl (h1▸hi))
 case divmod=>exact qdy R r e
 case list=>exact pK r e λx v rv e=>aJ e λl hl e=>Yields.cast e (qfY hA R rv hl)
 case tuple=>exact U3 R r e λl a vs hp hr hlim e=>Yields.cast e (oK R λQ E k=>call_tuple_list (PlainList.isList hp) (λh' hk=>k _ _ _ (λb o e=>Heap.get?_push_of_some _ (hk b o e)) (BV (R.grow hk) (aX.mono (Sub.refl _) (λa o _ _ e=>hk a o e) (λ_ _ _ x=>x) _ _ hr) hlim)) (jQ hlim hr.length))
 case bool=>exact U3 R r e λl a vs hp hr hlim e=>Yields.cast e (oK R λQ E k=>qc9 (PlainList.isList hp) (vQ hlim hr.length) (k _ s.heap _ (λ_ _ e=>e) (congrArg Value.bool (I2 hr))))
 case iter=>exact pK r e λx v rv e=>qfx R rv e
 case set=>exact H3 r e λhv e=>Yields.cast e (hv▸qiB R)
end
end Internal
end
section
open PySem PySem.W PyProof.Rows PySem.SeqAt PySem.MeetsSeq
namespace Internal
noncomputable def TP:BM->Str
 | .append=>"append" | .extend=>"extend" | .index=>"index" | .count=>"count" | .pop=>"pop" | .clear=>"clear" | .get=>"get" | .add=>"add"
noncomputable def vC:BM->String
 | .get=>"dict"
 | .add=>"set"
 | _=>"list"
noncomputable def vB:BM->String
 | .append=>"list.append" | .extend=>"list.extend" | .index=>"list.index" | .count=>"list.count" | .pop=>"list.pop" | .clear=>"list.clear" | .get=>"dict.get" | .add=>"set.add"
theorem TQ:∀m:BM,Slot (vC m) (TP m) (vB m)
 | .append=>F.slot_list_append
 | .extend=>F.slot_list_extend
 | .index=>F.slot_list_index
 | .count=>F.slot_list_count
 | .pop=>F.slot_list_pop
 | .clear=>F.slot_list_clear
 | .get=>F.slot_dict_get
 | .add=>F.slot_set_add
theorem bm_plain:∀m:BM,PlainAttrs (vC m)
 | .append|.extend|.index|.count|.pop|.clear=>F.plainAttrs_list
 | .get=>F.plainAttrs_dict
 | .add=>F.plainAttrs_set
theorem TV:∀m:BM,typeOf (.builtin (vB m))=pure (.type "method_descriptor")
 | .append=>F.type_list_append
 | .extend=>F.type_list_extend
 | .index=>F.type_list_index
 | .count=>F.type_list_count
 | .pop=>F.type_list_pop
 | .clear=>F.type_list_clear
 | .get=>F.type_dict_get
 | .add=>F.type_set_add
section
variable {c:bJ}{A:Around}{Z:List Addr}{lk:Nat->Nat}{s:Shared}{ads:aY}{σ σ':Store}{n:Nat}{C:SC}{W:Addr->Prop}{h:Heap}{fr:List Env}
theorem qa9 {k:Nat}{p:Addr×Addr}{l l':List D}{vs':List Value}{h':Heap}{tk:Nat}{e:Nat}(R:c.R Z lk s.heap ads σ)(hp:ads[k]?=some p)(ho:σ[k]?=some (.list l))(hs:Heap.SameBut p.1 s.heap h')(hn:h'.get? p.1=some {cls:=.type "list",data:=.seq (toArray vs') e}) (hr:c.PL Z ads σ s.heap l' vs') (hl:l'.length<=lim) :
  Ext Z ads σ s ads (σ.set k (.list l')) {s with heap:=h',toks:=tk}/\c.R Z lk h' ads (σ.set k (.list l')):=by
 have hown:=Rel.owned_set (o':=.list l') hp ho rfl;have hpp:p.2=p.1:=(R.objs k p _ hp ho).choose_spec.2.2.2;have hk:∀b x,b≠p.1->s.heap.get? b=some x->h'.get? b=some x:=λb x hb e=>(hs.2 b hb).trans e;have gB:∀b,b=p.1->bH ads σ b:=λb hb=>⟨k,p,_,hp,ho,rfl,.inl hb⟩;refine⟨⟨⟨[],by simp⟩,λb o hb e=>SO.of (hk b o (λq=>hb (gB b q)) e),λb e=>.inl (hown b e),λb ⟨o,e⟩=>(Classical.em (b=p.1)).elim (λq=>q▸⟨_,hn⟩) (λq=>⟨o,hk b o q e⟩),⟨_,_,rfl⟩⟩,?_⟩;refine R.put hp ho rfl (λb x h1 _ e=>hk b x h1 e) ⟨⟨_,hn⟩,hpp▸⟨_,hn⟩⟩ ⟨vs',⟨e,hn⟩,?_,hl,hpp⟩;exact aX.mono (Sub.refl _) (λa o hw _ e=>hk a o (λq=>hw (.inr (gB a q))) e) (λa _ _ x=>x.imp id (hown a)) _ _ hr
theorem aX.take {X:Txt}:∀(m:Nat) {l:List D} {vs:List Value},aX X ads W h l vs->aX X ads W h (l.take m) (vs.take m)
 | 0,_,_,_=>rfl
 | m+1,[],_,e=>by cases e;rfl
 | m+1,d::ds,_,e=>cY e λv r hv h1 h2=>by subst hv;exact⟨v,_,rfl,h1,aX.take m h2⟩
theorem aX.drop {X:Txt}:∀(m:Nat) {l:List D} {vs:List Value},aX X ads W h l vs->aX X ads W h (l.drop m) (vs.drop m)
 | 0,_,_,e=>e
 | m+1,[],_,e=>by cases e;rfl
 | m+1,d::ds,_,e=>cY e λv r hv h1 h2=>by subst hv;exact aX.drop m h2
theorem aX.eraseIdx {X:Txt}(i:Nat){l:List D}{vs:List Value}(r:aX X ads W h l vs):aX X ads W h (l.eraseIdx i) (vs.eraseIdx i):=by
 rw[List.eraseIdx_eq_take_drop_succ,List.eraseIdx_eq_take_drop_succ];exact(r.take i).append (r.drop (i+1))
theorem aX.set {X:Txt}(i:Nat){l:List D}{vs:List Value}{d:D}{v:Value}(r:aX X ads W h l vs)(q:Rep X ads W h d v):aX X ads W h (l.set i d) (vs.set i v):=by
 refine aX.of_get (by simp[r.length]) λj x y hx hy=>?_;by_cases hj:i=j
 ·subst hj;have h1:i<l.length:=by simpa using(List.getElem?_eq_some_iff.mp hx).1
  have h2:i<vs.length:=by simpa using(List.getElem?_eq_some_iff.mp hy).1
  rw[getElem?_set_self h1]at hx;rw[getElem?_set_self h2]at hy;cases hx;cases hy;exact q
 ·rw[getElem?_set_ne hj]at hx hy;exact r.rep hx hy
theorem qgN {o:O}{l:List (Int×D)}(e:CJ o=some l):o=.dict l\/o=.ldict l:=by
 cases o <;> first|exact bO e|exact .inl (congrArg O.dict (Option.some.inj e))|exact .inr (congrArg O.ldict (Option.some.inj e))
theorem RV {o:D}{v:Value}{es:List (Int×D)}(R:c.R Z lk h ads σ)(r:c.P Z ads σ h o v)(e:xK σ o=some es) :
  ∃(p:Addr×Addr) (kvs:List (Int×Value)) (k:Nat),ads[k]?=some p/\v=.ref p.1/\h.DictOf (intKind c.prog c.w) p.1 kvs/\cM c.X ads (WW Z ads σ) h es kvs:=by
 cases o
 case ref =>
  exact aF r λp hp hv=>aJ e λo ho e=>by
   have q:=R.objs _ _ _ hp ho;rcases qgN e with rfl|rfl
   ·exact cL q λkvs a b _ _=>⟨p,kvs,_,hp,hv,a,b⟩
   ·exact cL q λkvs a b _ _=>⟨p,kvs,_,hp,hv,c7 (a) λo es h1 h2 h3 r=>⟨o,es,_,h1,h2,h3,r⟩,b⟩
 all_goals exact bO e
section
variable {o:D}{args:List D}{ov:Value}{vals:List Value}{d:D}
theorem wJ {fv:Value}{f:List D->Option (D×List D)}(R:c.R Z lk s.heap ads σ)(ro:c.P Z ads σ s.heap o ov)(e:lX σ o f=some (d,σ'))(H:∀l l' a vs m,s.heap.get? a=some {cls:=.type "list",data:=.seq (toArray vs) m}->c.PL Z ads σ s.heap l vs->l.length<=lim->f l=some (d,l')->∀(Q:Value->Shared->Prop) (E:Value->Shared->Prop),
   (∀v vs' h' tk e,Heap.SameBut a s.heap h'->h'.get? a=some {cls:=.type "list",data:=.seq (toArray vs') e}->c.PL Z ads σ s.heap l' vs'->l'.length<=lim->c.P Z ads σ s.heap d v->Q v {s with heap:=h',toks:=tk}) ->
   wpAny (model c.prog c.w) A (call fv (.ref a::vals)) Q E s):Yields c A (call fv (ov::vals)) Z lk s ads σ d σ' :=
 aJ e λj hj e=>aJ e λl hl e=>aJ hl λx ho hl=>aZ e λd' l' hf e=>eG e λe1 e2 Q E k=>by
  subst e1;subst e2;rw[kI hj]at ro;rw[uE hl]at ho;refine aF ro λp hp hv=>cL (R.objs _ _ _ hp ho) λvs hg hr hlim _=>elim hg λm hg=>?_;subst hv;refine H l l' p.1 vs m hg hr hlim hf Q E λv vs' h' tk e hs hn hr' hl' rv=>?_;exact(qa9 (tk:=tk) R hp ho hs hn hr' hl').elim λx R'=>k _ _ ads x R' (x.rep rv)
theorem t8 {fv:Value}{f:D->Option (D×Store)}(r:c.PL Z ads σ s.heap args vals)(e:arg1 args f=some (d,σ'))(k:∀x v,c.P Z ads σ s.heap x v->f x=some (d,σ')->Yields c A (call fv [ov,v]) Z lk s ads σ d σ') :
  Yields c A (call fv (ov::vals)) Z lk s ads σ d σ':=RT r e λx v hv rv e=>by subst hv;exact k x v rv e
theorem qcN (R:c.R Z lk s.heap ads σ)(ro:c.P Z ads σ s.heap o ov)(ra:c.PL Z ads σ s.heap args vals)(e:bmeth .append σ o args=some (d,σ')):Yields c A (call (.builtin "list.append") (ov::vals)) Z lk s ads σ d σ' :=
 t8 ra e λx v rv e=>wJ R ro e λl l' a vs m hg hr hlim hf Q E k=>d8 hf λhl hf=>eG hf λe1 e2 =>
  call_meets F.slot_list_append ⟨_,hg,rfl⟩ F.entry_list_append (F.args_list_append_2 _ _) (list_append a vs.toArray m v (jQ hlim hr.length)) ⟨hg,
   k .none (vs++[v]) _ s.toks _ (Heap.SameBut.update _ _ _) (by simpa[Obj.mapSeq] using Heap.get?_update_self (Obj.mapSeq λx=>x.push v) hg rfl) (e2▸hr.append (aX.one rv)) (by rw[<-e2,length_append];exact hl) (e1▸rfl)⟩
theorem qee (R:c.R Z lk s.heap ads σ)(ro:c.P Z ads σ s.heap o ov)(ra:c.PL Z ads σ s.heap args vals)(e:bmeth .extend σ o args=some (d,σ')):Yields c A (call (.builtin "list.extend") (ov::vals)) Z lk s ads σ d σ' :=
 t8 ra e λx v rv e=>aJ e λlx hx e=>wJ R ro e λl l' a vs m hg hr hlim hf Q E k=>d8 hf λhl hf=>eG hf λe1 e2=>by
  have key:∀ws,c.PL Z ads σ s.heap lx ws->Q .none {s with heap:=s.heap.update a (Obj.mapSeq λx=>x++toArray ws),toks:=s.toks}:=λws hrb =>
   k .none (vs++ws) _ s.toks _ (Heap.SameBut.update _ _ _) (by simpa[Obj.mapSeq] using Heap.get?_update_self (Obj.mapSeq λx=>x++ws.toArray) hg rfl) (e2▸hr.append hrb) (by rw[<-e2,length_append];exact hl) (e1▸rfl)
  have big:∀ws,c.PL Z ads σ s.heap lx ws->vs.length+ws.length<=sizeLine:=λws hrb=>by rw[hr.length,hrb.length];unfold lim at hl;unfold sizeLine;omega
  cases x
  case list =>
   exact eE rv λb ws hb hpb _ _ hrb=>elim hpb λmb hgb=>by
    subst hb;cases hx;have:=big ws hrb;exact call_meets F.slot_list_extend ⟨_,hg,rfl⟩ F.entry_list_extend (F.args_list_extend_2 _ _)
      (AutoSeq1.list_extend_list_list_0 a vs.toArray m b ws.toArray mb (by unfold sizeLine at this;simp[Builtin.List.listTooLong,sizeLine];omega) (jQ hlim hr.length) (by simp;exact aA (aC 0x21aff0aa1021a1 rfl this))) ⟨hg,hgb,key ws hrb⟩
  case tup =>
   exact iT rv λb ws mb hb hgb _ _ hrb=>by
    subst hb;cases hx;have:=big ws hrb;exact call_meets F.slot_list_extend ⟨_,hg,rfl⟩ F.entry_list_extend (F.args_list_extend_2 _ _)
      (AutoSeq1.list_extend_list_tuple_0 a vs.toArray m b ws.toArray mb (by unfold sizeLine at this;simp[Builtin.List.listTooLong,sizeLine];omega) (jQ hlim hr.length) (by simp;exact aA (aC 0x21aff0aa1021a1 rfl this))) ⟨hg,hgb,key ws hrb⟩
  all_goals exact bO hx
theorem qfl (hA:A.units+1000<=9900)(R:c.R Z lk s.heap ads σ)(ro:c.P Z ads σ s.heap o ov)(ra:c.PL Z ads σ s.heap args vals)(e:bmeth .index σ o args=some (d,σ')):Yields c A (call (.builtin "list.index") (ov::vals)) Z lk s ads σ d σ' :=
 t8 ra e λx v rv e=>aJ e λl hl e=>aJ e λj hj e=>Yields.cast e λQ E k=>aJ hj λbs hbs hf=>c7 (jU R ro hl) λa vs hv hg hr hlim=>elim hg λm hg =>
  aF (yM (A:=A.in1) (by rw[Around.in1_units];unfold cLine deep;omega) hr rv hbs) λf hfe hm=>by
   subst hv;rw[<-hm]at hf;refine aF (List.findIdx?_eq_some_iff_getElem.mp hf) λhjl hj1 hj2=>?_;exact call_meets F.slot_list_index ⟨_,hg,rfl⟩ F.entry_list_index (F.args_list_index_2 _ _)
    (list_indexAt a vs.toArray m none #[] v f j (by simpa using hjl) (by have:=hr.length;rw[length_map]at hjl;exact qfZ hjl (le_trans (le_of_eq this) hlim)) (by simpa using hj1) (λi hi hlt=>by simpa using hj2 i hlt)) ⟨hg,λy hy=>hfe y (mem_toArray.mp hy),k _ _ ads (Ext.tok _) R ⟨_,rfl⟩⟩
theorem qdp (hA:A.units+1000<=9900)(R:c.R Z lk s.heap ads σ)(ro:c.P Z ads σ s.heap o ov)(ra:c.PL Z ads σ s.heap args vals)(e:bmeth .count σ o args=some (d,σ')):Yields c A (call (.builtin "list.count") (ov::vals)) Z lk s ads σ d σ' :=
 t8 ra e λx v rv e=>aJ e λl hl e=>aJ e λj hj e=>Yields.cast e λQ E k=>aJ hj λbs hbs hf=>c7 (jU R ro hl) λa vs hv hg hr hlim=>elim hg λm hg =>
  aF (yM (A:=A.in1) (by rw[Around.in1_units];unfold cLine deep;omega) hr rv hbs) λf hfe hm=>by
   subst hv;refine call_meets F.slot_list_count ⟨_,hg,rfl⟩ F.entry_list_count (F.args_list_count_2 _ _) (list_countAt a vs.toArray m none #[] v f) ⟨hg,λy hy=>hfe y (mem_toArray.mp hy),k _ _ ads (Ext.tok _) R ⟨s.toks,?_⟩⟩;rw[<-Option.some.inj hf,<-hm,countP_map];simp[Function.comp_def]
theorem qg7 (R:c.R Z lk s.heap ads σ)(ro:c.P Z ads σ s.heap o ov)(e:(lX σ o λl=>(l.getLast?).bind λd=>some (d,l.dropLast))=some (d,σ')):Yields c A (call (.builtin "list.pop") [ov]) Z lk s ads σ d σ' :=
 wJ R ro e λl l' a vs m hg hr hlim hf Q E k=>aJ hf λx hd hf=>eG hf λe1 e2=>by
  have hlen:=hr.length;rw[List.getLast?_eq_getElem?]at hd;refine aF (hr.get hd) λy hy ry=>?_;refine call_meets F.slot_list_pop ⟨_,hg,rfl⟩ F.entry_list_pop (F.args_list_pop_1 _) (list_pop_last a vs.toArray m y (by simp[hlen,hy]) (jQ hlim hlen)) ⟨hg,?_⟩;have he:(vs.toArray.eraseIdxIfInBounds (vs.toArray.size-1))=(vs.eraseIdx (vs.length-1)).toArray:=by simp
  have hdl:l.dropLast=l.eraseIdx (vs.length-1):=by rw[hlen,List.eraseIdx_length_sub_one]
  exact k y (vs.eraseIdx (vs.length-1)) _ s.toks _ (Heap.SameBut.update _ _ _) (by simpa[Obj.mapSeq,he] using Heap.get?_update_self (Obj.mapSeq λxs=>xs.eraseIdxIfInBounds (vs.toArray.size-1)) hg rfl) (e2▸hdl▸hr.eraseIdx _) (by rw[<-e2,List.length_dropLast];exact aA (aC 0x1f0a1211021 rfl hlim (eV _ _))) (e1▸ry)
theorem qg6 {i:Int}{t:Tok}(R:c.R Z lk s.heap ads σ)(ro:c.P Z ads σ s.heap o ov)(e:(lX σ o λl=>if 0<=i then(l[i.toNat]?).bind λd=>some (d,l.eraseIdx i.toNat) else .none)=some (d,σ')):Yields c A (call (.builtin "list.pop") [ov,.int i t]) Z lk s ads σ d σ' :=
 wJ R ro e λl l' a vs m hg hr hlim hf Q E k=>d8 hf λh0 hf=>aJ hf λx hd hf=>eG hf λe1 e2=>aF (hr.get hd) λy hy ry=>by
  have hi:i.toNat<vs.length:=(List.getElem?_eq_some_iff.mp hy).1;have hseq:seqIndex? i vs.toArray.size=some i.toNat:=by
   rw[size_toArray];exact PySem.seqIndex_of h0 (tiL hi)
  refine call_meets F.slot_list_pop ⟨_,hg,rfl⟩ F.entry_list_pop (F.args_list_pop_2 _ _) (list_pop_at a vs.toArray m i t i.toNat y (by have:=hr.length;simp[Builtin.List.listFitsIndex];exact⟨Int.le_trans (by decide) h0,FW hi (le_trans (le_of_eq this) hlim)⟩) hseq (by simpa using hy) (jQ hlim hr.length)) ⟨hg,?_⟩;exact k y (vs.eraseIdx i.toNat) _ s.toks _ (Heap.SameBut.update _ _ _) (by simpa[Obj.mapSeq] using Heap.get?_update_self (Obj.mapSeq λxs=>xs.eraseIdxIfInBounds i.toNat) hg rfl) (e2▸hr.eraseIdx _) (by have:=List.length_eraseIdx_le l i.toNat;rw[<-e2];exact aA (aC 0x1f0a1021211 rfl this hlim)) (e1▸ry)
theorem qdf (R:c.R Z lk s.heap ads σ)(ro:c.P Z ads σ s.heap o ov)(e:(lX σ o λ_=>some (.none,[]))=some (d,σ')):Yields c A (call (.builtin "list.clear") [ov]) Z lk s ads σ d σ' :=
 wJ R ro e λl l' a vs m hg hr hlim hf Q E k=>eG hf λe1 e2 =>
  call_meets F.slot_list_clear ⟨_,hg,rfl⟩ F.entry_list_clear (F.args_list_clear_1 _) (AutoSeq1.list_clear_list_0 a vs.toArray m (jQ hlim hr.length)) ⟨hg,
   k .none [] _ s.toks _ (Heap.SameBut.update _ _ _) (by simpa[Obj.mapSeq] using Heap.get?_update_self (Obj.mapSeq λ_=>(#[]:Array Value)) hg rfl) (e2▸rfl) (e2▸zero_le _) (e1▸rfl)⟩
theorem qeJ (B0:Base c)(R:c.R Z lk s.heap ads σ)(ro:c.P Z ads σ s.heap o ov)(ra:c.PL Z ads σ s.heap args vals)(e:bmeth .get σ o args=some (d,σ')):Yields c A (call (.builtin "dict.get") (ov::vals)) Z lk s ads σ d σ' :=
 t8 ra e λx v rv e=>jM rv e λi t ht e=>aJ e λes hes e=>Yields.cast e λQ E k=>lK (RV R ro hes) λp kvs k₀ hp hv hd hr=>by
  subst ht;subst hv;have hk:(intKind c.prog c.w).is i (.int i t)=true:=by simp[intKind,Value.isInt]
  refine call_meetsIn F.slot_dict_get (Heap.DictOf.typeIs hd) F.entry_dict_get (F.args_dict_get_2 _ _) (meets_dict_get (intKind c.prog c.w) p.1 hk (Rel.dict_ne B0 R hp)) ⟨_,xW hd,k _ _ ads (Ext.tok _) R ?_⟩;have hf:=hr.find i;unfold dictGet
  revert hf
  cases es.lookup i with
  | none=>intro hf;rw[show valueAt kvs i=none from hf];rfl
  | some d=>exact λhf=>aF hf λv h1 h2=>by rw[h1];exact h2
theorem qiz (es:List Int)(i:Int):(λj=>es.contains j||decide (j=i))=λj=>(if es.contains i then es else es++[i]).contains j:=by
 funext j
 by_cases hc:es.contains i=true
 ·rw[if_pos hc];by_cases hj:j=i
  ·subst hj;rw[hc];rfl
  ·rw[decide_eq_false hj,Bool.or_false]
 ·rw[if_neg hc];simp[List.contains_eq_mem]
theorem qiA (es:List Int)(i:Int):(if es.contains i then es.length else es.length+1)=(if es.contains i then es else es++[i]).length:=by
 split
 ·rfl
 ·rw[length_append];rfl
theorem qcH (R:c.R Z lk s.heap ads σ)(ro:c.P Z ads σ s.heap o ov)(ra:c.PL Z ads σ s.heap args vals)(e:bmeth .add σ o args=some (d,σ')):Yields c A (call (.builtin "set.add") (ov::vals)) Z lk s ads σ d σ' :=
 t8 ra e λx v rv e=>jM rv e λi t ht e=>aJ e λk₀ hk₀ e=>aJ e λes hes e=>aJ hes λx ho hes=>d8 e λhl e=>Yields.cast e λQ E k=>by
  subst ht;rw[kI hk₀]at ro;rw[NP hes]at ho;refine aF ro λp hp hv=>(R.objs _ _ _ hp ho).elim λhS hpp=>?_;subst hv;have hk:(intKind c.prog c.w).is i (.int i t)=true:=by simp[intKind,Value.isInt]
  refine call_set_add hk rfl hS (by unfold scanBound;omega) λh' hs hS'=>?_;have hown:=Rel.owned_set (o':=.set (if es.contains i then es else es++[i])) hp ho rfl;have hkeep:∀b x,b≠p.1->s.heap.get? b=some x->h'.get? b=some x:=λb x hb e=>(hs.2 b hb).trans e;have gB:∀b,b=p.1->bH ads σ b:=λb hb=>⟨_,p,_,hp,ho,rfl,.inl hb⟩;have hh:Heap.Has h' p.1:=VP hS' λo _ _ _ e _=>⟨o,e⟩;refine k _ _ ads ⟨⟨[],by simp⟩,λb o hb e=>SO.of (hkeep b o (λq=>hb (gB b q)) e),λb e=>.inl (hown b e),λb ⟨o,e⟩=>(Classical.em (b=p.1)).elim (λq=>q▸hh) (λq=>⟨o,hkeep b o q e⟩),⟨_,_,rfl⟩⟩ ?_ rfl;refine R.put hp ho rfl (λb x h1 _ e=>hkeep b x h1 e) ⟨hh,hpp▸hh⟩ ⟨?_,hpp⟩;rw[qiz,qiA]at hS';exact hS'
end
theorem TX {m:BM}{o:D}{args:List D}{ov:Value}{vals:List Value}{d:D}(B0:Base c)(hA:A.units+1000<=9900)(R:c.R Z lk s.heap ads σ)(ro:c.P Z ads σ s.heap o ov)(ra:c.PL Z ads σ s.heap args vals)(e:bmeth m σ o args=some (d,σ')):Yields c A (call (.builtin (vB m)) (ov::vals)) Z lk s ads σ d σ':=by
 cases m
 case append=>exact qcN R ro ra e
 case extend=>exact qee R ro ra e
 case index=>exact qfl hA R ro ra e
 case count=>exact qdp hA R ro ra e
 case pop =>
  cases args
  case nil=>exact qgE ra▸qg7 R ro e
  case cons=>exact cY ra λv r hv rv hr=>H3 hr e λh0 e=>jM rv e λi t ht e=>by subst hv;subst h0;subst ht;exact qg6 R ro e
 case clear=>exact H3 ra e λh0 e=>h0▸qdf R ro e
 case get=>exact qeJ B0 R ro ra e
 case add=>exact qcH R ro ra e
end
section
variable {c:bJ}{A:Around}{Z:List Addr}{lk:Nat->Nat}{s:Shared}{ads:aY}{σ σ':Store}{n:Nat}{C:SC}{W:Addr->Prop}{h:Heap}
theorem sZ.cast {t:Sem (List Value)}{d d':List D}{σ1 qW:Store}(e:some (d,σ1)=some (d',qW))(y:sZ c A t Z lk s ads σ d σ1):sZ c A t Z lk s ads σ d' qW:=by cases e;exact y
theorem qiT {F:aU}:jT c n C [] (evs F []) :=
 λA Z lk s ads ρ σ env ds σ' pos hf hA R V=>sZ.cast hf λQ E k=>Calls.spliced_nil (k _ s ads Ext.refl R rfl)
noncomputable def isStar:E->Bool
 | .star _=>true
 | _=>false
noncomputable def isStarred:Expr->Bool
 | .Starred ..=>true
 | _=>false
theorem WN {F:aU}{x:E}{xs:List E}(hx:isStar x=false)(ρ:Loc)(σ:Store):evs F (x::xs) ρ σ=(ev F x ρ σ).bind λr=>(evs F xs ρ r.2).bind λq=>some (r.1::q.1,q.2):=by
 cases x <;> first|rfl|exact Bool.noConfusion hx
theorem wN {e:Expr}{es:List Expr}{env:Env}(he:isStarred e=false):starEach (e::es) env=(false,eval e env)::starEach es env:=by
 cases e <;> first|rfl|exact Bool.noConfusion he
theorem qiS {F:aU}{x:E}{xs:List E}{e:Expr}{es:List Expr}(S:bL c n C e (ev F x))(SL:jT c n C es (evs F xs))(hx:isStar x=false)(he:isStarred e=false):jT c n C (e::es) (evs F (x::xs)) :=
 λA Z lk s ads ρ σ env ds σ' pos hf hA R V=>aZ ((WN hx ρ σ).symm.trans hf) λd1 σ1 h1 hf=>aZ hf λds2 σ2 h3 hf=>sZ.cast hf λQ E k=>by
  rw[wN he];exact Calls.spliced_cons (S A Z lk s ads ρ σ env d1 σ1 h1 hA R V _ _ λv s1 aN x1 R1 r1=>SL A Z lk s1 aN ρ σ1 env ds2 σ2 pos h3 hA R1 (V.ext x1) _ _ λvs s2 bT x2 R2 r2=>k _ s2 bT (x1.trans x2) R2 ⟨v,vs,rfl,x2.rep r1,r2⟩)
theorem qaf {l:List D}{vs:List Value}(hl:l.length<=lim)(he:vs.length=l.length):vs.length<=sizeLine:=by rw[he];unfold lim at hl;unfold sizeLine;omega
theorem qgA {m:Bool}{l:List D}{vs:List Value}{d d1:D}{Q:Value->Shared->Prop}{s1:Shared}{aN:aY}{σ1:Store}(x1:Ext Z ads σ s aN σ1 s1)(R1:c.R Z lk s1.heap aN σ1)(r1:c.PL Z aN σ1 s1.heap l vs)(hl:l.length<=lim)(h2:some (D.list l)=some d1)(h3:(bif m then some (.ref σ1.length,σ1++[.list l]) else some (d1,σ1))=some (d,σ'))(k:∀v s' aG,Ext Z ads σ s aG σ' s'->c.R Z lk s'.heap aG σ'->c.P Z aG σ' s'.heap d v->Q v s') :
  Q (.ref s1.heap.objs.size) {s1 with heap:=s1.heap.push {cls:=.type "list",data:=.seq vs.toArray}}:=by
 cases m with
 | true =>
  cases h3;have hk:∀b o,s1.heap.get? b=some o->(s1.heap.push {cls:=.type "list",data:=.seq vs.toArray}).get? b=some o:=λb o e=>Heap.get?_push_of_some _ e;exact k _ _ _ (x1.trans (pP R1 (bU _) (bU _) hk)) (QR R1 r1 hl hk (Heap.get?_push_size _ rfl)) (pC (p:=(s1.heap.objs.size,s1.heap.objs.size)) R1.len)
 | false =>
  cases h2;cases h3;exact k _ _ aN (x1.trans (yS _ _)) (R1.push _) (MP R1 r1 hl)
theorem qjz {F:aU}{m:Bool}{xs:List E}{es:List Expr}{pos:Pos}(SL:jT c n C es (evs F xs)):bL c n C (.List es pos) (ev F (.list m xs)) :=
 λA Z lk s ads ρ σ env d σ' hf hA R V=>aZ hf λl σ1 h1 hf=>aJ hf λd1 h2 h3=>d8 h2 λhl h2 Q E k =>
  wpAny_List (SL A Z lk s ads ρ σ env l σ1 pos h1 hA R V _ _ λvs s1 aN x1 R1 r1=>⟨qaf hl r1.length,qgA x1 R1 r1 hl h2 h3 k⟩)
theorem qjG {F:aU}{xs:List E}{es:List Expr}{kn:Nat}{pos:Pos}(SL:jT c n C es (evs F xs)):bL c n C (.Tuple es kn pos) (ev F (.tup xs)) :=
 λA Z lk s ads ρ σ env d σ' hf hA R V=>aZ hf λl σ1 h1 hf=>d8 hf λhl hf=>Yields.cast hf λQ E k =>
  wpAny_Tuple_spliced (SL A Z lk s ads ρ σ env l _ pos h1 hA R V _ _ λvs s1 aN x1 R1 r1=>⟨qaf hl r1.length,k _ _ aN (x1.trans (yS _ _)) (R1.push _) (BV R1 r1 hl)⟩)
theorem qju {F:aU}{pos:Pos}:bL c n C (.Dict [] [] pos) (ev F .dict0) :=
 λA Z lk s ads ρ σ env d σ' hf hA R V=>Yields.cast hf λQ E k=>wpAny_Dict_empty <| by
  have hk:∀b o,s.heap.get? b=some o->(s.heap.push {cls:=.type "dict",data:=.dict #[]}).get? b=some o:=λb o e=>Heap.get?_push_of_some _ e;refine k _ _ (ads++[(s.heap.objs.size,s.heap.objs.size)]) (pP (tk:=s.toks) R (bU _) (bU _) hk) ?_ (pC (p:=(s.heap.objs.size,s.heap.objs.size)) R.len);exact R.add hk (bU _) (bU _) (o4 _) (o4 _) ⟨[],⟨_,#[],0,Heap.get?_push_size _ rfl,⟨rfl,rfl,rfl⟩,rfl,λe he=>by simp at he,.nil,by simp⟩,rfl,zero_le _,rfl⟩
noncomputable def isSlice:Expr->Bool
 | .Slice ..=>true
 | _=>false
theorem QS {e:Expr}(he:isSlice e=false)(o i:Value):subscripted e false o i=operate [o,i] (PySem.getItem o i):=by
 cases e <;> first|rfl|exact Bool.noConfusion he
section
variable {o i r:D}{ov iv:Value}{val sl:Expr}
theorem item_list {a:Addr}{vs:List Value}{l:List D}{j:Int}{t:Tok}{m:Bool}(hs:isSlice sl=false)(R:c.R Z lk s.heap ads σ)(hp:s.heap.PlainList a vs.toArray)(hr:c.PL Z ads σ s.heap l vs)(hl:l.length<=lim)(e:gQ l j m=some r) :
  Yields c A (subscriptTail val sl (.ref a) (.int j t)) Z lk s ads σ r σ:=by
 intro Q E k;have key:wpAny (model c.prog c.w) A (PySem.getItem (.ref a) (.int j t)) Q E s->wpAny (model c.prog c.w) A (subscriptTail val sl (.ref a) (.int j t)) Q E s:=λq=>tail_any (T:="list") ⟨_,hp.choose_spec,rfl⟩ PySem.slot_list_getitem.lookup q (QS hs _ _);have hlen:=hr.length;unfold gQ at e;by_cases h0:0<=j
 ·rw[if_pos h0]at e;refine aF (hr.get e) λv hv rv=>key (wpAny_getItem_list (PlainList.isList hp) h0 ?_ (by simpa using hv) (k v s ads Ext.refl R rv));have hlt:=(List.getElem?_eq_some_iff.mp hv).1;exact FW hlt (le_trans (le_of_eq hlen) hl)
 ·rw[if_neg h0]at e;refine d8 e λhj e1=>?_;obtain⟨rfl,_⟩:=hj;rw[List.getLast?_eq_getElem?]at e1;have hlt:=(List.getElem?_eq_some_iff.mp e1).1;refine aF (hr.get e1) λv hv rv=>key (wpAny_getItem_list_neg (PlainList.isList hp) (by decide) (by rw[size_toArray];exact neg_le_neg (ofNat_le.mpr (hlen▸lt_of_le_of_lt (zero_le _) hlt))) (by decide) ?_ (k v s ads Ext.refl R rv));rw[size_toArray,show ((-1:Int)+(vs.length:Int)).toNat=l.length-1 by rw[Int.add_comm,<-hlen];exact Int.toNat_sub vs.length 1];simpa using hv
theorem item_dict {p:Addr×Addr}{j:Int}{t:Tok}{es:List (Int×D)}{kvs:List (Int×Value)}(hs:isSlice sl=false)(R:c.R Z lk s.heap ads σ)(hd:s.heap.DictOf (intKind c.prog c.w) p.1 kvs)(hr:cM c.X ads (WW Z ads σ) s.heap es kvs)(e:dictGet j es=some r) :
  Yields c A (subscriptTail val sl (.ref p.1) (.int j t)) Z lk s ads σ r σ:=by
 intro Q E k;have hk:(intKind c.prog c.w).is j (.int j t)=true:=by simp[intKind,Value.isInt]
 have hf:=hr.find j;unfold dictGet at e;rw[e]at hf;exact aF hf λv h1 h2=>tail_any (Heap.DictOf.typeIs hd) PySem.slot_dict_getitem.lookup (wpAny_getItem_of hk (xW hd) h1 (k v _ ads (Ext.tok _) R h2)) (QS hs _ _)
theorem item_tup {l:List D}{j:Int}{t:Tok}(hs:isSlice sl=false)(R:c.R Z lk s.heap ads σ)(ro:c.P Z ads σ s.heap (.tup l) ov)(e:gQ l j false=some r):Yields c A (subscriptTail val sl ov (.int j t)) Z lk s ads σ r σ:=by
 intro Q E k;unfold gQ at e;by_cases h0:0<=j
 ·rw[if_pos h0]at e;refine iT ro λa vs m ha hp _ hl hr=>aF (hr.get e) λv hv rv=>?_;subst ha;have hlt:=(List.getElem?_eq_some_iff.mp hv).1;have hlen:=hr.length;exact tail_any (T:="tuple") ⟨_,hp,rfl⟩ F.slot_tuple_getitem.lookup (P.getItem_tuple (k:=j.toNat) hp (Int.le_trans (by decide) h0) (FW hlt (le_trans (le_of_eq hlen) hl)) (by rw[size_toArray];exact PySem.seqIndex_of h0 (tiL hlt)) (by simpa using hv) (k v s ads Ext.refl R rv)) (QS hs _ _)
 ·rw[if_neg h0]at e;exact d8 e λhj e=>Bool.noConfusion hj.2
theorem qfv (hs:isSlice sl=false)(R:c.R Z lk s.heap ads σ)(ro:c.P Z ads σ s.heap o ov)(ri:c.P Z ads σ s.heap i iv)(e:Internal.getItem σ o i=some r) :
  Yields c A (subscriptTail val sl ov iv) Z lk s ads σ r σ :=
 jM ri e λj t ht e=>by
  subst ht;cases o
  case tup=>exact item_tup hs R ro e
  case list=>exact eE ro λa vs ha hp _ hl hr=>ha▸item_list hs R hp hr hl e
  case ref =>
   refine aF ro λp hp hv=>aJ e λx ho e=>?_;have q:=R.objs _ _ _ hp ho;subst hv;cases x
   case list=>exact cL q λvs a r hl _=>item_list hs R a r hl e
   case llist=>exact cL q λvs a r hl _=>item_list hs R a r hl e
   case dict=>exact cL q λkvs a r _ _=>item_dict hs R a r e
   case ldict=>exact cL q λkvs a r _ _=>item_dict hs R (c7 (a) λo es h1 h2 h3 r=>⟨o,es,_,h1,h2,h3,r⟩) r e
   all_goals exact bO e
  all_goals exact bO e
end
theorem qjw {F:aU}{x y:E}{e i:Expr}{pos:Pos}(S1:bL c n C e (ev F x))(S2:bL c n C i (ev F y))(hs:isSlice i=false):bL c n C (.Subscript e i pos) (ev F (.idx x y)) :=
 λA Z lk s ads ρ σ env d σ' hf hA R V=>aZ hf λd1 σ1 h1 hf=>aZ hf λd2 σ2 h2 hf=>aJ hf λd3 h3 hf=>Yields.cast hf λQ E k =>
  Subscript_ (S1 A Z lk s ads ρ σ env d1 σ1 h1 hA R V _ _ λv s1 aN x1 R1 r1=>S2 A Z lk s1 aN ρ σ1 env d2 σ2 h2 hA R1 (V.ext x1) _ _ λv2 s2 bT x2 R2 r2 =>
   qfv hs R2 (x2.rep r1) r2 h3 _ _ λv3 s3 bW x3 R3 r3=>k v3 s3 bW ((x1.trans x2).trans x3) R3 r3)
noncomputable def xG (c:bJ)(n:Nat)(C:SC)(e:Option Expr)(f:Loc->Store->Option (Option D×Store)):Prop :=
 ∀(A:Around) (Z:List Addr) (lk:Nat->Nat) (s:Shared) (ads:aY) (ρ:Loc) (σ:Store) (env:Env) (d:Option D) (σ':Store),f ρ σ=some (d,σ')->dI A n C.fr->c.R Z lk s.heap ads σ->bK c C env ρ Z ads σ s.heap ->
  Yields c A (evalPart e env) Z lk s ads σ (d.getD .none) σ'
theorem RK.cast {t:Sem Value}{d d':Option D}{σ1 qW:Store}(e:some (d,σ1)=some (d',qW))(y:Yields c A t Z lk s ads σ (d.getD .none) σ1):Yields c A t Z lk s ads σ (d'.getD .none) qW:=by cases e;exact y
theorem qiV {F:aU}:xG c n C none (rI F .none) :=
 λA Z lk s ads ρ σ env d σ' hf hA R V=>RK.cast hf λQ E k=>wpAny_evalPart_none (k _ s ads Ext.refl R rfl)
theorem qiW {F:aU}{x:E}{e:Expr}(S:bL c n C e (ev F x)):xG c n C (some e) (rI F (some x)) :=
 λA Z lk s ads ρ σ env d σ' hf hA R V=>aZ hf λd1 σ1 h1 hf=>RK.cast hf λQ E k=>wpAny_evalPart_some (S A Z lk s ads ρ σ env d1 _ h1 hA R V _ _ k)
section
variable {l r:List D}{lv hv:Value}{lower upper:Option Expr}{value:Expr}{p:Pos}{a b:Addr}{vs:List Value}
theorem qbC {lo' hi':Option Int}{ws:List Value}(R:c.R Z lk s.heap ads σ)(hp:s.heap.PlainList b vs.toArray)(hl:l.length<=lim)(hr:c.PL Z ads σ s.heap l vs)(ha:s.heap.get? a=some {cls:=.type "slice",data:=.fields #[lv,hv,.none]})
  (h1:IsPart lv lo') (h2:IsPart hv hi') (h3:slicePick vs.toArray lo' hi' none=ws.toArray) (h4:c.PL Z ads σ s.heap r ws) (h5:r.length<=lim):Yields c A (subscriptTail value (.Slice lower upper none p) (.ref b) (.ref a)) Z lk s ads σ (.list r) σ :=
 oK R λQ E k=>tail_any (T:="list") ⟨_,hp.choose_spec,rfl⟩ PySem.slot_list_getitem.lookup (wpAny_getItem_list_slice (PlainList.isList hp) ⟨_,ha,rfl,rfl⟩ h1 h2 .none (by simp) (by
  rw[h3];exact k _ _ _ (λ_ _ e=>Heap.get?_push_of_some _ e) (MP R h4 h5)) (jQ hl hr.length)) rfl
theorem qjI {o:D}{lo hi:Option D}{ov:Value}(R:c.R Z lk s.heap ads σ)(ro:c.P Z ads σ s.heap o ov)(rl:c.P Z ads σ s.heap (lo.getD .none) lv)(rh:c.P Z ads σ s.heap (hi.getD .none) hv)(e:asList σ o=some l)(e2:qbB l lo hi=some r)(ha:s.heap.get? a=some {cls:=.type "slice",data:=.fields #[lv,hv,.none]}) :
  Yields c A (subscriptTail value (.Slice lower upper none p) ov (.ref a)) Z lk s ads σ (.list r) σ :=
 c7 (jU R ro e) λb vs hb hp hr hlim=>by
  subst hb;cases lo with
  | none =>
   refine aJ e2 λx hx e2=>?_;subst hx;refine jM rh e2 λi t ht e2=>d8 e2 λh0 e2=>?_;subst ht;refine qbC R hp hlim hr ha (show IsPart lv none from(show lv=.none from rl)▸.none) (.int _ _) (ws:=vs.take i.toNat) ?_ (Option.some.inj e2▸hr.take _) (by rw[<-Option.some.inj e2,length_take];exact le_trans (Nat.min_le_right _ _) hlim);obtain⟨m,rfl⟩:∃m:Nat,i=m:=⟨i.toNat,(toNat_of_nonneg h0).symm⟩;rw[slicePick_upto'];simp
  | some x =>
   cases hi with
   | some _=>exact bO e2
   | none =>
    refine jM rl e2 λi t ht e2=>d8 e2 λh0 e2=>?_;subst ht;refine qbC R hp hlim hr ha (.int _ _) (show IsPart hv none from(show hv=.none from rh)▸.none) (ws:=vs.drop i.toNat) ?_ (Option.some.inj e2▸hr.drop _) (by rw[<-Option.some.inj e2,length_drop];exact aA (aC 0x1f0a1211021 rfl hlim (eV _ _)));obtain⟨m,rfl⟩:∃m:Nat,i=m:=⟨i.toNat,(toNat_of_nonneg h0).symm⟩;rw[slicePick_from'];simp
end
theorem qjF {F:aU}{x:E}{lo hi:Option E}{e:Expr}{lower upper:Option Expr}{p pos:Pos}(S:bL c n C e (ev F x))(S1:xG c n C lower (rI F lo))(S2:xG c n C upper (rI F hi)) :
  bL c n C (.Subscript e (.Slice lower upper none p) pos) (ev F (.slice x lo hi)) :=
 λA Z lk s ads ρ σ env d σ' hf hA R V=>aZ hf λd1 σ1 h1 hf=>aZ hf λd2 σ2 h2 hf=>aZ hf λd3 σ3 h3 hf=>aJ hf λxs h4 hf=>aJ hf λr h5 hf=>Yields.cast hf λQ E k =>
  Subscript_ (S A Z lk s ads ρ σ env d1 σ1 h1 hA R V _ _ λv s1 aN x1 R1 r1=>wpAny_Slice (S1 A Z lk s1 aN ρ σ1 env d2 σ2 h2 hA R1 (V.ext x1) _ _ λv2 s2 bT x2 R2 r2 =>
   S2 A Z lk s2 bT ρ σ2 env d3 _ h3 hA R2 ((V.ext x1).ext x2) _ _ λv3 s3 bW x3 R3 r3=>wpAny_evalPart_none <| by
    have x4:Ext Z bW σ3 s3 bW σ3 {s3 with heap:=s3.heap.push {cls:=.type "slice",data:=.fields #[v2,v3,.none]}}:=yS _ _;exact qjI (R3.push _) (x4.rep (x3.rep (x2.rep r1))) (x4.rep (x3.rep r2)) (x4.rep r3) h4 h5 (Heap.get?_push_size _ rfl) _ _ λv5 s5 qcI x5 R5 r5=>k v5 s5 qcI ((((x1.trans x2).trans x3).trans x4).trans x5) R5 r5))
noncomputable def j4 (es:List Expr):Bool:=es.all λe=>!isStarred e
theorem uC {es:List Expr}{env:Env}{pos:Pos}(h:j4 es=true):(backTo pos (starEach es env)).any (·.1)=false:=by
 induction es with
 | nil=>rfl
 | cons e r ih =>
  simp only[j4,List.all_cons,and_eq_true,not_eq_true']at h;rw[wN h.1];show (false||(backTo pos (starEach r env)).any (·.1))=false;rw[ih (by simpa[j4] using h.2)];rfl
theorem rH {f:Value}{es:List Expr}{env:Env}{pos:Pos}{M:Model}{Q:Args->Shared->Prop}{E:Value->Shared->Prop}(h:j4 es=true)(hq:wpAny M A (spliced (backTo pos (starEach es env))) (λvs s'=>Q ⟨vs,[]⟩ s') E s):wpAny M A (evalArgs f true (backTo pos (starEach es env)) []) Q E s:=by
 cases es with
 | nil =>
  unfold evalArgs;show wpAny M A (spliced [] >>= _) Q E s;refine wpAny_bind (wpAny_mono hq (λvs s' h'=>?_) λ_ _ x=>x);refine wpAny_bind (wpAny_pure ?_);refine wpAny_holding ?_;exact wpAny_bind (wpAny_pure (wpAny_bind (wpAny_pure (wpAny_pure h'))))
 | cons e r =>
  simp only[j4,List.all_cons,and_eq_true,not_eq_true']at h;rw[wN h.1]at hq ⊢;exact Calls.evalArgs_plain hq
theorem qav {env:Env}{ρ:Loc}{id:Str}{v:Value}{Q:Value->Shared->Prop}{E:Value->Shared->Prop}{np:Pos}(B:Base c)(R:c.R Z lk s.heap ads σ)(V:bK c C env ρ Z ads σ s.heap)(hk:C.names.lookup id=some .globalImplicit)(hg:c.gl id=none)(hb:bootBuiltins id=some v)(hn:id≠"__name__") (hd:(id==("__debug__":Str))=false) (k:Q v s):wpAny (model c.prog c.w) A (eval (.Name id np) env) Q E s:=by
 refine wpAny_Name ?_ hd;rw[loadName_read V.kind (by unfold Env.kindOf;rw[V.names];exact hk)];refine aF (B.b) λmb h1 h2=>?_;refine Calls.loadGlobal_builtin (mg:=c.gl) (mb:=mb) ?_ hg ?_ ((h2 id hn).trans hb) k
 ·rw[V.globals];exact B.g.keeps R.keep
 ·rw[V.builtins];exact h1.keeps R.keep
theorem KQ {env:Env}{ρ:Loc}{id:Str}{v:Value}{Q:Value->Shared->Prop}{E:Value->Shared->Prop}{np:Pos}(B:Base c)(R:c.R Z lk s.heap ads σ)(V:bK c C env ρ Z ads σ s.heap)(hk:C.names.lookup id=some .globalImplicit)(hg:c.gl id=some v)(hd:(id==("__debug__":Str))=false) (k:Q v s):wpAny (model c.prog c.w) A (eval (.Name id np) env) Q E s:=by
 refine wpAny_Name ?_ hd;rw[loadName_read V.kind (by unfold Env.kindOf;rw[V.names];exact hk)];refine Calls.loadGlobal_global (mg:=c.gl) ?_ hg k;rw[V.globals];exact B.g.keeps R.keep
theorem qc7 {b:B}{pos:Pos}{es:List Expr}{env:Env}{Q:Value->Shared->Prop}{E:Value->Shared->Prop}{M:Model}(hs:j4 es=true)(h:wpAny M A (spliced (backTo pos (starEach es env))) (λvs s'=>wpAny M A (call (xP b) vs) Q E s') E s):wpAny M A (callWith pos (xP b) [] (backTo pos (starEach es env)) []) Q E s:=by
 have hp:=uC (env:=env) (pos:=pos) hs;cases b <;> first|exact Calls.callWith_builtin hp (rH hs h)|exact PyProof.Rows.callWith_type hp (rH hs h)
theorem qjl {F:aU}{b:B}{xs:List E}{es:List Expr}{id:Str}{np pos:Pos}(B0:Base c)(SL:jT c n C es (evs F xs))(hs:j4 es=true)(hk:C.names.lookup id=some .globalImplicit)(hg:c.gl id=none)(hb:bootBuiltins id=some (xP b))(hn:id≠"__name__") (hd:(id==("__debug__":Str))=false) :
  bL c n C (.Call (.Name id np) es [] pos) (ev F (.bi b xs)) :=
 λA Z lk s ads ρ σ env d σ' hf hA R V=>aZ hf λl σ1 h1 h2 Q E k=>wpAny_Call_NameR (qav B0 R V hk hg hb hn hd (qc7 hs (SL A Z lk s ads ρ σ env l σ1 pos h1 hA R V _ _ λvs s1 aN x1 R1 r1 =>
  qc2 B0 hA R1 r1 h2 _ _ λv s2 bT x2 R2 r2=>k v s2 bT (x1.trans x2) R2 r2)))
noncomputable def mH (c:bJ)(n:Nat)(F:w6):Prop :=
 ∀(f:Nat) (args:List D) (σ:Store) (d:D) (σ':Store),F f args σ=some (d,σ')->∀fa,c.X.fv f=some fa->∀(A:Around) (Z:List Addr) (lk:Nat->Nat) (s:Shared) (ads:aY) (vals:List Value) (fr:List Env),GP A n fr->FF s.heap c.h₀ fr->(∀a,a∈fr.filterMap (·.frame)->¬bH ads σ a) ->
  c.R Z lk s.heap ads σ->c.PL Z ads σ s.heap args vals->∀R:Result->Shared->Prop,(∀v s' aG,Ext Z ads σ s aG σ' s'->c.R Z lk s'.heap aG σ'->c.P Z aG σ' s'.heap d v->R (.ok (.ret v)) s') ->
  codeAny (model c.prog c.w) A (.call (.ref fa) ⟨vals,[]⟩) R s
theorem xR {fa:Addr}{pos:Pos}{es:List Expr}{env:Env}{first:List Value}{Q:Value->Shared->Prop}{E:Value->Shared->Prop}(B0:Base c)(R:c.R Z lk s.heap ads σ)(hk:keepIn c.K (.ref fa)=true)(hs:j4 es=true)(h:wpAny (model c.prog c.w) A (spliced (backTo pos (starEach es env))) (λvs s'=>c.K.In s'.heap/\wpAny (model c.prog c.w) A (call (.ref fa) (first++vs)) Q E s') E s) :
  wpAny (model c.prog c.w) A (callWith pos (.ref fa) first (backTo pos (starEach es env)) []) Q E s:=by
 have X:c.K.In s.heap:=λa o e=>R.keep a o (B0.K a o e);have hp:=uC (env:=env) (pos:=pos) hs;refine callWith_of (P:=c.K.In) (by rw[hp];rfl) (keeps_K hk) ?_;refine rH hs (wpAny_mono h (λvs s' h'=>h') λ_ _ e=>e)
theorem qjp {F:aU}{f:Nat}{fa:Addr}{xs:List E}{es:List Expr}{id:Str}{np pos:Pos}(B0:Base c)(FO:mH c n F.F)(SL:jT c n C es (evs F xs))(hs:j4 es=true)(hk:C.names.lookup id=some .globalImplicit)(hg:c.gl id=some (.ref fa))(YD:c.X.fv f=some fa)(hd:(id==("__debug__":Str))=false) :
  bL c n C (.Call (.Name id np) es [] pos) (ev F (.call f xs)) :=
 λA Z lk s ads ρ σ env d σ' hf hA R V=>aZ hf λl σ1 h1 h2 Q E k=>wpAny_Call_NameR (KQ B0 R V hk hg hd (xR B0 R (B0.fnK f fa YD) hs (SL A Z lk s ads ρ σ env l σ1 pos h1 hA R V _ _ λvs s1 aN x1 R1 r1 =>
  ⟨λa o e=>R1.keep a o (B0.K a o e),wpAny_call (FO f l σ1 d σ' h2 fa YD A Z lk s1 aN vs C.fr hA.toF (V.ext x1).frs (V.ext x1).frn R1 r1 _ λv s2 bT x2 R2 r2=>k v s2 bT (x1.trans x2) R2 r2)⟩)))
theorem yW {es:List Expr}{env:Env}{pos:Pos}(hs:j4 es=true)(hl:es.length<20):((backTo pos (starEach es env)).all (λx=>!x.1)&&(backToKw pos (keywordEach [] env)).all (λx=>x.1.isSome)
   && decide (es.length+([]:List Keyword).length+(if ([]:List Keyword).isEmpty then 0 else 1)<30))=true:=by
 have:=uC (env:=env) (pos:=pos) hs;rw[List.any_eq_false]at this;simp only[and_eq_true,all_eq_true];exact⟨⟨λx hx=>by simpa using this x hx,λx hx=>absurd (show x∈[] from hx) not_mem_nil⟩,decide_eq_true (by simp;exact ltN (aK 0x001e910149f0a1 rfl hl))⟩
noncomputable def GK (s:Shared)(ov:Value)(T:String):Prop:=s.TypeIs ov T/\∀a,ov=.ref a->∃ob,s.heap.get? a=some ob/\ob.dict=none
theorem PJ {a:Addr}{ob:Obj}{T:String}(h1:s.heap.get? a=some ob)(h2:ob.cls=.type T)(h3:ob.dict=none):GK s (.ref a) T:=⟨⟨_,h1,h2⟩,λb q=>Value.ref.inj q▸⟨ob,h1,h3⟩⟩
theorem qih {o:D}{ov:Value}(R:c.R Z lk s.heap ads σ)(ro:c.P Z ads σ s.heap o ov)(e:(asList σ o).isSome=true):GK s ov "list" :=
 elim (isSome_iff_exists.mp e) λl e=>c7 (jU R ro e) λa vs ha hp _ _=>elim hp λm hp=>ha▸PJ hp rfl rfl
theorem CZ {m:BM}{o:D}{ov:Value}(R:c.R Z lk s.heap ads σ)(ro:c.P Z ads σ s.heap o ov)(hm:wL m σ o=true):GK s ov (vC m):=by
 cases m
 case get=>exact elim (isSome_iff_exists.mp hm) λes e=>lK (RV R ro e) λp kvs k hp hv hd _=>fY hd λob _ _ h1 h2 _=>hv▸PJ h1 h2.1 h2.2.1
 case add =>
  refine elim (isSome_iff_exists.mp hm) λes e=>aJ e λk hk e=>aJ e λx hx e=>?_;rw[kI hk]at ro;rw[NP e]at hx;exact aF ro λp hp hv=>rF (R.objs _ _ _ hp hx).1 λob _ _ _ h1 h2 _=>hv▸PJ h1 h2.1 h2.2.1
 all_goals exact qih R ro hm
theorem qjn {F:aU}{m:BM}{x:E}{xs:List E}{o:Expr}{es:List Expr}{name:Str}{apos pos:Pos}(B0:Base c)(S:bL c n C o (ev F x))(SL:jT c n C es (evs F xs))(hs:j4 es=true)(hl:es.length<20)(ho:∀name env whole,attributeBase o name env whole=whole)(hn:name=TP m)(hline:(apos.endLine==pos.line)=true):bL c n C (.Call (.Attribute o name apos) es [] pos) (ev F (.bmeth x m xs)) :=
 λA Z lk s ads ρ σ env d σ' hf hA R V=>aZ hf λd1 σ1 h1 hf=>xV hf λhr hf=>aZ hf λl σ2 h3 h4 Q E k=>by
  subst hn;exact wpAny_Call_method_late (ho _ _ _) (yW hs hl) hline rfl (S A Z lk s ads ρ σ env d1 σ1 h1 hA R V _ _ λov s1 aN x1 R1 r1 =>
   ⟨vC m,vB m,bm_plain m,TQ m,TV m,(CZ R1 r1 hr).1,(CZ R1 r1 hr).2,Calls.callWith_builtin (uC hs) (rH hs (SL A Z lk s1 aN ρ σ1 env l σ2 pos h3 hA R1 (V.ext x1) _ _ λvs s2 bT x2 R2 r2 =>
    TX B0 (R8 hA.units (le_refl _)) R2 (x2.rep r1) r2 h4 _ _ λv s3 bW x3 R3 r3=>k v s3 bW ((x1.trans x2).trans x3) R3 r3))⟩)
theorem qjv {F:aU}{g:Nat}{d:D}{id:Str}{np:Pos}{v:Value}(B0:Base c)(hg:F.globs g=some d)(hk:C.names.lookup id=some .globalImplicit)(hv:c.gl id=some v)(hr:∀ads W h,Rep c.X ads W h d v)(hd:(id==("__debug__":Str))=false) :
  bL c n C (.Name id np) (ev F (.glob g)) :=
 λA Z lk s ads ρ σ env d' σ' hf hA R V=>aJ hf λd1 h1 hf=>Yields.cast hf λQ E k=>KQ B0 R V hk hv hd (k v s ads Ext.refl R (Option.some.inj (hg.symm.trans h1)▸hr _ _ _))
end
section
variable {c:bJ}{A:Around}{Z:List Addr}{lk:Nat->Nat}{s:Shared}{ads:aY}{σ σ':Store}{n:Nat}{C:SC}{W:Addr->Prop}{h:Heap}
theorem HH {h:Heap}{a:Addr}{ov:Option Value}(x:h.IsCell a ov):∀o,h.get? a=some o->¬Fz o:=by
 refine aF (x) λo ho hd=>?_;intro o' e;rw[ho]at e;cases e;rintro(⟨xs,n,q⟩|⟨_,vs,q⟩) <;> rw[hd]at q <;> cases q
theorem BZ {h:Heap}{a:Addr}{m:Str->Option Value}(x:h.Ns a m):∀o,h.get? a=some o->¬Fz o:=by
 refine fY (x) λo es ep ho hd _=>?_;intro o' e;rw[ho]at e;cases e;rintro(⟨xs,n,q⟩|⟨_,vs,q⟩) <;> rw[hd]at q <;> cases q
noncomputable def dY (env:Env)(a:Addr):Prop:=a=env.locals\/∃x,env.cells.lookup x=some a
theorem qH {ρ:Loc}{i j:Nat}{d d':D}(e:(ρ.set i (some d))[j]?=some (some d')):(j=i/\d'=d)\/(j≠i/\ρ[j]?=some (some d')):=by
 by_cases hj:i=j
 ·subst hj;rw[List.getElem?_set]at e;simp only[if_true]at e;split at e
  ·cases e;exact .inl ⟨rfl,rfl⟩
  ·cases e
 ·rw[getElem?_set_ne hj]at e;exact .inr ⟨λq=>hj q.symm,e⟩
theorem qbQ {env:Env}{ρ:Loc}{C₁:SC}{i:Nat}{x:Str}{d:D}{v:Value}(R:c.R Z lk s.heap ads σ)(V:bK c C env ρ Z ads σ s.heap)(hn:C₁.names=C.names)(hfr:C₁.fr=C.fr)(hco:C₁.comp=C.comp)(hC:∀(j:Nat) (y:Str),C₁.slots.lookup j=some y->(j=i/\y=x)\/(j≠i/\y≠x/\C.slots.lookup j=some y))(hk:C.names.lookup x=some .local\/C.names.lookup x=some .cell)(rv:c.P Z ads σ s.heap d v){Q:Unit->Shared->Prop}{E:Value->Shared->Prop}(k:∀a h' tk,dY env a->(C.names.lookup x=some .cell->env.cells.lookup x=some a)->(C.names.lookup x=some .local->a=env.locals)->(∀b o,b≠a->s.heap.get? b=some o->h'.get? b=some o)->c.R Z lk h' ads σ->bK c C₁ env (ρ.set i (some d)) Z ads σ h'->Q () {s with heap:=h',toks:=tk}) :
  wpAny (model c.prog c.w) A (storeName env x v) Q E s:=by
 have hrep:∀{h':Heap} {a:Addr},¬bH ads σ a->(∀o,s.heap.get? a=some o->¬Fz o)->(∀b o,b≠a->s.heap.get? b=some o->h'.get? b=some o)->∀{d v},c.P Z ads σ s.heap d v->c.P Z ads σ h' d v :=
  λ{h' a} ha hz hk {d v} r=>Rep.mono (Sub.refl _) (λb o _ hf e=>hk b o (λq=>hz o (q▸e) hf) e) (λ_ _ _ x=>x) d v r
 rcases hk with hk|hk
 ·refine aF (V.ns) λm hm hv=>?_;refine wpAny_storeName_local (by unfold Env.kindOf;rw[V.names];exact hk) hm (λh' hn' hs=>?_) (by rw[V.kind];rfl);have hkeep:∀b o,b≠env.locals->s.heap.get? b=some o->h'.get? b=some o:=λb o hb e=>(hs.2 b hb).trans e;have hz:=BZ hm;have hh:Heap.Has h' env.locals:=vK (hn') λo _ _ e _=>⟨o,e⟩;have hcl:∀y a ov,env.cells.lookup y=some a->s.heap.IsCell a ov->h'.IsCell a ov:=by
   intro y a ov ha ⟨o,ho,hd⟩;refine⟨o,hkeep a o (λq=>?_) ho,hd⟩;refine fY (hm) λo' _ _ ho' hd' _=>?_;rw[<-q,ho]at ho';cases ho';rw[hd]at hd';cases hd'
  refine k env.locals h' _ (.inl rfl) (λq=>by rw[hk]at q;cases q) (λ_=>rfl) hkeep (R.quiet (λb=>b=env.locals) (λb o hb e=>hkeep b o hb e) λb hb=>⟨hb▸V.lown.1,hb▸V.lown.2,hb▸hz,.inr (hb▸hh)⟩) ?_;have hR:=@hrep h' env.locals V.lown.1 hz hkeep;refine⟨V.kind,V.names.trans hn.symm,V.globals,V.builtins,⟨_,hn',λj y d' a b e=>?_⟩,λy b=>?_,λj y d' a b e q l=>?_,V.apart,V.lown,λy a e=>⟨(V.cown y a e).1,(V.cown y a e).2.1,?_⟩,hfr▸pR V.frs (λb _ o e hnf=>?_),hfr▸V.frn,λq=>hfr▸V.hd (hco▸q)⟩
  ·rcases hC j y a with ⟨rfl,rfl⟩|⟨h1,h2,h3⟩
   ·rcases qH e with ⟨_,rfl⟩|⟨h1,_⟩
    ·exact⟨v,by simp,hR rv⟩
    ·exact absurd rfl h1
   ·rcases qH e with ⟨h4,_⟩|⟨_,h4⟩
    ·exact absurd h4 h1
    ·refine aF (hv j y d' h3 (hn▸b) h4) λv' p q=>?_;exact⟨v',by rw[if_neg h2];exact p,hR q⟩
  ·refine fM (V.has y (hn▸b)) λa ov h1 h2=>?_;exact⟨a,ov,h1,hcl y a ov h1 h2⟩
  ·rcases hC j y b with ⟨rfl,rfl⟩|⟨h1,h2,h3⟩
   ·rw[hn,hk]at e;cases e
   ·rcases qH q with ⟨h4,_⟩|⟨_,h4⟩
    ·exact absurd h4 h1
    ·refine aF (V.cell j y d' a h3 (hn▸e) h4 l) λv' p q=>?_;exact⟨v',hcl y a _ l p,hR q⟩
  ·obtain⟨_,_,ov,o,ho,hd⟩:=V.cown y a e;refine⟨ov,o,hkeep a o (λq=>?_) ho,hd⟩;refine fY (hm) λo' _ _ ho' hd' _=>?_;rw[<-q,ho]at ho';cases ho';rw[hd]at hd';cases hd'
  ·by_cases hb:b=env.locals
   ·refine fY (hn') λo' _ _ ho' hd' _=>?_;exact⟨o',hb▸ho',_,_,hd'⟩
   ·exact⟨o,hkeep b o hb e,hnf⟩
 ·refine fM (V.has x hk) λa ov h1 h2=>?_;refine wpAny_storeName_cell V.kind (by unfold Env.kindOf;rw[V.names];exact hk) h1 h2 (λh' hc hs=>?_);have hkeep:∀b o,b≠a->s.heap.get? b=some o->h'.get? b=some o:=λb o hb e=>(hs.2 b hb).trans e;have hz:=HH h2;have hh:Heap.Has h' a:=aF (hc) λo e _=>⟨o,e⟩;have ha:=V.cown x a (mem_of_lookup h1);have hR:=@hrep h' a ha.1 hz hkeep;have YZ:∀y b,env.cells.lookup y=some b->y≠x->b≠a:=λy b hy hyx q=>by
   subst q;exact hyx (name_of_addr V.apart (mem_of_lookup hy) (mem_of_lookup h1))
  refine k a h' _ (.inr ⟨x,h1⟩) (λ_=>h1) (λq=>by rw[hk]at q;cases q) hkeep (R.quiet (λb=>b=a) (λb o hb e=>hkeep b o hb e) λb hb=>⟨hb▸ha.1,hb▸ha.2.1,hb▸hz,.inr (hb▸hh)⟩) ?_;refine⟨V.kind,V.names.trans hn.symm,V.globals,V.builtins,?_,λy b=>?_,λj y d' a' b e q l=>?_,V.apart,V.lown,λy b e=>⟨(V.cown y b e).1,(V.cown y b e).2.1,?_⟩,hfr▸pR V.frs (λb _ o e hnf=>?_),hfr▸V.frn,λq=>hfr▸V.hd (hco▸q)⟩
  ·refine aF (V.ns) λm hm hv=>?_;have hla:env.locals≠a:=λq=>by
    refine fY (hm) λo _ _ ho hd _=>?_;refine aF (h2) λo' ho' hd'=>?_;rw[q,ho']at ho;cases ho;rw[hd']at hd;cases hd
   refine⟨m,hm.sameBut hs hla,λj y d' a' b e=>?_⟩;rcases hC j y a' with ⟨rfl,rfl⟩|⟨h3,h4,h5⟩
   ·rw[hn,hk]at b;cases b
   ·rcases qH e with ⟨h6,_⟩|⟨_,h6⟩
    ·exact absurd h6 h3
    ·refine aF (hv j y d' h5 (hn▸b) h6) λv' p q=>?_;exact⟨v',p,hR q⟩
  ·by_cases hy:y=x
   ·subst hy;exact⟨a,_,h1,hc⟩
   ·refine fM (V.has y (hn▸b)) λb' ov' h3 h4=>?_;refine aF (h4) λo ho hd=>?_;exact⟨b',ov',h3,⟨o,hkeep b' o (YZ y b' h3 hy) ho,hd⟩⟩
  ·rcases hC j y b with ⟨rfl,rfl⟩|⟨h3,h4,h5⟩
   ·rcases qH q with ⟨_,rfl⟩|⟨h6,_⟩
    ·rw[h1]at l;cases l;exact⟨v,hc,hR rv⟩
    ·exact absurd rfl h6
   ·rcases qH q with ⟨h6,_⟩|⟨_,h6⟩
    ·exact absurd h6 h3
    ·refine aF (V.cell j y d' a' h5 (hn▸e) h6 l) λv' qp1 q=>?_;obtain⟨o,ho,hd⟩:=qp1;exact⟨v',⟨o,hkeep a' o (YZ y a' l h4) ho,hd⟩,hR q⟩
  ·by_cases hb:b=a
   ·rw[hb];exact⟨_,hc⟩
   ·obtain⟨_,_,ov,o,ho,hd⟩:=V.cown y b e;exact⟨ov,o,hkeep b o hb ho,hd⟩
  ·by_cases hb:b=a
   ·subst hb;refine aF (h2) λo' ho' hd'=>?_;refine fD (hnf) λes ep z=>?_;rw[ho']at e;cases e;rw[hd']at z;cases z
   ·exact⟨o,hkeep b o hb e,hnf⟩
end
structure b8 (Y:Addr->Prop) (ads:aY) (σ:Store) (s:Shared) (aG:aY) (σ':Store) (s':Shared):Prop where
 pre:∃r,aG=ads++r
 kept:∀b o,¬bH ads σ b->¬Y b->s.heap.get? b=some o->∃o',s'.heap.get? b=some o'/\SO o o'
 has:∀b,Heap.Has s.heap b->Heap.Has s'.heap b
 own:∀b,bH aG σ' b->bH ads σ b\/s.heap.get? b=none
 rest:∃h tk,s'={s with heap:=h,toks:=tk}
namespace b8
variable {Y:Addr->Prop}{Z:List Addr}{ads aG pI:aY}{σ σ' nG:Store}{s s' s'':Shared}
theorem of_ext (x:Ext Z ads σ s aG σ' s')(hY:∀b,Y b->¬bH ads σ b):b8 Y ads σ s aG σ' s':=⟨x.pre,λb o h _ e=>x.kept b o h e,x.has,x.own,x.rest⟩
theorem sub (x:b8 Y ads σ s aG σ' s'):Sub ads aG:=by obtain⟨r,rfl⟩:=x.pre;exact Sub.append _ _
theorem notOwned (x:b8 Y ads σ s aG σ' s'){b:Addr}(hn:¬bH ads σ b)(hb:Heap.Has s.heap b):¬bH aG σ' b:=λe=>by
 obtain⟨o,hb⟩:=hb;rcases x.own b e with e|e
 ·exact hn e
 ·rw[hb]at e;cases e
theorem trans (x:b8 Y ads σ s aG σ' s')(y:b8 Y aG σ' s' pI nG s''):b8 Y ads σ s pI nG s'':=by
 refine⟨?_,λb o hn hy e=>?_,λb e=>y.has b (x.has b e),λb e=>?_,?_⟩
 ·obtain⟨r,rfl⟩:=x.pre;obtain⟨q,rfl⟩:=y.pre;exact⟨r++q,by simp⟩
 ·exact SO.then (x.kept b o hn hy e) λo' e'=>y.kept b o' (x.notOwned hn ⟨o,e⟩) hy e'
 ·rcases y.own b e with e|e
  ·exact x.own b e
  ·by_cases hb:bH ads σ b
   ·exact .inl hb
   ·refine .inr ?_;cases hs:s.heap.get? b with
    | none=>rfl
    | some o =>
     obtain⟨o',q⟩:=x.has b ⟨o,hs⟩;rw[e]at q;cases q
 ·refine fD (x.rest) λh tk qe2=>?_;subst qe2;refine fD (y.rest) λh' tk' qe3=>?_;subst qe3;exact⟨h',tk',rfl⟩
theorem refl:b8 Y ads σ s ads σ s:=⟨⟨[],by simp⟩,λ_ _ _ _ e=>SO.of e,λ_ e=>e,λ_ e=>.inl e,⟨s.heap,s.toks,rfl⟩⟩
theorem one {a:Addr}{h:Heap}{tk:Nat}(hk:∀b o,b≠a->s.heap.get? b=some o->h.get? b=some o)(hy:Y a)(hh:Heap.Has h a):b8 Y ads σ s ads σ {s with heap:=h,toks:=tk} :=
 ⟨⟨[],by simp⟩,λb o _ y e=>SO.of (hk b o (λq=>y (q▸hy)) e),λb e=>by
  by_cases q:b=a
  ·rw[q];exact hh
  ·exact e.kept λo=>hk b o q,λ_ e=>.inl e,⟨h,tk,rfl⟩⟩
theorem mono {Y':Addr->Prop}(x:b8 Y ads σ s aG σ' s')(h:∀b,Y b->Y' b)(h2:∀b,Y' b->¬bH ads σ b):b8 Y' ads σ s aG σ' s' :=
 ⟨x.pre,λb o hn hy e=>x.kept b o hn (λq=>hy (h b q)) e,x.has,x.own,x.rest⟩
theorem rep {X:Txt}{d:D}{v:Value}(x:b8 Y ads σ s aG σ' s')(hY:∀b o,Y b->s.heap.get? b=some o->Fz o->WW Z ads σ b)(r:Rep X ads (WW Z ads σ) s.heap d v):Rep X aG (WW Z aG σ') s'.heap d v:=by
 refine Rep.mono x.sub (λa o hw hz e=>SO.ex (x.kept a o (λq=>hw (.inr q)) (λq=>hw (hY a o q e hz)) e) hz.nd) (λa o e hw=>?_) d v r;rcases hw with hw|hw
 ·exact .inl hw
 ·rcases x.own a hw with q|q
  ·exact .inr q
  ·rw[e]at q;cases q
theorem repL {X:Txt}{d:List D}{v:List Value}(x:b8 Y ads σ s aG σ' s')(hY:∀b o,Y b->s.heap.get? b=some o->Fz o->WW Z ads σ b)(r:aX X ads (WW Z ads σ) s.heap d v):aX X aG (WW Z aG σ') s'.heap d v:=by
 refine aX.mono x.sub (λa o hw hz e=>SO.ex (x.kept a o (λq=>hw (.inr q)) (λq=>hw (hY a o q e hz)) e) hz.nd) (λa o e hw=>?_) d v r;rcases hw with hw|hw
 ·exact .inl hw
 ·rcases x.own a hw with q|q
  ·exact .inr q
  ·rw[e]at q;cases q
end b8
noncomputable def O.locked:O->Bool
 | .llist _=>true
 | .ldict _=>true
 | _=>false
noncomputable def Lk (σ σ':Store):Prop:=∀(k:Nat) (o:O),σ[k]?=some o->o.locked=true->σ'[k]?=some o
theorem Lk.refl (σ:Store):Lk σ σ:=λ_ _ e _=>e
theorem Lk.trans {a b c:Store}(x:Lk a b)(y:Lk b c):Lk a c:=λk o e h=>y k o (x k o e h) h
theorem Lk.append (σ r:Store):Lk σ (σ++r):=λk o e _=>by
 have hk:k<σ.length:=(List.getElem?_eq_some_iff.mp e).1;rw[getElem?_append_left hk];exact e
theorem Lk.set {σ:Store}{k:Nat}{o o':O}(h:σ[k]?=some o)(hl:o.locked=false):Lk σ (σ.set k o'):=λj x e hx=>by
 by_cases hj:k=j
 ·subst hj;rw[h]at e;cases e;rw[hl]at hx;cases hx
 ·rw[getElem?_set_ne hj];exact e
noncomputable def fB (F:w6):Prop:=∀f args σ d σ',F f args σ=some (d,σ')->Lk σ σ'
noncomputable def bF {α:Type}(σ:Store)(st:α->Store)(m:Option α):Prop:=∀a,m=some a->Lk σ (st a)
section
variable {α β:Type}{σ:Store}{st:α->Store}
theorem bF.bind {st':β->Store}{m:Option α}{f:α->Option β}(x:bF σ st m)(y:∀a,bF (st a) st' (f a)):bF σ st' (m.bind f):=λb e=>aJ e λa h1 h2=>(x a h1).trans (y a b h2)
theorem bF.gd {γ:Type}{m:Option γ}{f:γ->Option α}(y:∀a,bF σ st (f a)):bF σ st (m.bind f):=λb e=>aJ e λa _ h2=>y a b h2
theorem bF.gd' {γ:Type}{m:Option γ}{f:γ->Option α}(y:∀a,m=some a->bF σ st (f a)):bF σ st (m.bind f):=λb e=>aJ e λa h1 h2=>y a h1 b h2
theorem bF.some {a:α}(x:Lk σ (st a)):bF σ st (some a):=λb e=>Option.some.inj e▸x
theorem bF.none:bF σ st .none:=λb e=>bO e
theorem bF.cond {t:Bool}{a b:Option α}(x:bF σ st a)(y:bF σ st b):bF σ st (bif t then a else b):=by cases t;exact y;exact x
theorem bF.ite {p:Prop}[Decidable p]{a b:Option α}(x:bF σ st a)(y:bF σ st b):bF σ st (if p then a else b):=by split;exact x;exact y
theorem bF.arg1 {args:List D}{f:D->Option α}(x:∀d,bF σ st (f d)):bF σ st (Internal.arg1 args f):=by
 rcases args with _|⟨a,_|⟨_,_⟩⟩ <;> first|exact x _|exact bF.none
theorem bF.arg2 {args:List D}{f:D->D->Option α}(x:∀d e,bF σ st (f d e)):bF σ st (Internal.arg2 args f):=by
 rcases args with _|⟨a,_|⟨b,_|⟨_,_⟩⟩⟩ <;> first|exact x _ _|exact bF.none
theorem bF.arg0 {args:List D}{f:Option α}(x:bF σ st f):bF σ st (Internal.arg0 args f):=by
 cases args <;> first|exact x|exact bF.none
end
noncomputable abbrev s2 {α:Type}:α×Store->Store:=λp=>p.2
noncomputable abbrev s3 {α β:Type}:α×β×Store->Store:=λp=>p.2.2
theorem qf0 {b:B}{σ:Store}{args:List D}:bF σ s2 (mQ b σ args):=by
 cases b
 case abs=>exact .arg1 λ_=>.gd λ_=>.some (.refl _)
 case len=>exact .arg1 λ_=>.gd λ_=>.some (.refl _)
 case range=>exact .gd λ_=>.ite (.some (.refl _)) .none
 case sorted=>exact .arg1 λ_=>.gd λ_=>.ite (.gd λ_=>.some (.refl _)) .none
 case sum=>exact .arg1 λ_=>.gd λ_=>.gd λ_=>.some (.refl _)
 case min=>exact .arg1 λ_=>.gd λ_=>.gd λ_=>.gd λ_=>.some (.refl _)
 case divmod=>exact .arg2 λ_ _=>.gd λ_=>.gd λ_=>.ite (.some (.refl _)) .none
 case list=>exact .arg1 λ_=>.gd λ_=>.some (.append _ _)
 case tuple=>exact .arg1 λ_=>.gd λ_=>.some (.refl _)
 case bool=>exact .arg1 λ_=>.gd λ_=>.some (.refl _)
 case iter=>exact .arg1 λ_=>.gd λ_=>.gd λ_=>.some (.append _ _)
 case set=>exact .arg0 (.some (.append _ _))
theorem wB {σ:Store}{o:D}{f:List D->Option (D×List D)}:bF σ s2 (lX σ o f) :=
 .gd λk=>.gd' λl hl=>.gd λp=>.some (aJ hl λo ho hl=>.set ho (uE hl▸rfl))
theorem qf1 {m:BM}{σ:Store}{o:D}{args:List D}:bF σ s2 (bmeth m σ o args):=by
 cases m
 case append=>exact .arg1 λ_=>wB
 case extend=>exact .arg1 λ_=>.gd λ_=>wB
 case index=>exact .arg1 λ_=>.gd λ_=>.gd λ_=>.some (.refl _)
 case count=>exact .arg1 λ_=>.gd λ_=>.gd λ_=>.some (.refl _)
 case pop =>
  cases args
  case nil=>exact wB
  case cons=>exact .arg0 (.gd λ_=>wB)
 case clear=>exact .arg0 wB
 case get=>exact .arg1 λ_=>.gd λ_=>.gd λ_=>.some (.refl _)
 case add=>exact .arg1 λ_=>.gd λ_=>.gd λ_=>.gd' λes hl=>.ite (.some (aJ hl λo ho hl=>.set ho (NP hl▸rfl))) .none
theorem qhc {i:Int}{v:D}{x y:O}(e:CW i v x=some y):x.locked=false:=by
 cases x <;> first|rfl|exact bO e
theorem qf6 {σ:Store}{o i v:D}:bF σ id (setItem σ o i v) :=
 .gd λ_=>.gd λ_=>.gd' λx hx=>.gd' λy hy=>.some (.set hx (qhc hy))
theorem qaq {σ:Store}{o v:D}{a:Nat}:bF σ id (setAttr σ o a v) :=
 .gd λ_=>.gd' λp hl=>.ite (.some (aJ hl λo ho hl=>.set ho (CN hl▸rfl))) .none
theorem qap {f:D->Store->Option (List D×Store)}(hf:∀d σ,bF σ s2 (f d σ)):∀(l:List D) (σ:Store),bF σ s2 (j6 f l σ)
 | []=>λ_=>.some (.refl _)
 | d::ds=>λσ=>(hf d σ).bind λp=>(qap hf ds p.2).bind λq=>.some (.refl _)
theorem qki {o o':O}(e:G4 o=some o'):o.locked=true/\o'.locked=false:=by cases o <;> first|exact bO e|exact⟨rfl,Option.some.inj e▸rfl⟩
theorem Lk.lockD {σ σ1 σ2:Store}{k:Nat}{o o':O}(h:σ[k]?=some o)(hl:o.locked=false)(x:Lk (σ.set k o') σ1)(y:unlock σ1 k=some σ2):Lk σ σ2:=λj q e hq=>by
 have hj:k≠j:=λz=>by subst z;rw[h]at e;cases e;rw[hl]at hq;cases hq
 refine aJ y λu _ y=>?_;rw[<-Option.some.inj y,getElem?_set_ne hj];exact x j q (by rw[getElem?_set_ne hj];exact e) hq
theorem ZR {σ σ1:Store}{d:D}{l:List D}{u:Option Nat}{H:Prop}(e:K4 σ d=some (l,σ1,u))(k1:treeOf d=some l->σ1=σ->u=.none->H)(k2:∀k,d=.ref k->σ[k]?=some (.list l)->σ1=σ.set k (.llist l)->u=some k->H):H:=by
 cases d
 case list=>exact sm3 e λe1 e2 e3=>k1 (congrArg some e1) e2.symm e3.symm
 case tup=>exact sm3 e λe1 e2 e3=>k1 (congrArg some e1) e2.symm e3.symm
 case rng=>exact sm3 e λe1 e2 e3=>k1 (congrArg some e1) e2.symm e3.symm
 case ref k=>exact aJ e λl' h e=>aJ h λo ho hl=>sm3 e λe1 e2 e3=>k2 k rfl (by rw[ho,uE hl,e1]) (by rw[<-e2,e1]) e3.symm
 all_goals exact bO e
mutual
theorem cD {X:aU}(hF:fB X.F):∀(x:E) (ρ:Loc) (σ:Store),bF σ s2 (ev X x ρ σ)
 | .var _=>λ_ _=>.gd λ_=>.some (.refl _)
 | .glob _=>λ_ _=>.gd λ_=>.some (.refl _)
 | .none=>λ_ _=>.some (.refl _)
 | .bool _=>λ_ _=>.some (.refl _)
 | .int _=>λ_ _=>.some (.refl _)
 | .bin op a b=>λρ σ=>(cD hF a ρ σ).bind λp=>(cD hF b ρ p.2).bind λq=>.gd λ_=>.some (.refl _)
 | .neg a=>λρ σ=>(cD hF a ρ σ).bind λp=>.gd λ_=>.some (.refl _)
 | .not a=>λρ σ=>(cD hF a ρ σ).bind λp=>.gd λ_=>.some (.refl _)
 | .cmp op a b=>λρ σ=>(cD hF a ρ σ).bind λp=>(cD hF b ρ p.2).bind λq=>.gd λ_=>.some (.refl _)
 | .and a b=>λρ σ=>(cD hF a ρ σ).bind λp=>.gd λ_=>.cond (cD hF b ρ p.2) (.some (.refl _))
 | .or a b=>λρ σ=>(cD hF a ρ σ).bind λp=>.gd λ_=>.cond (.some (.refl _)) (cD hF b ρ p.2)
 | .ite x a b=>λρ σ=>(cD hF x ρ σ).bind λp=>.gd λ_=>.cond (cD hF a ρ p.2) (cD hF b ρ p.2)
 | .list m es=>λρ σ=>(n6 hF es ρ σ).bind λp=>.gd λ_=>.cond (.some (.append _ _)) (.some (.refl _))
 | .tup es=>λρ σ=>(n6 hF es ρ σ).bind λp=>.ite (.some (.refl _)) .none
 | .dict0=>λ_ _=>.some (.append _ _)
 | .call f args=>λρ σ=>(n6 hF args ρ σ).bind λp=>λq e=>hF _ _ _ _ _ e
 | .new c args=>λρ σ=>(n6 hF args ρ σ).bind λp=>bF.bind (st:=s2) (λq e=>(Lk.append _ _).trans (hF _ _ _ _ _ e)) λq=>.some (.refl _)
 | .bi b args=>λρ σ=>(n6 hF args ρ σ).bind λp=>qf0
 | .callv f args=>λρ σ=>(cD hF f ρ σ).bind λp=>(n6 hF args ρ p.2).bind λq=>.gd λ_=>λq e=>hF _ _ _ _ _ e
 | .umeth o f args=>λρ σ=>(cD hF o ρ σ).bind λp=>.cond ((n6 hF args ρ p.2).bind λq=>λq e=>hF _ _ _ _ _ e) .none
 | .bmeth o m args=>λρ σ=>(cD hF o ρ σ).bind λp=>.cond ((n6 hF args ρ p.2).bind λq=>qf1) .none
 | .star x=>λρ σ=>.none
 | .attr o a=>λρ σ=>(cD hF o ρ σ).bind λp=>.gd λ_=>.some (.refl _)
 | .nextOf o=>λρ σ=>(cD hF o ρ σ).bind λp=>.gd λ_=>.gd λ_=>.ite (.some (.append _ _)) .none
 | .idx o i=>λρ σ=>(cD hF o ρ σ).bind λp=>(cD hF i ρ p.2).bind λq=>.gd λ_=>.some (.refl _)
 | .slice o lo hi=>λρ σ=>(cD hF o ρ σ).bind λp=>(qao hF lo ρ p.2).bind λq=>(qao hF hi ρ q.2).bind λr=>.gd λ_=>.gd λ_=>.some (.refl _)
 | .comp m elt gens=>λρ σ=>(KJ hF gens (λρ σ=>cD hF elt ρ σ) ρ σ).bind λp=>.gd λ_=>.cond (.some (.append _ _)) (.some (.refl _))
theorem n6 {X:aU}(hF:fB X.F):∀(xs:List E) (ρ:Loc) (σ:Store),bF σ s2 (evs X xs ρ σ)
 | []=>λρ σ=>.some (.refl _)
 | x::xs=>λρ σ=>by
  cases hx:isStar x
  ·rw[WN hx];exact(cD hF x ρ σ).bind λp=>(n6 hF xs ρ p.2).bind λq=>.some (.refl _)
  ·cases x <;> first|exact Bool.noConfusion hx|skip
   exact(cD hF _ ρ σ).bind λp=>.gd λ_=>(n6 hF xs ρ p.2).bind λq=>.some (.refl _)
theorem qao {X:aU}(hF:fB X.F):∀(x:Option E) (ρ:Loc) (σ:Store),bF σ s2 (rI X x ρ σ)
 | .none=>λρ σ=>.some (.refl _)
 | some x=>λρ σ=>(cD hF x ρ σ).bind λp=>.some (.refl _)
theorem KH {X:aU}(hF:fB X.F):∀(xs:List E) (ρ:Loc) (σ:Store),bF σ s2 (gJ X xs ρ σ)
 | []=>λρ σ=>.some (.refl _)
 | x::xs=>λρ σ=>(cD hF x ρ σ).bind λp=>.gd λ_=>.cond (KH hF xs ρ p.2) (.some (.refl _))
theorem qf2 {X:aU}(hF:fB X.F):∀(x:It) (ρ:Loc) (σ:Store) {σ1 σ2 σ':Store} {l:List D} {u:Option Nat},kJ X x ρ σ=some (l,σ1,u)->Lk σ1 σ2->G5 σ2 u=some σ'->Lk σ σ'
 | .e x=>λρ σ {σ1} {σ2} {σ'} {l} {u} e h h2=>aJ e λp h1 e=>ZR e (λ_ e2 e3=>by
  subst e2;subst e3;exact((cD hF x ρ σ p h1).trans h).trans (Option.some.inj h2▸.refl _)) λk _ hx e2 e3=>by
  subst e2;subst e3;exact(cD hF x ρ σ p h1).trans (Lk.lockD hx rfl h h2)
 | .zip a b=>λρ σ {σ1} {σ2} {σ'} {l} {u} e h h2=>aJ e λp h1 e=>aJ e λq h3 e=>aJ e λ_ _ e=>aJ e λ_ _ e=>sm3 e λ_ e2 e3=>by
  subst e2;subst e3;exact(((cD hF a ρ σ p h1).trans (cD hF b ρ p.2 q h3)).trans h).trans (Option.some.inj h2▸.refl _)
 | .vals o=>λρ σ {σ1} {σ2} {σ'} {l} {u} e h h2=>aJ e λp h1 e=>aJ e λk _ e=>aJ e λes hl e=>aJ hl λx hx hl=>sm3 e λ_ e2 e3=>by
  subst e2;subst e3;exact(cD hF o ρ σ p h1).trans (Lk.lockD hx (CK hl▸rfl) h h2)
theorem KJ {X:aU}(hF:fB X.F):∀(gs:List G) {fe:Loc->Store->Option (D×Store)},(∀ρ σ,bF σ s2 (fe ρ σ))->∀(ρ:Loc) (σ:Store),bF σ s2 (nU X gs fe ρ σ)
 | [],fe,hfe,ρ,σ=>(hfe ρ σ).bind λp=>.some (.refl _)
 | .mk ts wV it ifs::gs,fe,hfe,ρ,σ=>λr e=>iQ e λl σ1 u h1 e=>aZ e λrs σ2 h2 e=>aJ e λσ3 h3 e=>by
  rw[<-Option.some.inj e];exact qf2 hF it ρ σ h1 (qap (λd σ=>.gd λρ'=>(KH hF ifs ρ' σ).bind λq=>.cond (KJ hF gs hfe ρ' q.2) (.some (.refl _))) l σ1 _ h2) h3
end
inductive dB (c:bJ) (Z:List Addr) (lk:Nat->Nat) (ads:aY) (σ:Store) (h:Heap) (I:Addr):List D->Prop
 | list {l:Addr} {vs:List Value} {i:Nat} {ds:List D}:h.IsListIter I l i->h.PlainList l (toArray vs)->¬WW Z ads σ l->c.PL Z ads σ h ds (vs.drop i)->dB c Z lk ads σ h I ds
 | tup {t:Addr} {vs:List Value} {i m:Nat} {ds:List D}:h.IsTupleIter I t i->h.get? t=some {cls:=.type "tuple",data:=.seq (toArray vs) m}->¬WW Z ads σ t->c.PL Z ads σ h ds (vs.drop i)->dB c Z lk ads σ h I ds
 | rng {a b:Int}:IsRangeIter h I a ((b-a).toNat:Int) 1->dB c Z lk ads σ h I (gU a b)
 | llist {k:Nat} {p:Addr×Addr} {l:List D} {i:Nat}:ads[k]?=some p->σ[k]?=some (.llist l)->h.IsListIter I p.1 i->dB c Z lk ads σ h I (l.drop i)
 | keys {k:Nat} {p:Addr×Addr} {es:List (Int×D)} {i:Nat}:ads[k]?=some p->σ[k]?=some (.ldict es)->h.IsKeyIter I p.1 i es.length (lk k)->dB c Z lk ads σ h I ((es.drop i).map λe=>.int e.1)
 | vals {k:Nat} {p:Addr×Addr} {es:List (Int×D)} {i:Nat}:ads[k]?=some p->σ[k]?=some (.ldict es)->h.IsValIter I p.1 i es.length (lk k)->dB c Z lk ads σ h I ((es.drop i).map (·.2))
noncomputable def lF (o:Obj):Prop:=(o.cls=.type "list_iterator"\/o.cls=.type "tuple_iterator"\/o.cls=.type "range_iterator"\/o.cls=.type "dict_keyiterator"\/o.cls=.type "dict_valueiterator")/\∃vs,o.data=.fields vs
theorem lF.nd {o:Obj}(x:lF o):Nd o:=λes ep q=>by obtain⟨_,vs,e⟩:=x;rw[e]at q;cases q
theorem lF.notFz {o:Obj}(x:lF o):¬Fz o:=by
 obtain⟨hc,vs,hd⟩:=x;rintro(⟨xs,n,q⟩|⟨q,_⟩)
 ·rw[hd]at q;cases q
 ·rcases hc with hc|hc|hc|hc|hc <;> rw[hc]at q <;> injection q with q <;> exact absurd q (by decide)
section
variable {c:bJ}{A:Around}{Z:List Addr}{lk:Nat->Nat}{s:Shared}{ads:aY}{σ σ':Store}{n:Nat}{C:SC}{W:Addr->Prop}{h:Heap}
theorem dB.obj {I:Addr}{ds:List D}(x:dB c Z lk ads σ h I ds):∃o,h.get? I=some o/\lF o:=by
 cases x with
 | list a _ _ _=>refine bM (a) λo h1 h2 h3=>?_;exact⟨o,h1,.inl h2,_,h3⟩
 | tup a _ _ _=>refine bM (a) λo h1 h2 h3=>?_;exact⟨o,h1,.inr (.inl h2),_,h3⟩
 | rng a=>exact⟨_,a,.inr (.inr (.inl rfl)),_,rfl⟩
 | llist _ _ a=>refine bM (a) λo h1 h2 h3=>?_;exact⟨o,h1,.inl h2,_,h3⟩
 | keys _ _ a=>refine bM (a) λo h1 h2 h3=>?_;exact⟨o,h1,.inr (.inr (.inr (.inl h2))),_,h3⟩
 | vals _ _ a=>refine bM (a) λo h1 h2 h3=>?_;exact⟨o,h1,.inr (.inr (.inr (.inr h2))),_,h3⟩
theorem dB.mono {aG:aY}{h':Heap}{I:Addr}{ds:List D}{Z':List Addr}(x:dB c Z lk ads σ h I ds)(hp:Sub ads aG)(hl:Lk σ σ')(hI:∀o,h.get? I=some o->h'.get? I=some o)(hk:∀a o,¬WW Z ads σ a->Fz o->h.get? a=some o->h'.get? a=some o)(hW:∀a o,h.get? a=some o->WW Z' aG σ' a->WW Z ads σ a):dB c Z' lk aG σ' h' I ds:=by
 cases x with
 | list a b d e =>
  refine aF (a) λo h1 h2=>?_;obtain⟨m,h3⟩:=b;exact .list ⟨o,hI o h1,h2⟩ ⟨m,hk _ _ d (.inl ⟨_,_,rfl⟩) h3⟩ (λq=>d (hW _ _ h3 q)) (aX.mono hp hk hW _ _ e)
 | tup a b d e =>
  refine aF (a) λo h1 h2=>?_;exact .tup ⟨o,hI o h1,h2⟩ (hk _ _ d (.inl ⟨_,_,rfl⟩) b) (λq=>d (hW _ _ b q)) (aX.mono hp hk hW _ _ e)
 | rng a=>exact .rng (hI _ a)
 | llist a b d=>refine aF (d) λo h1 h2=>?_;exact .llist (hp _ _ a) (hl _ _ b rfl) ⟨o,hI o h1,h2⟩
 | keys a b d=>refine aF (d) λo h1 h2=>?_;exact .keys (hp _ _ a) (hl _ _ b rfl) ⟨o,hI o h1,h2⟩
 | vals a b d=>refine aF (d) λo h1 h2=>?_;exact .vals (hp _ _ a) (hl _ _ b rfl) ⟨o,hI o h1,h2⟩
theorem qbp {a b:Int}(h:a<b):gU a b=.int a::gU (a+1) b:=by
 unfold gU;have:(b-a).toNat=(b-(a+1)).toNat+1:=by
  rw[show b-a=(b-(a+1))+1 by exact jC (bV (cN 0x10efff1a0eaa1 rfl)) (bV (cN 0xff1a0eaf10ea1 rfl)),Int.toNat_add (by exact bV (cN 0x08ff1a0ea10f1a1 rfl h)) (by decide)];rfl
 rw[this,List.range_succ_eq_map,map_cons,map_map];simp only[List.cons.injEq];refine⟨by simp,?_⟩;apply map_congr_left;intro i _;dsimp only[Function.comp]
 congr 1
 exact rs1
theorem qin {a b:Int}(h:b<=a):gU a b=[]:=by
 unfold gU;have:(b-a).toNat=0:=Int.toNat_of_nonpos (bV (cN 0x10ef08a1101 rfl h));rw[this];rfl
theorem tD {α:Type}{l:List α}{i:Nat}{d:α}{ds:List α}(e:l.drop i=d::ds):l[i]?=some d/\l.drop (i+1)=ds:=by
 have hi:i<l.length:=by
  rcases lt_or_ge i l.length with h|h
  ·exact h
  ·rw[drop_of_length_le h]at e;cases e
 rw[List.drop_eq_getElem_cons hi]at e;cases e;exact⟨getElem?_eq_getElem hi,rfl⟩
theorem tE {α:Type}{l:List α}{i:Nat}(e:l.drop i=[]):l[i]?=none:=by
 rw[List.getElem?_eq_none_iff];exact List.drop_eq_nil_iff.mp e
theorem cM.get {X:Txt}:∀{es:List (Int×D)} {kvs:List (Int×Value)},cM X ads W h es kvs->∀{i:Nat} {e:Int×D},es[i]?=some e->∃v,kvs[i]?=some (e.1,v)/\Rep X ads W h e.2 v
 | [],_,_,i,e,q=>by simp at q
 | (j,d)::r,_,x,i,e,q=>by
  refine cY (x) λv t qhf h1 h2=>?_;subst qhf;cases i with
  | zero=>simp at q;subst q;exact⟨v,by simp,h1⟩
  | succ i=>simp at q;refine aF (cM.get h2 q) λv' a b=>?_;exact⟨v',by simpa using a,b⟩
theorem cM.length {X:Txt}{es:List (Int×D)}{kvs:List (Int×Value)}(x:cM X ads W h es kvs):kvs.length=es.length:=by
 have:=congrArg List.length x.keys;simpa using this
theorem qaN {I:Addr}{h':Heap}(R:c.R Z lk s.heap ads σ){o:Obj}(ho:s.heap.get? I=some o)(hk:lF o)(hw:¬WW Z ads σ I)(hb:c.h₀.get? I=none)(he:∀b x,b≠I->s.heap.get? b=some x->h'.get? b=some x) :
  c.R Z lk h' ads σ/\(∀a o,¬WW Z ads σ a->Fz o->s.heap.get? a=some o->h'.get? a=some o):=by
 refine⟨R.quiet (λb=>b=I) (λb x y e=>he b x y e) λb y=>?_,λa x _ hz e=>he a x (λq=>?_) e⟩
 ·subst y;exact⟨λq=>hw (.inr q),hb,λx e=>(by rw[ho]at e;cases e;exact hk.notFz),.inl λq=>hw (.inl q)⟩
 ·subst q;rw[ho]at e;cases e;exact hk.notFz hz
theorem next_item {I:Addr}{d:D}{ds:List D}(R:c.R Z lk s.heap ads σ)(x:dB c Z lk ads σ s.heap I (d::ds))(hw:¬WW Z ads σ I)(hb:c.h₀.get? I=none){Q:Option Value->Shared->Prop}{E:Value->Shared->Prop}(k:∀v h' tk,(∀b o,b≠I->s.heap.get? b=some o->h'.get? b=some o)->c.R Z lk h' ads σ->c.P Z ads σ h' d v->dB c Z lk ads σ h' I ds->Q (some v) {s with heap:=h',toks:=tk}) :
  wpAny (model c.prog c.w) A (pyNext (.ref I)) Q E s:=by
 refine aF (x.obj) λo ho hK=>?_;have st:=λ{h':Heap} he=>qaN (h':=h') R ho hK hw hb he;generalize hds:d::ds=l at x;cases x with
 | list a b q e =>
  subst hds;rename_i la vs i;refine cY (e) λv rest hv r1 r2=>?_;refine bI (tD hv) λh1 h2=>?_;refine wpAny_pyNext_list_item a (PlainList.isList b) (by simpa using h1) λh' hit hs=>?_;have he:∀b x,b≠I->s.heap.get? b=some x->h'.get? b=some x:=λb x hb e=>(hs.2 b hb).trans e;refine bI (st he) λR' hz=>?_;obtain⟨m,b⟩:=b;exact k v h' _ he R' (Rep.mono (Sub.refl _) hz (λ_ _ _ x=>x) _ _ r1) (.list hit ⟨m,hz _ _ q (.inl ⟨_,_,rfl⟩) b⟩ q (by rw[h2];exact aX.mono (Sub.refl _) hz (λ_ _ _ x=>x) _ _ r2))
 | tup a b q e =>
  subst hds;rename_i la vs i m;refine cY (e) λv rest hv r1 r2=>?_;refine bI (tD hv) λh1 h2=>?_;refine wpAny_pyNext_tuple_item a ⟨_,b,rfl,m,rfl⟩ (by simpa using h1) λh' hit hs=>?_;have he:∀b x,b≠I->s.heap.get? b=some x->h'.get? b=some x:=λb x hb e=>(hs.2 b hb).trans e;refine bI (st he) λR' hz=>?_;exact k v h' _ he R' (Rep.mono (Sub.refl _) hz (λ_ _ _ x=>x) _ _ r1) (.tup hit (hz _ _ q (.inl ⟨_,_,rfl⟩) b) q (by rw[h2];exact aX.mono (Sub.refl _) hz (λ_ _ _ x=>x) _ _ r2))
 | rng a =>
  rename_i x y;have hlt:x<y:=by
   rcases Int.lt_or_le x y with q|q
   ·exact q
   ·rw[qin q]at hds;cases hds
  rw[qbp hlt]at hds;cases hds;refine wpAny_pyNext_range_item a (by omega) λh' hit hs=>?_;have he:∀b x,b≠I->s.heap.get? b=some x->h'.get? b=some x:=λb x hb e=>(hs.2 b hb).trans e;refine bI (st he) λR' hz=>?_;refine k _ h' _ he R' ⟨_,rfl⟩ (.rng ?_);have:(((y-x).toNat:Int)-1)=((y-(x+1)).toNat:Int):=by
   rw[toNat_of_nonneg (by exact bV (cN 0x08f10ea10f1a1 rfl hlt)),toNat_of_nonneg (by exact bV (cN 0x08ff1a0ea10f1a1 rfl hlt))];exact jC (bV (cN 0xf10eeff1a0ea1 rfl)) (bV (cN 0xf1a0eff10eea1 rfl))
  rw[this]at hit;exact hit
 | llist a b q =>
  rename_i kk p l i;refine bI (tD hds.symm) λh1 h2=>?_;refine cL (R.objs _ _ _ a b) λvs hp hr hl _=>?_;refine aF (hr.get h1) λv hv rv=>?_;refine wpAny_pyNext_list_item q (PlainList.isList hp) (by simpa using hv) λh' hit hs=>?_;have he:∀b x,b≠I->s.heap.get? b=some x->h'.get? b=some x:=λb x hb e=>(hs.2 b hb).trans e;refine bI (st he) λR' hz=>?_;exact k v h' _ he R' (Rep.mono (Sub.refl _) hz (λ_ _ _ x=>x) _ _ rv) (h2▸.llist a b hit)
 | keys a b q =>
  rename_i kk p es i;cases hes:es.drop i with
  | nil=>rw[hes]at hds;cases hds
  | cons e rest =>
   rw[hes]at hds;cases hds;refine bI (tD hes) λh1 h2=>?_;refine cL (R.objs _ _ _ a b) λkvs hp hr hl _=>?_;refine aF (hr.get h1) λv hv rv=>?_;have hlen:=hr.length;rw[<-hlen]at q;refine wpAny_pyNext_dict_item q hp hv λkey h' hkey hit hs=>?_;have he:∀b x,b≠I->s.heap.get? b=some x->h'.get? b=some x:=λb x hb e=>(hs.2 b hb).trans e;refine bI (st he) λR' hz=>?_;obtain⟨t,rfl⟩:=Value.isInt_shape hkey;rw[hlen]at hit;exact k _ h' _ he R' ⟨t,rfl⟩ (h2▸.keys a b hit)
 | vals a b q =>
  rename_i kk p es i;cases hes:es.drop i with
  | nil=>rw[hes]at hds;cases hds
  | cons e rest =>
   rw[hes]at hds;cases hds;refine bI (tD hes) λh1 h2=>?_;refine cL (R.objs _ _ _ a b) λkvs hp hr hl _=>?_;refine aF (hr.get h1) λv hv rv=>?_;have hlen:=hr.length;rw[<-hlen]at q;refine wpAny_pyNext_values_item q hp hv λh' hit hs=>?_;have he:∀b x,b≠I->s.heap.get? b=some x->h'.get? b=some x:=λb x hb e=>(hs.2 b hb).trans e;refine bI (st he) λR' hz=>?_;rw[hlen]at hit;exact k _ h' _ he R' (Rep.mono (Sub.refl _) hz (λ_ _ _ x=>x) _ _ rv) (h2▸.vals a b hit)
theorem next_end {I:Addr}(hh:A.handled=none)(R:c.R Z lk s.heap ads σ)(x:dB c Z lk ads σ s.heap I [])(hw:¬WW Z ads σ I)(hb:c.h₀.get? I=none){Q:Option Value->Shared->Prop}{E:Value->Shared->Prop}(k:∀h' tk,(∀b o,b≠I->s.heap.get? b=some o->h'.get? b=some o)->c.R Z lk h' ads σ->Q none {s with heap:=h',toks:=tk}) :
  wpAny (model c.prog c.w) A (pyNext (.ref I)) Q E s:=by
 refine aF (x.obj) λo ho hK=>?_;have fin:∀h',Heap.ExtBut I s.heap h'->Q none {s with heap:=h'}:=λh' hs=>k h' s.toks (λb x hb e=>hs b x hb e) (qaN R ho hK hw hb λb x hb e=>hs b x hb e).1;generalize hds:([]:List D)=l at x;cases x with
 | list a b q e =>
  subst hds;exact wpAny_pyNext_list_end hh a (PlainList.isList b) (by simpa using tE e) fin
 | tup a b q e =>
  subst hds;exact wpAny_pyNext_tuple_end hh a ⟨_,b,rfl,_,rfl⟩ (by simpa using tE e) fin
 | rng a =>
  rename_i x y;refine wpAny_pyNext_range_end hh a ?_ fin;rcases Int.lt_or_le x y with q|q
  ·rw[qbp q]at hds;cases hds
  ·omega
 | llist a b q =>
  refine cL (R.objs _ _ _ a b) λvs hp hr hl _=>?_;refine wpAny_pyNext_list_end hh q (PlainList.isList hp) ?_ fin;have:=tE hds.symm;rw[List.getElem?_eq_none_iff]at this;simp;rw[hr.length];exact this
 | keys a b q =>
  rename_i kk p es i;refine cL (R.objs _ _ _ a b) λkvs hp hr hl _=>?_;have hlen:=hr.length;rw[<-hlen]at q;refine wpAny_pyNext_dict_end hh q hp ?_ fin;have:=tE (List.map_eq_nil_iff.mp hds.symm);rw[List.getElem?_eq_none_iff]at this ⊢;rw[hlen];exact this
 | vals a b q =>
  rename_i kk p es i;refine cL (R.objs _ _ _ a b) λkvs hp hr hl _=>?_;have hlen:=hr.length;rw[<-hlen]at q;refine wpAny_pyNext_values_end hh q hp ?_ fin;have:=tE (List.map_eq_nil_iff.mp hds.symm);rw[List.getElem?_eq_none_iff]at this ⊢;rw[hlen];exact this
theorem ZV {I:Addr}{ds:List D}(x:dB c Z lk ads σ s.heap I ds){Q:Value->Shared->Prop}{E:Value->Shared->Prop}(k:Q (.ref I) s):wpAny (model c.prog c.w) A (pyIter (.ref I)) Q E s:=by
 cases x with
 | list a _ _ _=>exact wpAny_pyIter_listiter a k
 | tup a _ _ _=>exact wpAny_pyIter_tupleiter a k
 | rng a=>exact wpAny_pyIter_rangeiter a k
 | llist _ _ a=>exact wpAny_pyIter_listiter a k
 | keys _ _ a=>exact wpAny_pyIter_keyiter a k
 | vals _ _ a=>exact wpAny_pyIter_valiter a k
end
section
variable {prog:Program}{w:World}{A:Around}{E:Value->Shared->Prop}{s:Shared}{env:Env}
noncomputable def FT (ifs:List Expr)(env:Env):Sem Bool :=
 forIn ifs true λc r=>if r=true then do let ok <-isTrue c env (eval c env);pure (ForInStep.yield ok) else pure (ForInStep.yield r)
theorem qdi {elt target iter:Expr}{ifs:List Expr}{cs:List Comprehension}{scope:Scope}{pos:Pos}{depth:Nat}{it acc:Value}{Q:PySem.Fin->Shared->Prop}(hg:cs[depth]?=some ⟨target,iter,ifs,0⟩)(hnext:∀g',cs[depth+1]?=some g'->g'.is_async=0/\∀x,foldedSetIterable g'.iter env x=pure x)(h:wpAny (model prog w) A (pyNext it) (λr s₁=>match r with
   | none=>Q (.done .next) s₁
   | some v=>wpAny (model prog w) A (letOwnedTupleGo target it v) (λ_ s₂=>wpAny (model prog w) A (assign target env v) (λ_ s₃=>wpAny (model prog w) A (FT ifs env) (λok s₄ =>
     if ok=true then(match cs[depth+1]? with
      | some g'=>wpAny (model prog w) A (eval g'.iter env) (λx s₅=>wpAny (model prog w) A (pyIter x) (λit' s₆=>wpAny (model prog w) A (runOwn (.compStart (.ListComp elt cs scope pos) (depth+1) it' acc env) env) (λ_ s₇ =>
        Q (.again (.compLoop (.ListComp elt cs scope pos) depth it acc env)) s₇) E s₆) E s₅) E s₄
      | none=>wpAny (model prog w) A (eval elt env) (λx s₅=>wpAny (model prog w) A (call (.builtin "list.append") [acc,x]) (λ_ s₆=>Q (.again (.compLoop (.ListComp elt cs scope pos) depth it acc env)) s₆) E s₅) E s₄)
     else Q (.again (.compLoop (.ListComp elt cs scope pos) depth it acc env)) s₄) E s₃) E s₂) E s₁) E s) :
  wpAny (model prog w) A (compTurn (.ListComp elt cs scope pos) depth it acc env) Q E s:=by
 unfold compTurn;dsimp only;rw[hg];dsimp only;refine wpAny_bind (wpAny_standAt ?_);refine wpAny_bind ?_;show wpAny (model prog w) A (pyNext it) _ E s;refine wpAny_mono h (λr s₁ h₁=>?_) λ_ _ e=>e;cases r with
 | none=>exact wpAny_pure h₁
 | some v =>
  refine wpAny_bind (wpAny_mono h₁ (λ_ s₂ h₂=>?_) λ_ _ e=>e);refine wpAny_bind (wpAny_mono h₂ (λ_ s₃ h₃=>?_) λ_ _ e=>e);refine wpAny_bind (wpAny_mono h₃ (λok s₄ h₄=>?_) λ_ _ e=>e);cases ok with
  | false =>
   simp only[false_eq_true,if_false]at h₄ ⊢;exact wpAny_bind (wpAny_pure (wpAny_pure h₄))
  | true =>
   simp only[if_true]at h₄ ⊢;cases hg':cs[depth+1]? with
   | none =>
    rw[hg']at h₄;dsimp only at h₄ ⊢;exact wpAny_bind (wpAny_bind (wpAny_mono h₄ (λx s₅ h₅=>wpAny_bind (wpAny_mono h₅ (λ_ s₆ h₆=>wpAny_pure (wpAny_pure h₆)) λ_ _ e=>e)) λ_ _ e=>e))
   | some g' =>
    rw[hg']at h₄;dsimp only at h₄ ⊢;refine bI (hnext g' hg') λha hf=>?_;refine wpAny_bind (wpAny_mono h₄ (λx s₅ h₅=>?_) λ_ _ e=>e);refine wpAny_bind (wpAny_standAt ?_);simp only[ha,bne_self_eq_false,false_eq_true,if_false];rw[hf x];refine wpAny_bind (wpAny_pure (wpAny_bind (wpAny_holding (wpAny_mono h₅ (λit' s₆ h₆=>?_) λ_ _ e=>e))));exact wpAny_bind (wpAny_mono h₆ (λ_ s₇ h₇=>wpAny_pure h₇) λ_ _ e=>e)
theorem qdh {elt:Expr}{cs:List Comprehension}{scope:Scope}{pos:Pos}{depth:Nat}{it acc:Value}{R:Result->Shared->Prop}(I:Nat->Shared->Prop)(turn:∀n s,I n s->wpAny (model prog w) A (compTurn (.ListComp elt cs scope pos) depth it acc env) (λfin s'=>match fin with
   | .done f=>R (.ok f) s'
   | .again c'=>c'=.compLoop (.ListComp elt cs scope pos) depth it acc env/\∃m,m<n/\I m s') (notedBy (model prog w) A env λe s'=>R (.error e) s') s)(n:Nat)(h:I n s):codeAny (model prog w) A (.compLoop (.ListComp elt cs scope pos) depth it acc env) R s:=by
 refine codeAny_loop rfl I (λn s hI=>?_) n h;show wpAny _ _ ((compTurn (.ListComp elt cs scope pos) depth it acc env).onRaise (λx=>do noteFrame x env;theTreesLotGoes x)) _ _ s;exact wpAny_noted (turn n s hI)
theorem UG {elt:Expr}{cs:List Comprehension}{scope:Scope}{pos:Pos}{depth:Nat}{it acc:Value}{R:Result->Shared->Prop}{g:Comprehension}(hg:cs[depth]?=some g)(hga:g.is_async=0)(h0:codeAny (model prog w) A (.compLoop (.ListComp elt cs scope pos) depth it acc env) R s)(h:wpAny (model prog w) A (pyIter it) (λit' s'=>codeAny (model prog w) A (.compLoop (.ListComp elt cs scope pos) depth it' acc env) R s')
   (notedBy (model prog w) A env λx s'=>R (.error x) s') s) :
  codeAny (model prog w) A (.compStart (.ListComp elt cs scope pos) depth it acc env) R s:=by
 refine codeAny_of_tree ?_;show wpAny _ _ ((compStart (.ListComp elt cs scope pos) depth it acc env).onRaise (λx=>do noteFrame x env;standAt theWindowsPlace)) _ _ s;refine wpAny_notedAt ?_;unfold compStart;have hcl:clausesOf (.ListComp elt cs scope pos)=cs:=rfl;rw[hcl,hg];simp only[Option.elim_some,hga,bne_self_eq_false,false_eq_true,if_false];refine wpAny_bind (wpAny_askSetting (wpAny_ite ?_));split
 ·first
   | exact wpAny_bind (wpAny_pure (wpAny_pure (And.intro rfl h0)))
   | exact wpAny_pure (And.intro rfl h0)
 ·exact wpAny_bind (wpAny_rule (wpAny_bind (wpAny_standAt (wpAny_bind (wpAny_mono h (λit' s' h'=>wpAny_pure (And.intro rfl h')) λ_ _ x=>x)))))
end
theorem bK.monoS {c:bJ}{C:SC}{env:Env}{ρ:Loc}{Z Z':List Addr}{ads aG:aY}{σ σ':Store}{h h':Heap}(V:bK c C env ρ Z ads σ h)(hs:Sub ads aG)(hz:∀a o,¬WW Z ads σ a->Fz o->h.get? a=some o->h'.get? a=some o)(hW:∀a o,h.get? a=some o->WW Z' aG σ' a->WW Z ads σ a)(hf:∀a o,dY env a\/(∃x,(x,a)∈env.cells)->h.get? a=some o->∃o',h'.get? a=some o'/\SO o o')(ho:∀a,¬bH ads σ a->Heap.Has h a->¬bH aG σ' a)(hfr:∀a,a∈C.fr.filterMap (·.frame)->gW h h' a):bK c C env ρ Z' aG σ' h' where
 kind:=V.kind
 names:=V.names
 globals:=V.globals
 builtins:=V.builtins
 ns:=by
  refine aF (V.ns) λm qhW hm=>?_;obtain⟨o,es,ep,ho,r⟩:=qhW;refine aF (hf _ _ (.inl (.inl rfl)) ho) λo' ho' q'=>?_;exact⟨m,⟨o',es,ep,ho',q'.1.trans r.1,r.2⟩,λi y d a b e=>aF (hm i y d a b e) λv p q=>⟨v,p,Rep.mono hs hz hW _ _ q⟩⟩
 has:=λy b=>by
  refine fM (V.has y b) λa' ov h1 qhX=>?_;obtain⟨o,ho,r⟩:=qhX;exact⟨a',ov,h1,⟨o,SO.ex (hf _ _ (.inl (.inr ⟨y,h1⟩)) ho) (tC r),r⟩⟩
 cell:=λi y d a b e q l=>by
  refine aF (V.cell i y d a b e q l) λv qhY h3=>?_;obtain⟨o,ho,r⟩:=qhY;exact⟨v,⟨o,SO.ex (hf _ _ (.inl (.inr ⟨y,l⟩)) ho) (tC r),r⟩,Rep.mono hs hz hW _ _ h3⟩
 apart:=V.apart
 lown:=⟨ho _ V.lown.1 (let ⟨_,⟨o,_,_,e,_⟩,_⟩:=V.ns;⟨o,e⟩),V.lown.2⟩
 cown:=λy a e=>by
  obtain⟨h1,h2,ov,o,e1,hd⟩:=V.cown y a e;exact⟨ho a h1 ⟨o,e1⟩,h2,ov,o,SO.ex (hf a o (.inr ⟨y,e⟩) e1) (tC hd),hd⟩
 frs:=pR V.frs hfr
 frn:=λa ha=>ho a (V.frn a ha) (V.frHas' ha)
 hd:=V.hd
theorem bK.mono {c:bJ}{C:SC}{env:Env}{ρ:Loc}{Z Z':List Addr}{ads aG:aY}{σ σ':Store}{h h':Heap}(V:bK c C env ρ Z ads σ h)(hs:Sub ads aG)(hz:∀a o,¬WW Z ads σ a->Fz o->h.get? a=some o->h'.get? a=some o)(hW:∀a o,h.get? a=some o->WW Z' aG σ' a->WW Z ads σ a)(hf:∀a o,dY env a\/(∃x,(x,a)∈env.cells)->h.get? a=some o->h'.get? a=some o)(ho:∀a,¬bH ads σ a->Heap.Has h a->¬bH aG σ' a)(hfr:∀a,a∈C.fr.filterMap (·.frame)->gW h h' a):bK c C env ρ Z' aG σ' h' :=
 V.monoS hs hz hW (λa o q e=>SO.of (hf a o q e)) ho hfr
theorem bK.frHas {c:bJ}{C:SC}{env:Env}{ρ:Loc}{Z:List Addr}{ads:aY}{σ:Store}{h:Heap}(V:bK c C env ρ Z ads σ h){a:Addr}(x:dY env a):Heap.Has h a:=by
 rcases x with rfl|⟨x,e⟩
 ·refine aF (V.ns) λm qhZ _=>?_;obtain⟨o,_,_,ho,_⟩:=qhZ;exact⟨o,ho⟩
 ·obtain⟨_,_,ov,o,ho,_⟩:=V.cown x a (mem_of_lookup e);exact⟨o,ho⟩
theorem bK.frFz {c:bJ}{C:SC}{env:Env}{ρ:Loc}{Z:List Addr}{ads:aY}{σ:Store}{h:Heap}(V:bK c C env ρ Z ads σ h){a:Addr}(x:dY env a):∀o,h.get? a=some o->¬Fz o/\¬lF o:=by
 intro o e;rcases x with rfl|⟨x,e'⟩
 ·refine aF (V.ns) λm hn _=>?_;refine⟨BZ hn o e,λq=>?_⟩;refine fY (hn) λo' es ep ho hd _=>?_;rw[ho]at e;cases e;obtain⟨_,vs,q⟩:=q;rw[hd]at q;cases q
 ·obtain⟨_,_,ov,hc⟩:=V.cown x a (mem_of_lookup e');refine⟨HH hc o e,λq=>?_⟩;refine aF (hc) λo' ho hd=>?_;rw[ho]at e;cases e;obtain⟨_,vs,q⟩:=q;rw[hd]at q;cases q
theorem bK.frOwn {c:bJ}{C:SC}{env:Env}{ρ:Loc}{Z:List Addr}{ads:aY}{σ:Store}{h:Heap}(V:bK c C env ρ Z ads σ h){a:Addr}(x:dY env a):¬bH ads σ a:=by
 rcases x with rfl|⟨x,e⟩
 ·exact V.lown.1
 ·exact(V.cown x a (mem_of_lookup e)).1
structure oN (Y:Addr->Prop) (ads:aY) (σ:Store) (s:Shared) (aG:aY) (σ':Store) (s':Shared):Prop where
 pre:∃r,aG=ads++r
 kept:∀b o,¬bH ads σ b->¬Y b->s.heap.get? b=some o->∃o',s'.heap.get? b=some o'/\SO o o'
 own:∀b,bH aG σ' b->bH ads σ b\/s.heap.get? b=none
 has:∀b,¬Y b->Heap.Has s.heap b->Heap.Has s'.heap b
 rest:∃h tk,s'={s with heap:=h,toks:=tk}
theorem oN.ext {Y:Addr->Prop}{Z:List Addr}{ads aG pI:aY}{σ σ' nG:Store}{s s' s'':Shared}(x:Ext Z ads σ s aG σ' s')(y:oN Y aG σ' s' pI nG s'')(hY:∀b,Y b->s.heap.get? b=none):Ext Z ads σ s pI nG s'':=by
 refine⟨?_,λb o hn e=>?_,λb e=>?_,λb e=>y.has b (λq=>by obtain⟨o,e⟩:=e;rw[hY b q]at e;cases e) (x.has b e),?_⟩
 ·obtain⟨r,rfl⟩:=x.pre;obtain⟨q,rfl⟩:=y.pre;exact⟨r++q,by simp⟩
 ·exact SO.then (x.kept b o hn e) λo' e'=>y.kept b o' (x.notOwned hn ⟨o,e⟩) (λq=>by rw[hY b q]at e;cases e) e'
 ·rcases y.own b e with e|e
  ·exact x.own b e
  ·by_cases hb:bH ads σ b
   ·exact .inl hb
   ·refine .inr ?_;cases hs:s.heap.get? b with
    | none=>rfl
    | some o=>refine aF (x.kept b o hb hs) λo' q _=>?_;rw[q]at e;cases e
 ·refine fD (x.rest) λh tk qhj=>?_;subst qhj;refine fD (y.rest) λh' tk' qhk=>?_;subst qhk;exact⟨h',tk',rfl⟩
noncomputable def AccAt (c:bJ)(Z:List Addr)(ads:aY)(σ:Store)(h:Heap)(acc:Addr)(out:List D):Prop:=∃vs,h.PlainList acc (toArray vs)/\aX c.X ads (WW (acc::Z) ads σ) h out vs/\out.length<=lim
section
variable {c:bJ}{A:Around}{Z:List Addr}{lk:Nat->Nat}{s:Shared}{ads:aY}{σ σ':Store}{n:Nat}{C C₁:SC}{cenv:Env}{acc:Addr}
noncomputable def YC (acc:Addr)(cenv:Env)(b:Addr):Prop:=b=acc\/(dY cenv b/\cenv.locals<=b)
noncomputable def GJ (S:Str->Prop)(cenv:Env):Prop:=∀x,S x->∀a,cenv.cells.lookup x=some a->cenv.locals<=a
structure cX (c:bJ) (C:SC) (cenv:Env) (ρ:Loc) (Z:List Addr) (lk:Nat->Nat) (acc:Addr) (ads:aY) (σ:Store) (s:Shared) (out:List D):Prop where
 R:c.R (acc::Z) lk s.heap ads σ
 V:bK c C cenv ρ (acc::Z) ads σ s.heap
 acc:AccAt c Z ads σ s.heap acc out
theorem cX.yHas {ρ:Loc}{out:List D}(x:cX c C cenv ρ Z lk acc ads σ s out){b:Addr}(y:YC acc cenv b):Heap.Has s.heap b:=by
 rcases y with rfl|y
 ·refine aF (x.acc) λvs qh0 _=>?_;obtain⟨m,h⟩:=qh0;exact⟨_,h⟩
 ·exact x.V.frHas y.1
theorem cX.yFz {ρ:Loc}{out:List D}(x:cX c C cenv ρ Z lk acc ads σ s out):∀b o,YC acc cenv b->s.heap.get? b=some o->Fz o->WW (acc::Z) ads σ b:=by
 rintro b o (rfl|y) e hz
 ·exact .inl mem_cons_self
 ·exact absurd hz (x.V.frFz y.1 o e).1
theorem cX.yOwn {ρ:Loc}{out:List D}(x:cX c C cenv ρ Z lk acc ads σ s out):∀b,YC acc cenv b->¬bH ads σ b:=by
 rintro b (rfl|y)
 ·exact x.R.zown _ mem_cons_self
 ·exact x.V.frOwn y.1
theorem cX.ext {ρ:Loc}{out:List D}{aG:aY}{s':Shared}(x:cX c C cenv ρ Z lk acc ads σ s out)(e:Ext (acc::Z) ads σ s aG σ' s')(R':c.R (acc::Z) lk s'.heap aG σ'):cX c C cenv ρ Z lk acc aG σ' s' out:=by
 refine⟨R',x.V.ext e,?_⟩;refine bM (x.acc) λvs qh1 r l=>?_;obtain⟨m,h⟩:=qh1;exact⟨vs,⟨m,SO.ex (e.kept _ _ (x.R.zown _ mem_cons_self) h) (Fz.nd (.inl ⟨_,_,rfl⟩))⟩,e.repL r,l⟩
theorem dB.extY {ρ:Loc}{out:List D}{aG:aY}{s':Shared}{I:Addr}{ds:List D}(x:dB c (acc::Z) lk ads σ s.heap I ds)(V:cX c C cenv ρ Z lk acc ads σ s out)(hI:¬WW (acc::Z) ads σ I)(e:b8 (YC acc cenv) ads σ s aG σ' s')(hl:Lk σ σ') :
  dB c (acc::Z) lk aG σ' s'.heap I ds:=by
 refine aF (x.obj) λo ho hK=>?_;refine x.mono e.sub hl (λo' q=>SO.ex (e.kept I o' (λz=>hI (.inr z)) (λy=>?_) q) (lF.nd (by rw[ho]at q;cases q;exact hK))) (λa o hw hz q=>SO.ex (e.kept a o (λz=>hw (.inr z)) (λy=>hw (V.yFz a o y q hz)) q) hz.nd) (λa o q hw=>?_)
 ·rcases y with rfl|y
  ·exact hI (.inl mem_cons_self)
  ·exact(V.V.frFz y.1 o ho).2 hK
 ·rcases hw with hw|hw
  ·exact .inl hw
  ·rcases e.own a hw with z|z
   ·exact .inr z
   ·rw[q]at z;cases z
end
noncomputable def nP (c:bJ)(n:Nat)(C:SC)(e:Expr)(f:Loc->Store->Option (List D×Store×Option Nat)):Prop :=
 ∀(A:Around) (Z:List Addr) (lk:Nat->Nat) (s:Shared) (ads:aY) (ρ:Loc) (σ:Store) (env:Env) (l:List D) (σ':Store) (u:Option Nat),f ρ σ=some (l,σ',u)->dI A n C.fr->c.R Z lk s.heap ads σ->bK c C env ρ Z ads σ s.heap ->
  ∀(Q:Value->Shared->Prop) (E:Value->Shared->Prop),(∀I s' aG dU,(∀k,u≠some k->dU k=lk k)->Ext Z ads σ s aG σ' s'->c.R Z dU s'.heap aG σ'->dB c Z dU aG σ' s'.heap I l->s.heap.get? I=none->¬WW Z aG σ' I->c.h₀.get? I=none->Q (.ref I) s') ->
   wpAny (model c.prog c.w) A (eval e env) (λx s₁=>wpAny (model c.prog c.w) A (pyIter x) Q E s₁) E s
noncomputable def lG (c:bJ)(n:Nat)(C:SC)(es:List Expr)(f:Loc->Store->Option (Bool×Store)):Prop :=
 ∀(A:Around) (Z:List Addr) (lk:Nat->Nat) (s:Shared) (ads:aY) (ρ:Loc) (σ:Store) (env:Env) (b:Bool) (σ':Store),f ρ σ=some (b,σ')->dI A n C.fr->c.R Z lk s.heap ads σ->bK c C env ρ Z ads σ s.heap ->
  GR c A (FT es env) Z lk s ads σ b σ'
section
variable {c:bJ}{A:Around}{Z:List Addr}{lk:Nat->Nat}{s:Shared}{ads:aY}{σ σ':Store}{n:Nat}{C C₁:SC}{cenv:Env}{acc:Addr}
theorem qbW {prog:Program}{w:World}{E:Value->Shared->Prop}{env:Env}{Q:Bool->Shared->Prop}:∀(es:List Expr),Q false s->wpAny (model prog w) A (forIn es false λc r=>if r=true then do let ok <-isTrue c env (eval c env);pure (ForInStep.yield ok) else pure (ForInStep.yield r)) Q E s
 | []=>λh=>by rw[forIn_nil];exact wpAny_pure h
 | e::es=>λh=>by
  rw[forIn_cons];simp only[false_eq_true,if_false];exact wpAny_bind (wpAny_pure (qbW es h))
theorem qiI {F:aU}:lG c n C [] (gJ F []):=λA Z lk s ads ρ σ env b σ' hf hA R V Q E k=>by
 cases hf;unfold FT;rw[forIn_nil];exact wpAny_pure (k s ads Ext.refl R)
theorem qiH {F:aU}{x:E}{xs:List E}{e:Expr}{es:List Expr}(S:kE c n C e (ev F x))(SC':lG c n C es (gJ F xs)):lG c n C (e::es) (gJ F (x::xs)) :=
 λA Z lk s ads ρ σ env b σ' hf hA R V=>aZ hf λd σ1 h1 hf=>aJ hf λt h2 h3 Q E k=>by
  unfold FT;rw[forIn_cons];refine wpAny_bind (wpAny_bind (S A Z lk s ads ρ σ env d σ1 t h1 h2 hA R V _ _ λs1 aN x1 R1=>wpAny_pure ?_));cases t with
  | false=>cases h3;exact qbW es (k s1 aN x1 R1)
  | true=>exact SC' A Z lk s1 aN ρ σ1 env b σ' h3 hA R1 (V.ext x1) Q E λs2 bT x2 R2=>k s2 bT (x1.trans x2) R2
structure lD (S:Str->Prop) (C C₁:SC) (t:Nat) (x:Str):Prop where
 own:S x
 names:C₁.names=C.names
 fr:C₁.fr=C.fr
 comp:C₁.comp=C.comp
 slots:C₁.slots=(t,x)::C.slots
 kind:C.names.lookup x=some .local\/C.names.lookup x=some .cell
 new:∀(j:Nat) (y:Str),C.slots.lookup j=some y->y≠x
theorem lD.look {S:Str->Prop}{t:Nat}{x:Str}(b:lD S C C₁ t x):∀(j:Nat) (y:Str),C₁.slots.lookup j=some y->(j=t/\y=x)\/(j≠t/\y≠x/\C.slots.lookup j=some y):=by
 intro j y e;rw[b.slots,lookup_cons]at e;by_cases hj:j=t
 ·subst hj;simp only[beq_self_eq_true]at e;cases e;exact .inl ⟨rfl,rfl⟩
 ·have:(j==t)=false:=by simpa using hj
  rw[this]at e;exact .inr ⟨hj,b.new j y e,e⟩
theorem bK.forget {S:Str->Prop}{env:Env}{ρ:Loc}{t:Nat}{x:Str}{d:D}{h:Heap}(b:lD S C C₁ t x)(V:bK c C₁ env (ρ.set t (some d)) Z ads σ h)(hnot:∀y,C.slots.lookup t≠some y):bK c C env ρ Z ads σ h where
 kind:=V.kind
 names:=V.names.trans b.names
 globals:=V.globals
 builtins:=V.builtins
 ns:=by
  refine aF (V.ns) λm hn hm=>?_;refine⟨m,hn,λi y d' h1 h2 h3=>?_⟩;have hi:i≠t:=λq=>hnot y (q▸h1);refine hm i y d' ?_ (b.names▸h2) (by rw[getElem?_set_ne (λq=>hi q.symm)];exact h3);rw[b.slots,lookup_cons,show (i==t)=false by simpa using hi];exact h1
 has:=λy h=>V.has y (b.names▸h)
 cell:=λi y d' a h1 h2 h3 h4=>by
  have hi:i≠t:=λq=>hnot y (q▸h1);refine V.cell i y d' a ?_ (b.names▸h2) (by rw[getElem?_set_ne (λq=>hi q.symm)];exact h3) h4;rw[b.slots,lookup_cons,show (i==t)=false by simpa using hi];exact h1
 apart:=V.apart
 lown:=V.lown
 cown:=V.cown
 frs:=b.fr▸V.frs
 frn:=b.fr▸V.frn
 hd:=λq=>b.fr▸V.hd (b.comp▸q)
theorem qcM {ρ:Loc}{out:List D}{d:D}{v:Value}(x:cX c C cenv ρ Z lk acc ads σ s out)(hb:c.h₀.get? acc=none)(r:c.P (acc::Z) ads σ s.heap d v)(hl:out.length+1<=lim){Q:Value->Shared->Prop}{E:Value->Shared->Prop}(k:∀s',b8 (YC acc cenv) ads σ s ads σ s'->cX c C cenv ρ Z lk acc ads σ s' (out++[d])->Q .none s'):wpAny (model c.prog c.w) A (call (.builtin "list.append") [.ref acc,v]) Q E s:=by
 refine bM (x.acc) λvs qh5 hr hlim=>?_;obtain⟨m,hg⟩:=qh5;refine call_meets F.slot_list_append ⟨_,hg,rfl⟩ F.entry_list_append (F.args_list_append_2 _ _) (list_append acc vs.toArray m v (jQ hlim hr.length)) ⟨hg,?_⟩;have hn:=Heap.get?_update_self (Obj.mapSeq λx=>x.push v) hg rfl;have hk:∀b o,b≠acc->s.heap.get? b=some o->(s.heap.update acc (Obj.mapSeq λx=>x.push v)).get? b=some o:=λb o hb e=>((Heap.SameBut.update s.heap acc _).2 b hb).trans e;have hh:Heap.Has (s.heap.update acc (Obj.mapSeq λx=>x.push v)) acc:=⟨_,hn⟩;have hz:∀a o,¬WW (acc::Z) ads σ a->Fz o->s.heap.get? a=some o->(s.heap.update acc (Obj.mapSeq λx=>x.push v)).get? a=some o:=λa o hw _ e=>hk a o (λq=>hw (.inl (q▸mem_cons_self))) e;have hfk:∀a,a∈C.fr.filterMap (·.frame)->gW s.heap (s.heap.update acc (Obj.mapSeq λx=>x.push v)) a:=λa _ o e hnf=>by
  by_cases q:a=acc
  ·subst q;rw[hg]at e;cases e;refine fD (hnf) λes ep z=>?_;cases z
  ·exact⟨o,hk a o q e,hnf⟩
 refine k _ (b8.one hk (.inl rfl) hh) ⟨x.R.asideSet hb hk hh,x.V.mono (Sub.refl _) hz (λ_ _ _ w=>w) (λa o hf e=>hk a o (λq=>?_) e) (λa h _=>h) hfk,vs++[v],⟨_,by simpa[Obj.mapSeq] using hn⟩,aX.mono (Sub.refl _) hz (λ_ _ _ w=>w) _ _ (hr.append (aX.one r)),by simpa using hl⟩;subst q;have:¬Fz {cls:=.type "list",data:=.seq vs.toArray m}:=by
  rcases hf with hf|⟨y,hf⟩
  ·exact(x.V.frFz hf _ hg).1
  ·obtain⟨_,_,ov,hc⟩:=x.V.cown y a hf;exact HH hc _ hg
 exact this (.inl ⟨_,_,rfl⟩)
inductive lE (c:bJ) (n:Nat) (F:aU) (S:Str->Prop):SC->List G->List Comprehension->SC->Prop
 | nil {C:SC}:lE c n F S C [] [] C
 | cons {C C₁ C₂:SC} {t:Nat} {x:Str} {px:Pos} {it:It} {iter:Expr} {ifs:List E} {cC:List Expr} {gs:List G} {cs:List Comprehension}:lD S C C₁ t x->(∀y,C.slots.lookup t≠some y)->nP c n C iter (kJ F it)->lG c n C₁ cC (gJ F ifs) ->
   (∀env v,foldedSetIterable iter env v=pure v)->lE c n F S C₁ gs cs C₂->lE c n F S C (.mk [t] false it ifs::gs) (⟨.Name x px,iter,cC,0⟩::cs) C₂
noncomputable def xQ (F:aU)(t:Nat)(ifs:List E)(gs:List G)(fe:Loc->Store->Option (D×Store))(ρ:Loc)(d:D)(σ:Store):Option (List D×Store):=(gJ F ifs (ρ.set t (some d)) σ).bind λq=>bif q.1 then nU F gs fe (ρ.set t (some d)) q.2 else some ([],q.2)
theorem qbe {dU:Nat->Nat}{h:Heap}(R:c.R Z lk h ads σ)(e:∀(k:Nat) (o:O),σ[k]?=some o->o.locked=true->dU k=lk k):c.R Z dU h ads σ where
 len:=R.len
 keep:=R.keep
 objs k p o a b:=by
  have:=R.objs k p o a b;cases o with
  | ldict es =>
   have q:=e k _ b rfl;unfold jR at this ⊢;rw[q];exact this
  | _=>exact this
 apart:=R.apart
 new:=R.new
 zlt:=R.zlt
 alt:=R.alt
 zown:=R.zown
end
section
variable {c:bJ}{A:Around}{Z:List Addr}{lk:Nat->Nat}{s:Shared}{ads:aY}{σ σ':Store}{n:Nat}{C C₁:SC}{cenv:Env}{acc:Addr}{S:Str->Prop}
theorem oA {k:Nat}{o o':O}(ho:σ[k]?=some o)(h1:o.live=true)(h2:o'.live=true):∀b,bH ads (σ.set k o') b↔bH ads σ b:=by
 have hkl:k<σ.length:=(List.getElem?_eq_some_iff.mp ho).1;intro b;constructor
 ·rintro⟨j,q,x,a,c,d,e⟩;by_cases hj:k=j
  ·subst hj;exact⟨k,q,o,a,ho,h1,e⟩
  ·rw[getElem?_set_ne hj]at c;exact⟨j,q,x,a,c,d,e⟩
 ·rintro⟨j,q,x,a,c,d,e⟩;by_cases hj:k=j
  ·subst hj;exact⟨k,q,o',a,getElem?_set_self hkl,h2,e⟩
  ·exact⟨j,q,x,a,by rw[getElem?_set_ne hj];exact c,d,e⟩
theorem Rel.view {h:Heap}{k:Nat}{o o':O}(R:c.R Z lk h ads σ)(ho:σ[k]?=some o)(h1:o.live=true)(h2:o'.live=true)(hn:∀p,jR c.prog c.w c.X ads (WW Z ads σ) lk h k p o->jR c.prog c.w c.X ads (WW Z ads σ) lk h k p o'):c.R Z lk h ads (σ.set k o'):=by
 have hkl:k<ads.length:=by rw[R.len];exact(List.getElem?_eq_some_iff.mp ho).1
 have hp:=getElem?_eq_getElem hkl;have hw:WW Z ads (σ.set k o')=WW Z ads σ:=by funext b;exact propext (or_congr Iff.rfl (oA ho h1 h2 b))
 refine R.put hp ho h1 (λ_ _ _ _ e=>e) (R.alt _ _ _ hp ho h1) ?_;rw[hw];exact hn _ (R.objs _ _ _ hp ho)
theorem Rel.unlock {h:Heap}{k:Nat}{σ2:Store}(R:c.R Z lk h ads σ)(e:Internal.unlock σ k=some σ2):c.R Z lk h ads σ2/\∀b,bH ads σ2 b↔bH ads σ b:=by
 refine aJ e λo' hu e=>aJ hu λo ho hu=>?_;rw[<-Option.some.inj e];cases o
 case llist=>exact Option.some.inj hu▸⟨Rel.view R ho rfl rfl λp x=>x,oA ho rfl rfl⟩
 case ldict=>exact Option.some.inj hu▸⟨Rel.view R ho rfl rfl λp x=>aF x λkvs h h4=>⟨kvs,c7 (h) λo es' h1 h2 h3 r=>⟨o,es',_,h1,h2,h3,r⟩,h4⟩,oA ho rfl rfl⟩
 all_goals exact bO hu
theorem qb4 {h:Heap}{dU:Nat->Nat}{u:Option Nat}(R:c.R Z dU h ads σ)(hlk:∀k,u≠some k->dU k=lk k)(h3:G5 σ u=some σ'):c.R Z lk h ads σ'/\∀b,bH ads σ' b↔bH ads σ b:=by
 cases u with
 | none=>exact Option.some.inj h3▸⟨qbe R λk o _ _=>(hlk k (λq=>nomatch q)).symm,λb=>Iff.rfl⟩
 | some kk =>
  have q:=Rel.unlock R h3;refine⟨qbe q.1 λk o e hl=>(hlk k λz=>?_).symm,q.2⟩;rw[Option.some.inj z]at h3;refine aJ h3 λo' hu h3=>aJ hu λo2 ho2 hu=>?_;rw[<-Option.some.inj h3,getElem?_set_self (List.getElem?_eq_some_iff.mp ho2).1]at e;rw[<-Option.some.inj e,(qki hu).2]at hl;cases hl
theorem cX.sameOwn {ρ:Loc}{out:List D}{σ2:Store}{dU:Nat->Nat}(x:cX c C cenv ρ Z lk acc ads σ s out)(R':c.R (acc::Z) dU s.heap ads σ2)(ho:∀b,bH ads σ2 b↔bH ads σ b):cX c C cenv ρ Z dU acc ads σ2 s out:=by
 have hw:∀a,WW (acc::Z) ads σ2 a->WW (acc::Z) ads σ a:=λa w=>w.imp id (ho a).mp;refine⟨R',x.V.mono (Sub.refl _) (λ_ _ _ _ e=>e) (λa _ _ w=>hw a w) (λ_ _ _ e=>e) (λa h _ q=>h ((ho a).mp q)) (λ_ _=>gW.same λ_ e=>e),?_⟩;refine bM (x.acc) λvs h1 r l=>?_;exact⟨vs,h1,aX.mono (Sub.refl _) (λ_ _ _ _ e=>e) (λa _ _ w=>hw a w) _ _ r,l⟩
theorem cX.stepI {ρ:Loc}{out:List D}{I:Addr}{o:Obj}{h':Heap}{tk:Nat}(x:cX c C cenv ρ Z lk acc ads σ s out)(ho:s.heap.get? I=some o)(hK:lF o)(hw:¬WW (acc::Z) ads σ I)(hk:∀b o,b≠I->s.heap.get? b=some o->h'.get? b=some o)(R':c.R (acc::Z) lk h' ads σ):cX c C cenv ρ Z lk acc ads σ {s with heap:=h',toks:=tk} out:=by
 have hz:∀a o,¬WW (acc::Z) ads σ a->Fz o->s.heap.get? a=some o->h'.get? a=some o:=λa o' _ hf e=>hk a o' (λq=>by subst q;rw[ho]at e;cases e;exact hK.notFz hf) e;refine⟨R',x.V.mono (Sub.refl _) hz (λ_ _ _ w=>w) (λa o' hf e=>hk a o' (λq=>?_) e) (λa h _=>h) (λa _ o' e hnf=>⟨o',hk a o' (λq=>by subst q;rw[ho]at e;cases e;obtain⟨_,vs,z⟩:=hK;refine fD (hnf) λes ep y=>?_;rw[z]at y;cases y) e,hnf⟩),?_⟩
 ·subst q;rcases hf with hf|⟨y,hf⟩
  ·rw[ho]at e;cases e;exact(x.V.frFz hf _ ho).2 hK
  ·obtain⟨_,_,ov,o2,h2,hd⟩:=x.V.cown y a hf;rw[ho]at h2;cases h2;obtain⟨_,vs,q⟩:=hK;rw[hd]at q;cases q
 ·refine bM (x.acc) λvs qh2 r l=>?_;obtain⟨m,h1⟩:=qh2;exact⟨vs,⟨m,hk _ _ (λq=>hw (.inl (q▸mem_cons_self))) h1⟩,aX.mono (Sub.refl _) hz (λ_ _ _ w=>w) _ _ r,l⟩
theorem cX.store {ρ:Loc}{out:List D}{t:Nat}{x:Str}{d:D}{a:Addr}{h':Heap}{tk:Nat}(b:lD S C C₁ t x)(I:cX c C cenv ρ Z lk acc ads σ s out)(ha:dY cenv a)(hk:∀b o,b≠a->s.heap.get? b=some o->h'.get? b=some o)(R':c.R (acc::Z) lk h' ads σ)(V':bK c C₁ cenv (ρ.set t (some d)) (acc::Z) ads σ h'):cX c C₁ cenv (ρ.set t (some d)) Z lk acc ads σ {s with heap:=h',toks:=tk} out:=by
 refine⟨R',V',?_⟩;refine bM (I.acc) λvs qh3 r l=>?_;obtain⟨m,h1⟩:=qh3;have hne:acc≠a:=λq=>by subst q;exact(I.V.frFz ha _ h1).1 (.inl ⟨_,_,rfl⟩)
 exact⟨vs,⟨m,hk _ _ hne h1⟩,aX.mono (Sub.refl _) (λb o _ hf e=>hk b o (λq=>by subst q;exact(I.V.frFz ha _ e).1 hf) e) (λ_ _ _ w=>w) _ _ r,l⟩
theorem cX.forget {ρ:Loc}{out:List D}{t:Nat}{x:Str}{d:D}(b:lD S C C₁ t x)(hnot:∀y,C.slots.lookup t≠some y)(I:cX c C₁ cenv (ρ.set t (some d)) Z lk acc ads σ s out):cX c C cenv ρ Z lk acc ads σ s out :=
 ⟨I.R,I.V.forget b hnot,I.acc⟩
noncomputable def BodyOk (c:bJ)(n:Nat)(S:Str->Prop)(F:aU)(elt:Expr)(eN:List Comprehension)(scope:Scope)(pos:Pos)(fe:Loc->Store->Option (D×Store))(gs:List G)(C₁:SC)(depth:Nat):Prop :=
 ∀(A:Around),dI A n C₁.fr->∀(Z:List Addr) (lk:Nat->Nat) (s:Shared) (ads:aY) (ρ:Loc) (σ:Store) (r:List D) (σ':Store) (acc:Addr) (out:List D) (cenv:Env) (Q:Shared->Prop) (E:Value->Shared->Prop),GJ S cenv->c.h₀.get? acc=none->nU F gs fe ρ σ=some (r,σ') ->
  cX c C₁ cenv ρ Z lk acc ads σ s out->out.length+r.length<=lim->(∀s' aG,b8 (YC acc cenv) ads σ s aG σ' s'->cX c C₁ cenv ρ Z lk acc aG σ' s' (out++r)->Q s') ->
  (match eN[depth+1]? with
   | some g'=>wpAny (model c.prog c.w) A (eval g'.iter cenv) (λx s₅=>wpAny (model c.prog c.w) A (pyIter x) (λit' s₆=>wpAny (model c.prog c.w) A (runOwn (.compStart (.ListComp elt eN scope pos) (depth+1) it' (.ref acc) cenv) cenv) (λ_ s₇=>Q s₇) E s₆) E s₅) E s
   | none=>wpAny (model c.prog c.w) A (eval elt cenv) (λx s₅=>wpAny (model c.prog c.w) A (call (.builtin "list.append") [.ref acc,x]) (λ_ s₆=>Q s₆) E s₅) E s)
theorem UL {F:aU}(hF:fB F.F){elt:Expr}{eN:List Comprehension}{scope:Scope}{pos:Pos}{fe:Loc->Store->Option (D×Store)}(hfe:∀ρ σ,bF σ s2 (fe ρ σ)){gs:List G}{C C₁:SC}{t:Nat}{x:Str}{px:Pos}{iter:Expr}{ifs:List E}{cC:List Expr}{depth:Nat}(hg:eN[depth]?=some ⟨.Name x px,iter,cC,0⟩)(hnext:∀env g',eN[depth+1]?=some g'->g'.is_async=0/\∀v,foldedSetIterable g'.iter env v=pure v)(hb:lD S C C₁ t x)(hnot:∀y,C.slots.lookup t≠some y)(hC:lG c n C₁ cC (gJ F ifs))(hB:BodyOk c n S F elt eN scope pos fe gs C₁ depth){A:Around}(hA:dI A n C₁.fr){Z:List Addr}{lk:Nat->Nat}{s:Shared}{ads:aY}{ρ:Loc}{σ:Store}{l rs:List D}{σ':Store}{acc:Addr}{out:List D}{I:Addr}{cenv:Env}{R:Result->Shared->Prop}(hS:GJ S cenv)(hacc:c.h₀.get? acc=none)(hov:j6 (xQ F t ifs gs fe ρ) l σ=some (rs,σ'))(hinv:cX c C cenv ρ Z lk acc ads σ s out)(hlen:out.length+rs.length<=lim)(hit:dB c (acc::Z) lk ads σ s.heap I l)(jK:¬WW (acc::Z) ads σ I)(rK:c.h₀.get? I=none)(hR:∀s' aG,oN (λb=>YC acc cenv b\/b=I) ads σ s aG σ' s'->cX c C cenv ρ Z lk acc aG σ' s' (out++rs)->R (.ok .next) s') :
  codeAny (model c.prog c.w) A (.compLoop (.ListComp elt eN scope pos) depth (.ref I) (.ref acc) cenv) R s:=by
 let Inv:Nat->Shared->Prop:=λm s₁=>∃l₁ cV σ₁ out₁ DQ,l₁.length=m/\j6 (xQ F t ifs gs fe ρ) l₁ σ₁=some (DQ,σ')/\out₁++DQ=out++rs/\cX c C cenv ρ Z lk acc cV σ₁ s₁ out₁/\dB c (acc::Z) lk cV σ₁ s₁.heap I l₁/\¬WW (acc::Z) cV σ₁ I /\
  b8 (λb=>YC acc cenv b\/b=I) ads σ s cV σ₁ s₁
 refine qdh Inv (λm s₁ hI=>?_) l.length ⟨l,ads,σ,out,rs,rfl,hov,rfl,hinv,hit,jK,b8.refl⟩;refine W2 (hI) λl₁ cV σ₁ out₁ DQ hm hov htot hinv hit jK hX=>?_;refine aF (hit.obj) λoI hoI vW=>?_;refine qdi hg (hnext cenv) ?_;refine hide λH kk=>?_;cases l₁ with
 | nil =>
  cases (show some ([],σ₁)=some (DQ,σ') from hov);refine kk ?_;refine next_end hA.handled hinv.R hit jK rK λh' tk hk R'=>?_;have hinv':=hinv.stepI (tk:=tk) hoI vW jK hk R';refine hR _ cV ⟨hX.pre,λb o hn hy e=>SO.thru (hX.kept b o hn hy e) λo'=>hk b o' (λq=>hy (.inr q)),hX.own,λb hy e=>(hX.has b e).kept λo=>hk b o (λq=>hy (.inr q)),fD (hX.rest) λ_ _ e=>⟨h',tk,by rw[e]⟩⟩ ?_;rw[<-htot,append_nil];exact hinv'
 | cons d l₂ =>
  refine aZ hov λr σ₂ hbody hov=>aZ hov λqir σ₃ hrest hov=>?_;cases hov;refine kk ?_;refine next_item hinv.R hit jK rK λv h₂ tk hk R₂ rv hit₂=>?_;have i2:=hinv.stepI (tk:=tk) hoI vW jK hk R₂;have qeT:Heap.Has h₂ I:=aF (hit₂.obj) λo e _=>⟨o,e⟩;have x2:b8 (λb=>YC acc cenv b\/b=I) cV σ₁ s₁ cV σ₁ {s₁ with heap:=h₂,toks:=tk}:=b8.one hk (.inr rfl) qeT;dsimp only;show wpAny _ A (pure ()) _ _ _;refine wpAny_pure ?_;refine wpAny_assign_Name (qbQ i2.R i2.V hb.names hb.fr hb.comp hb.look hb.kind rv λa h₃ tk₃ ha hac hal hk₃ qcy V₃=>?_);have i3:=i2.store (tk:=tk₃) hb ha hk₃ qcy V₃;have qeS:Heap.Has h₃ a:=i3.V.frHas ha;have y3:b8 (YC acc cenv) cV σ₁ {s₁ with heap:=h₂,toks:=tk} cV σ₁ {s₁ with heap:=h₃,toks:=tk₃}:=b8.one hk₃ (.inr ⟨ha,hb.kind.elim (λq=>le_of_eq (hal q).symm) λq=>hS x hb.own a (hac q)⟩) qeS;have p8:=hit₂.extY i2 jK y3 (Lk.refl _);refine aZ hbody λb uN ht hbody=>?_;refine hC A (acc::Z) lk _ cV _ σ₁ cenv b uN ht hA i3.R i3.V _ _ λs₄ uW x4 R₄=>?_;have i4:=i3.ext x4 R₄;have y4:b8 (YC acc cenv) cV σ₁ _ uW uN s₄:=b8.of_ext x4 i3.yOwn;have qC:=p8.extY i3 jK y4 (KH hF ifs _ _ _ ht);have tO:¬WW (acc::Z) uW uN I:=by refine aF (p8.obj) λo e _=>?_;exact λq=>jK (x4.ww I o e q)
  have JH:∀b,YC acc cenv b\/b=I->¬bH cV σ₁ b:=λb q=>q.elim (hinv.yOwn b) λz=>z▸λy=>jK (.inr y);have toI:∀{aG σ' s' s''},b8 (YC acc cenv) cV σ₁ s'' aG σ' s'->b8 (λb=>YC acc cenv b\/b=I) cV σ₁ s'' aG σ' s':=λz=>z.mono (λ_=>.inl) JH;have fin:∀s' aG uO,uO=σ₂->b8 (YC acc cenv) uW uN s₄ aG uO s'->Lk uN uO->cX c C₁ cenv (ρ.set t (some d)) Z lk acc aG uO s' (out₁++r) ->
    (Code.compLoop (.ListComp elt eN scope pos) depth (.ref I) (.ref acc) cenv)=.compLoop (.ListComp elt eN scope pos) depth (.ref I) (.ref acc) cenv/\∃m',m'<m/\Inv m' s':=by
   intro s' aG uO hz y5 hl5 i5;subst hz;refine⟨rfl,l₂.length,?_,l₂,aG,uO,out₁++r,qir,rfl,hrest,?_,i5.forget hb hnot,?_,?_,?_⟩
   ·rw[<-hm];simp
   ·rw[<-htot,append_assoc]
   ·exact qC.extY i4 tO y5 hl5
   ·intro q;rcases q with q|q
    ·exact tO (.inl q)
    ·exact y5.notOwned (λz=>tO (.inr z)) (aF (qC.obj) λo e _=>⟨o,e⟩) q
   ·exact((hX.trans x2).trans (toI y3)).trans (toI (y4.trans y5))
  refine qfu (λhb=>?_) (λhb=>?_)
  ·have hl2:out₁.length+r.length<=lim:=by
    have:=congrArg List.length htot;simp only[length_append]at this;exact aA (eU 0x21af0a1054a154a32a1a1 rfl (aQ this) hlen)
   exact hB A hA Z lk s₄ uW _ uN r σ₂ acc out₁ cenv _ _ hS hacc (UT hb hbody) i4 hl2 λs' aG y5 i5=>fin s' aG σ₂ rfl y5 (KJ hF gs hfe _ _ _ (UT hb hbody)) i5
  ·exact eG (qdm hb hbody) λz1 z2=>fin s₄ uW _ z2 b8.refl (Lk.refl _) (by rw[<-z1,append_nil];exact i4)
theorem qc5 {F:aU}{elt:Expr}{eN:List Comprehension}{scope:Scope}{pos:Pos}{fe:Loc->Store->Option (D×Store)}{C₁:SC}{depth:Nat}(hnone:eN[depth+1]?=none)(hE:bL c n C₁ elt fe):BodyOk c n S F elt eN scope pos fe [] C₁ depth:=by
 intro A hA Z lk s ads ρ σ r σ' acc out cenv Q E hS hacc hev hinv hlen k;rw[hnone];refine aZ hev λd σ1 h1 h2=>?_;cases h2;refine hE A (acc::Z) lk s ads ρ σ cenv d _ h1 hA hinv.R hinv.V _ _ λv s1 aN x1 R1 r1=>?_;have i1:=hinv.ext x1 R1;exact qcM i1 hacc r1 (by simpa using hlen) λs2 y2 i2=>k s2 aN ((b8.of_ext x1 hinv.yOwn).trans y2) i2
theorem qc4 {F:aU}(hF:fB F.F){elt:Expr}{eN:List Comprehension}{scope:Scope}{pos:Pos}{fe:Loc->Store->Option (D×Store)}(hfe:∀ρ σ,bF σ s2 (fe ρ σ)){C C₁:SC}{depth:Nat}{gs:List G}{t:Nat}{x:Str}{px:Pos}{it:It}{iter:Expr}{ifs:List E}{cC:List Expr}(hsome:eN[depth+1]?=some ⟨.Name x px,iter,cC,0⟩)(hnext:∀env g',eN[depth+1+1]?=some g'->g'.is_async=0/\∀v,foldedSetIterable g'.iter env v=pure v)(hb:lD S C C₁ t x)(hnot:∀y,C.slots.lookup t≠some y)(hI:nP c n C iter (kJ F it))(hC:lG c n C₁ cC (gJ F ifs))(hB:BodyOk c n S F elt eN scope pos fe gs C₁ (depth+1)) :
  BodyOk c n S F elt eN scope pos fe (.mk [t] false it ifs::gs) C depth:=by
 intro A hA Z lk s ads ρ σ r σ' acc out cenv Q E hS hacc hev hinv hlen k;rw[hsome];dsimp only;refine iQ hev λl σ1 u h1 hev=>aZ hev λr' σ2 h2 hev=>aJ hev λσ3 h3 hev=>?_;cases hev;have h2':j6 (xQ F t ifs gs fe ρ) l σ1=some (r',σ2):=h2;refine hI A (acc::Z) lk s ads ρ σ cenv l σ1 u h1 hA hinv.R hinv.V _ _ λJ s₅ RM dU hlk x5 R5 ZQ hJ hJw hJb=>?_;have i5:cX c C cenv ρ Z dU acc RM σ1 s₅ out:=⟨R5,hinv.V.ext x5,by
  refine bM (hinv.acc) λvs qh4 r l=>?_;obtain⟨m,h⟩:=qh4;exact⟨vs,⟨m,SO.ex (x5.kept _ _ (hinv.R.zown _ mem_cons_self) h) (Fz.nd (.inl ⟨_,_,rfl⟩))⟩,x5.repL r,l⟩⟩
 have loop:∀R:Result->Shared->Prop,(∀s' aG,oN (λb=>YC acc cenv b\/b=J) RM σ1 s₅ aG σ2 s'->cX c C cenv ρ Z dU acc aG σ2 s' (out++r')->R (.ok .next) s') ->
   codeAny (model c.prog c.w) A (.compLoop (.ListComp elt eN scope pos) (depth+1) (.ref J) (.ref acc) cenv) R s₅ :=
  λR hR=>UL hF hfe hsome hnext hb hnot hC hB (hb.fr▸hA) hS hacc h2' i5 hlen ZQ hJw hJb hR
 refine wpAny_runOwn ?_;refine UG hsome rfl (loop _ ?_) (ZV ZQ (loop _ ?_))
 all_goals
  intro s' aG xe i6;dsimp only;refine bI (qb4 i6.R hlk h3) λR7 vZ=>?_;have i7:=i6.sameOwn R7 vZ;refine k s' aG ?_ i7;refine dH (x5.pre) λrr hr=>?_;refine⟨?_,λb o hn hy e=>?_,λb e=>(Classical.em (YC acc cenv b)).elim (λhy=>i7.yHas hy) (λhy=>xe.has b (λq=>q.elim hy λz=>by obtain⟨o,e⟩:=e;rw[z,hJ]at e;cases e) (x5.has b e)),λb e=>?_,?_⟩
  ·refine dH (xe.pre) λq hq=>?_;exact⟨rr++q,by rw[hq,hr];simp⟩
  ·exact SO.then (x5.kept b o hn e) λo' e'=>xe.kept b o' (x5.notOwned hn ⟨o,e⟩) (λq=>q.elim hy λz=>by rw[z,hJ]at e;cases e) e'
  ·rcases xe.own b ((vZ b).mp e) with e|e
   ·exact x5.own b e
   ·by_cases hbo:bH ads σ b
    ·exact .inl hbo
    ·refine .inr ?_;cases hs:s.heap.get? b with
     | none=>rfl
     | some o=>refine aF (x5.kept b o hbo hs) λo' q _=>?_;rw[q]at e;cases e
  ·refine fD (x5.rest) λh tk e=>?_;refine fD (xe.rest) λh' tk' e'=>?_;exact⟨h',tk',by rw[e',e]⟩
theorem qc3 {F:aU}(hF:fB F.F){elt:Expr}{eN:List Comprehension}{scope:Scope}{pos:Pos}{fe:Loc->Store->Option (D×Store)}(hfe:∀ρ σ,bF σ s2 (fe ρ σ)) :
  ∀{gs:List G} {cs:List Comprehension} {C₁ C₂:SC} {depth:Nat},lE c n F S C₁ gs cs C₂->eN.drop (depth+1)=cs->bL c n C₂ elt fe ->
   BodyOk c n S F elt eN scope pos fe gs C₁ depth/\∀env g',eN[depth+1]?=some g'->g'.is_async=0/\∀v,foldedSetIterable g'.iter env v=pure v:=by
 intro gs cs C₁ C₂ depth hG
 induction hG generalizing depth with
 | nil =>
  intro hd hE;have:=tE hd;exact⟨qc5 this hE,λenv g' e=>by rw[this]at e;cases e⟩
 | cons hb hnot hI hC hf hG ih =>
  intro hd hE;refine bI (tD hd) λh1 h2=>?_;refine bI (ih (depth:=depth+1) h2 hE) λhB hnext=>?_;refine⟨qc4 hF hfe h1 hnext hb hnot hI hC hB,λenv g' e=>?_⟩;rw[h1]at e;cases e;exact⟨rfl,hf env⟩
end
noncomputable def gF (cells:List (Str×Addr)):List (Str×NameKind)->List (Str×Addr)->List (Str×Addr)
 | [],acc=>acc
 | (n,k)::r,acc=>if k==.free then gF cells r ((n,(cells.lookup n).getD 0)::acc) else gF cells r acc
theorem rC (cells:List (Str×Addr)):∀(names:List (Str×NameKind)) (acc:List (Str×Addr)),gF cells names acc=gF cells names []++acc
 | []=>λacc=>rfl
 | (n,k)::r=>λacc=>by
  unfold gF;split
  ·rw[rC cells r,rC cells r [_]];simp
  ·exact rC cells r acc
theorem pL:∀(names:List (Str×NameKind)) (m:Nat) (acc:List (Str×Addr)),cellsFrom m names acc=cellsFrom m names []++acc
 | []=>λm acc=>rfl
 | (n,k)::r=>λm acc=>by
  unfold cellsFrom;split
  ·rw[pL r,pL r _ [_]];simp
  ·exact pL r m acc
theorem vH {cells:List (Str×Addr)}:∀{names:List (Str×NameKind)} {x:Str} {a:Addr},(x,a)∈gF cells names []->(x,NameKind.free)∈names/\a=(cells.lookup x).getD 0
 | [],_,_,h=>by cases h
 | (n,k)::r,x,a,h=>by
  unfold gF at h;split at h
  ·rename_i hk;rw[rC]at h;rcases mem_append.mp h with h|h
   ·obtain⟨h1,h2⟩:=vH h;exact⟨mem_cons_of_mem _ h1,h2⟩
   ·rcases mem_singleton.mp h with h;cases h;rw[beq_iff_eq.mp hk];exact⟨mem_cons_self,rfl⟩
  ·obtain⟨h1,h2⟩:=vH h;exact⟨mem_cons_of_mem _ h1,h2⟩
theorem qaC {cells:List (Str×Addr)}:∀{names:List (Str×NameKind)} {x:Str},(x,NameKind.free)∈names->∃a,(x,a)∈gF cells names []
 | [],_,h=>by cases h
 | (n,k)::r,x,h=>by
  unfold gF;rcases mem_cons.mp h with h|h
  ·cases h;rw[if_pos (beq_self_eq_true _),rC];exact⟨_,mem_append_right _ mem_cons_self⟩
  ·obtain⟨a,h⟩:=qaC (cells:=cells) h;split
   ·rw[rC];exact⟨a,mem_append_left _ h⟩
   ·exact⟨a,h⟩
theorem vG:∀{names:List (Str×NameKind)} {m:Nat} {x:Str} {a:Addr},(x,a)∈cellsFrom m names []->(x,NameKind.cell)∈names
 | [],_,_,_,h=>by cases h
 | (n,k)::r,m,x,a,h=>by
  unfold cellsFrom at h;split at h
  ·rename_i hk;rw[pL]at h;rcases mem_append.mp h with h|h
   ·exact mem_cons_of_mem _ (vG h)
   ·rcases mem_singleton.mp h with h;cases h;rw[beq_iff_eq.mp hk];exact mem_cons_self
  ·exact mem_cons_of_mem _ (vG h)
theorem wD:∀{names:List (Str×NameKind)} {m:Nat} {x:Str},(x,NameKind.cell)∈names->∃a,(x,a)∈cellsFrom m names []
 | [],_,_,h=>by cases h
 | (n,k)::r,m,x,h=>by
  unfold cellsFrom;rcases mem_cons.mp h with h|h
  ·cases h;rw[if_pos (beq_self_eq_true _),pL];exact⟨_,mem_append_right _ mem_cons_self⟩
  ·split
   ·obtain⟨a,h⟩:=wD (m:=m+1) h;rw[pL];exact⟨a,mem_append_left _ h⟩
   ·exact wD (m:=m) h
theorem BJ {α:Type}:∀{l:List (Str×α)} {x:Str} {a:α},(x,a)∈l->∃b,l.lookup x=some b
 | (y,b)::r,x,a,h=>by
  rw[lookup_cons];by_cases hx:x=y
  ·subst hx;simp
  ·rw[show (x==y)=false by simpa using hx];rcases mem_cons.mp h with h|h
   ·cases h;exact absurd rfl hx
   ·exact BJ h
theorem lookup_none {α:Type}{l:List (Str×α)}{x:Str}(h:∀a,(x,a)∉l):l.lookup x=none:=by
 cases e:l.lookup x with
 | none=>rfl
 | some a=>exact absurd (mem_of_lookup e) (h a)
theorem N6 {names:List (Str×NameKind)}(h:(names.map (·.1)).Nodup):∀{x:Str} {k k':NameKind},(x,k)∈names->(x,k')∈names->k=k':=by
 induction names with
 | nil=>intro _ _ _ h;cases h
 | cons y r ih =>
  intro x k k' h1 h2;rw[map_cons,nodup_cons]at h;rcases mem_cons.mp h1 with h1|h1 <;> rcases mem_cons.mp h2 with h2|h2
  ·rw[<-h1]at h2;cases h2;rfl
  ·exact absurd (mem_map.mpr ⟨_,h2,rfl⟩) (by rw[<-h1]at h;exact h.1)
  ·exact absurd (mem_map.mpr ⟨_,h1,rfl⟩) (by rw[<-h2]at h;exact h.1)
  ·exact ih h.2 h1 h2
theorem U6 {cells:List (Str×Addr)}(hp:cells.Pairwise λx y=>x.2≠y.2):∀{names:List (Str×NameKind)},(names.map (·.1)).Nodup->(∀x,(x,NameKind.free)∈names->∃a,cells.lookup x=some a)->(gF cells names []).Pairwise λx y=>x.2≠y.2
 | []=>λ_ _=>Pairwise.nil
 | (n,k)::r=>λhn hc=>by
  rw[map_cons,nodup_cons]at hn;have ih:=U6 hp hn.2 λx hx=>hc x (mem_cons_of_mem _ hx);unfold gF;split
  ·rename_i hk;rw[rC,pairwise_append];refine⟨ih,List.pairwise_singleton _ _,λp h1 q h2=>?_⟩;rcases mem_singleton.mp h2 with rfl;refine hide λH gH=>?_;obtain⟨h3,h4⟩:=vH (x:=p.1) (a:=p.2) h1;obtain⟨a,ha⟩:=hc p.1 (mem_cons_of_mem _ h3);obtain⟨b,hb⟩:=hc n (by rw[beq_iff_eq.mp hk];exact mem_cons_self);refine gH ?_;rw[h4,ha];simp only[Option.getD_some,hb];intro e;subst e;have:=name_of_addr hp (mem_of_lookup ha) (mem_of_lookup hb);exact hn.1 (mem_map.mpr ⟨_,h3,this⟩)
  ·exact ih
section
variable {M:Model}{A:Around}{E:Value->Shared->Prop}{s:Shared}
theorem qdg {scope:Scope}{env:Env}(h:∀x,(x,NameKind.free)∈scope.names->∃a,env.cells.lookup x=some a):closureFor scope env=pure (gF env.cells scope.names []):=by
 have key:∀(names:List (Str×NameKind)) (acc:List (Str×Addr)),(∀x,(x,NameKind.free)∈names->∃a,env.cells.lookup x=some a) ->
   (forIn names acc (λ(x:Str×NameKind) (cs:List (Str×Addr))=>match x with
    | (name,kind)=>if (kind==NameKind.free)=true then(do let __do_lift <-cellOf env name;pure (ForInStep.yield ((name,__do_lift)::cs))) else pure (ForInStep.yield cs):Str×NameKind->List (Str×Addr)->Sem (ForInStep (List (Str×Addr)))))=pure (gF env.cells names acc):=by
  intro names
  induction names with
  | nil=>intro acc _;rfl
  | cons y r ih =>
   intro acc hh;obtain⟨n,k⟩:=y;rw[forIn_cons];unfold gF;by_cases hk:(k==NameKind.free)=true
   ·obtain⟨a,ha⟩:=hh n (by rw[<-beq_iff_eq.mp hk];exact mem_cons_self);simp only[hk,if_true];unfold cellOf;rw[ha];exact ih _ λx hx=>hh x (mem_cons_of_mem _ hx)
   ·have hk':(k==NameKind.free)=false:=by simpa using hk
    simp only[hk',false_eq_true,if_false];exact ih _ λx hx=>hh x (mem_cons_of_mem _ hx)
 unfold closureFor;have:=key scope.names [] h;dsimp only;rw[this];rfl
theorem qgz {scope:Scope}{cl:List (Str×Addr)}{env:Env}{Q:Env->Shared->Prop}(hQ:Q (newEnv scope s.heap.objs.size env.globals (cellsFrom (s.heap.objs.size+1) scope.names cl) env.qual none .none (some env) builtinsNs) {s with heap:=pushCells (s.heap.push {cls:=.type "dict",data:=.dict #[]}) scope.names}) :
  wpAny M A (newFunctionEnv scope env.globals cl [] env.qual none .none (some env)) Q E s:=by
 simp only[newFunctionEnv,Option.isSome_some,if_true];refine wpAny_bind (wpAny_alloc ?_);refine wpAny_bind (wpAny_layCells _ (λname kind cells=>by cases hkc:kind==NameKind.cell <;> simp[hkc]) _ _ _ _ ?_);rw[show ({s with heap:=s.heap.push {cls:=.type "dict",data:=.dict #[]}}:Shared).heap.objs.size=s.heap.objs.size+1 from Heap.size_push ..];rw[forIn_nil];exact wpAny_bind (wpAny_pure (wpAny_pure hQ))
end
structure sX (C:SC) (scope:Scope) (cW:SC):Prop where
 kind:scope.kind=.function
 nodup:(scope.names.map (·.1)).Nodup
 free:∀x,(x,NameKind.free)∈scope.names->C.names.lookup x=some .cell
 fr:cW.fr=C.fr
 comp:cW.comp=true
 names:cW.names=scope.names.map λ(p:Str×NameKind)=>if p.2==.free then(p.1,NameKind.cell) else p
 slots:∀(i:Nat) (x:Str),cW.slots.lookup i=some x->C.slots.lookup i=some x/\(x,NameKind.free)∈scope.names
noncomputable def ownNames (scope:Scope)(x:Str):Prop:=(x,NameKind.local)∈scope.names\/(x,NameKind.cell)∈scope.names
section
variable {c:bJ}{A:Around}{Z:List Addr}{lk:Nat->Nat}{s:Shared}{ads:aY}{σ σ':Store}{n:Nat}{C cW:SC}{env:Env}{acc:Addr}{scope:Scope}{ρ:Loc}
noncomputable def mR (scope:Scope)(env:Env)(L:Addr):Env :=
 {newEnv scope L env.globals (cellsFrom (L+1) scope.names (gF env.cells scope.names [])) env.qual none .none (some env) builtinsNs with scope:=relabel scope env}
theorem qii (V:bK c C env ρ Z ads σ s.heap)(K:sX C scope cW):(relabel scope env).names=cW.names:=by
 rw[K.names];unfold relabel;dsimp only;apply map_congr_left;intro p hp;obtain⟨n,k⟩:=p;dsimp only;by_cases hk:k=.free
 ·subst hk;have:env.kindOf n=some .cell:=by unfold Env.kindOf;rw[V.names];exact K.free n hp
  rw[this,V.kind];rfl
 ·have:(k==NameKind.free)=false:=by simpa using hk
  rw[this];rfl
theorem KZ {f:NameKind->NameKind}:∀{names:List (Str×NameKind)} {x:Str},(names.map λp=>(p.1,f p.2)).lookup x=(names.lookup x).map f
 | [],_=>rfl
 | (n,k)::r,x=>by
  rw[map_cons,lookup_cons,lookup_cons];cases x==n
  ·exact KZ
  ·rfl
theorem z9 {α:Type}:∀{l:List (Str×α)} {x:Str} {a:α},(l.map (·.1)).Nodup->(x,a)∈l->l.lookup x=some a
 | (y,b)::r,x,a,hn,h=>by
  rw[map_cons,nodup_cons]at hn;rw[lookup_cons];by_cases hx:x=y
  ·subst hx;simp only[beq_self_eq_true];rcases mem_cons.mp h with h|h
   ·cases h;rfl
   ·exact absurd (mem_map.mpr ⟨_,h,rfl⟩) hn.1
  ·rw[show (x==y)=false by simpa using hx];rcases mem_cons.mp h with h|h
   ·cases h;exact absurd rfl hx
   ·exact z9 hn.2 h
theorem qdj (R:c.R Z lk s.heap ads σ)(V:bK c C env ρ Z ads σ s.heap)(K:sX C scope cW) :
  bK c cW (mR scope env s.heap.objs.size) ρ Z ads σ (pushCells (s.heap.push {cls:=.type "dict",data:=.dict #[]}) scope.names) /\
  c.R Z lk (pushCells (s.heap.push {cls:=.type "dict",data:=.dict #[]}) scope.names) ads σ /\
  (∀b o,s.heap.get? b=some o->(pushCells (s.heap.push {cls:=.type "dict",data:=.dict #[]}) scope.names).get? b=some o) /\
  GJ (ownNames scope) (mR scope env s.heap.objs.size):=by
 have hk:∀b o,s.heap.get? b=some o->(pushCells (s.heap.push {cls:=.type "dict",data:=.dict #[]}) scope.names).get? b=some o:=λb o e=>pushCells_keeps _ _ b o (Heap.get?_push_of_some _ e);have ok:=cellsFrom_ok scope.names (s.heap.push {cls:=.type "dict",data:=.dict #[]}) (s.heap.objs.size+1) [] ⟨λ_ _ hm=>(nomatch hm),Pairwise.nil⟩ (by rw[Heap.size_push];exact le_refl _);rw[Heap.size_push]at ok;have hfree:∀x,(x,NameKind.free)∈scope.names->∃a,env.cells.lookup x=some a:=λx hx=>fM (V.has x (K.free x hx)) λa _ h _=>⟨a,h⟩;have hcells:(mR scope env s.heap.objs.size).cells=cellsFrom (s.heap.objs.size+1) scope.names []++gF env.cells scope.names []:=pL _ _ _;have JK:∀x a,(x,a)∈gF env.cells scope.names []->env.cells.lookup x=some a:=λx a h=>by
  refine bI (vH h) λh1 h2=>?_;refine dH (hfree x h1) λb hb=>?_;rw[hb]at h2;rw[hb,h2];rfl
 have hlt:∀x a,(x,a)∈gF env.cells scope.names []->a<s.heap.objs.size:=λx a h=>by
  obtain⟨_,_,ov,o,ho,_⟩:=V.cown x a (mem_of_lookup (JK x a h));exact Heap.lt_size ho
 have YQ:∀x,(x,NameKind.free)∈scope.names->(mR scope env s.heap.objs.size).cells.lookup x=env.cells.lookup x:=λx hx=>by
  rw[hcells,List.lookup_append];rw[lookup_none (l:=cellsFrom (s.heap.objs.size+1) scope.names []) λa h=>nomatch N6 K.nodup hx (vG h)];refine dH (qaC (cells:=env.cells) hx) λa ha=>?_;refine dH (BJ ha) λb hb=>?_;rw[hb,JK x b (mem_of_lookup hb)];rfl
 have YM:∀x,(x,NameKind.cell)∈scope.names->∃a,(mR scope env s.heap.objs.size).cells.lookup x=some a/\(x,a)∈cellsFrom (s.heap.objs.size+1) scope.names []:=λx hx=>by
  rw[hcells,List.lookup_append];refine dH (wD (m:=s.heap.objs.size+1) hx) λa ha=>?_;refine dH (BJ ha) λb hb=>?_;exact⟨b,by rw[hb];rfl,mem_of_lookup hb⟩
 have XN:cW.names=scope.names.map λp=>(p.1,if p.2==.free then NameKind.cell else p.2):=by
  rw[K.names];apply map_congr_left;intro p _;split <;> rfl
 have hc0:∀x,cW.names.lookup x=some .cell->(x,NameKind.free)∈scope.names\/(x,NameKind.cell)∈scope.names:=λx hx=>by
  rw[XN,KZ (f:=λk=>if k==.free then NameKind.cell else k)]at hx;refine aF (Option.map_eq_some_iff.mp hx) λk h1 h2=>?_;have hm:=mem_of_lookup h1;by_cases hk:k=.free
  ·subst hk;exact .inl hm
  ·rw[show (k==NameKind.free)=false by simpa using hk]at h2;simp only[false_eq_true,if_false]at h2;subst h2;exact .inr hm
 have hNs:(pushCells (s.heap.push {cls:=.type "dict",data:=.dict #[]}) scope.names).Ns s.heap.objs.size λ_=>none:=(Heap.Ns.new s.heap (.type "dict")).keeps (pushCells_keeps _ _);have hcell:∀x a,(x,a)∈(mR scope env s.heap.objs.size).cells->¬bH ads σ a/\c.h₀.get? a=none/\∃ov,(pushCells (s.heap.push {cls:=.type "dict",data:=.dict #[]}) scope.names).IsCell a ov:=λx a h=>by
  rw[hcells]at h;rcases mem_append.mp h with h|h
  ·refine bI (ok.empty x a h) λh1 h2=>?_;have hn:s.heap.get? a=none:=by
    cases e:s.heap.get? a with
    | none=>rfl
    | some o=>exact absurd (Heap.lt_size e) (Nat.not_lt.mpr (le_trans (le_succ _) h2))
   exact⟨λq=>R.fresh_ww hn (.inr q),R.fresh_base hn,_,h1⟩
  ·obtain⟨h1,h2,ov,o,ho,hd⟩:=V.cown x a (mem_of_lookup (JK x a h));exact⟨h1,h2,ov,o,hk a o ho,hd⟩
 refine⟨⟨K.kind,qii V K,V.globals,V.builtins,⟨_,hNs,λi x d h1 h2 h3=>?_⟩,λx hx=>?_,λi x d a h1 h2 h3 h4=>?_,?_,⟨λq=>R.fresh_ww (bU _) (.inr q),R.fresh_base (bU _)⟩,hcell,K.fr.symm▸pR V.frs (λa _=>gW.same λo e=>hk a o e),K.fr.symm▸V.frn,λq=>by rw[K.comp]at q;cases q⟩,R.grow hk,hk,λx hx a ha=>?_⟩
 ·refine bI (K.slots i x h1) λ_ h5=>?_;rw[XN,KZ (f:=λk=>if k==.free then NameKind.cell else k),z9 K.nodup h5]at h2;cases h2
 ·rcases hc0 x hx with h|h
  ·obtain⟨a,ov,h1,o,ho,hd⟩:=V.has x (K.free x h);exact⟨a,ov,(YQ x h).trans h1,o,hk a o ho,hd⟩
  ·refine aF (YM x h) λa h1 h2=>?_;exact⟨a,_,h1,(ok.empty x a h2).1⟩
 ·refine bI (K.slots i x h1) λh5 h6=>?_;rw[YQ x h6]at h4;refine aF (V.cell i x d a h5 (K.free x h6) h3 h4) λv O8 r=>?_;obtain⟨o,ho,hd⟩:=O8;exact⟨v,⟨o,hk a o ho,hd⟩,Rep.mono (Sub.refl _) (λb o _ _ e=>hk b o e) (λ_ _ _ w=>w) _ _ r⟩
 ·rw[hcells,pairwise_append];refine⟨ok.apart,U6 V.apart K.nodup hfree,λp hp q hq e=>?_⟩;have h1:=(ok.empty p.1 p.2 hp).2;have h2:=hlt q.1 q.2 hq;rw[e]at h1;exact absurd h2 (Nat.not_lt.mpr (le_trans (le_succ _) h1))
 ·show s.heap.objs.size<=a;rcases hx with hx|hx
  ·exfalso;rw[hcells,List.lookup_append]at ha;have e1:=lookup_none (x:=x) (l:=cellsFrom (s.heap.objs.size+1) scope.names []) λb h=>nomatch N6 K.nodup hx (vG h);have e2:=lookup_none (x:=x) (l:=gF env.cells scope.names []) λb h=>nomatch N6 K.nodup hx (vH h).1;rw[e1,e2]at ha;cases ha
  ·refine aF (YM x hx) λb h1 h2=>?_;rw[h1]at ha;cases ha;exact le_trans (le_succ _) (ok.empty x a h2).2
theorem Rel.adopt {h:Heap}{a:Addr}{l:List D}(R:c.R (a::Z) lk h ads σ)(x:AccAt c Z ads σ h a l)(hb:c.h₀.get? a=none)(haZ:a∉Z):c.R Z lk h (ads++[(a,a)]) (σ++[.list l]):=by
 have hlen:=R.len;have hget:∀{j:Nat} {q:Addr×Addr},(ads++[(a,a)])[j]?=some q->(j=σ.length/\q=(a,a))\/(j<σ.length/\ads[j]?=some q):=λe=>R.get_last (o:=.list l) e;have hown:∀b,bH (ads++[(a,a)]) (σ++[.list l]) b->WW (a::Z) ads σ b:=by
  rintro b ⟨j,q,y,h1,h2,h3,h4⟩;rcases hget h1 with ⟨rfl,rfl⟩|⟨hj,h1⟩
  ·rcases h4 with rfl|rfl <;> exact .inl mem_cons_self
  ·rcases gP h2 with ⟨rfl,rfl⟩|⟨_,h2⟩
   ·exact absurd hj (lt_irrefl _)
   ·exact .inr ⟨j,q,y,h1,h2,h3,h4⟩
 have hw:∀b (o:Obj),h.get? b=some o->WW Z (ads++[(a,a)]) (σ++[.list l]) b->WW (a::Z) ads σ b:=λb _ _ q=>q.elim (λq=>.inl (mem_cons_of_mem _ q)) (hown b);refine bM (x) λvs hp hr hl=>?_;have hh:Heap.Has h a:=dH (hp) λm e=>⟨_,e⟩;have hne:∀(j:Nat) (q:Addr×Addr) (y:O),ads[j]?=some q->σ[j]?=some y->y.live=true->q.1≠a/\q.2≠a:=λj q y h1 h2 h3 =>
  ⟨λe=>R.zown a mem_cons_self ⟨j,q,y,h1,h2,h3,.inl e.symm⟩,λe=>R.zown a mem_cons_self ⟨j,q,y,h1,h2,h3,.inr e.symm⟩⟩
 refine⟨by simp[hlen],R.keep,λj q y h1 h2=>?_,λj j' q q' y y' h1 h1' h2 h2' l1 l2 YK=>?_,λj q h1=>?_,λb hb=>R.zlt b (mem_cons_of_mem _ hb),λj q y h1 h2 h3=>?_,λb hz q=>?_⟩
 ·rcases hget h1 with ⟨rfl,rfl⟩|⟨hj,h1⟩
  ·rcases gP h2 with ⟨_,rfl⟩|⟨hj,_⟩
   ·exact⟨vs,hp,aX.mono (Sub.append _ _) (λ_ _ _ _ e=>e) hw _ _ hr,hl,rfl⟩
   ·exact absurd hj (lt_irrefl _)
  ·rcases gP h2 with ⟨rfl,rfl⟩|⟨_,h2⟩
   ·exact absurd hj (lt_irrefl _)
   ·exact(R.objs j q y h1 h2).mono (Sub.append _ _) (λ_ _ _ _ e=>e) hw (λ_ _ e=>e) (λ_ _ e=>e)
 ·rcases hget h1 with ⟨rfl,rfl⟩|⟨hj,h1⟩ <;> rcases hget h1' with ⟨rfl,rfl⟩|⟨hj',h1'⟩
  ·exact absurd rfl YK
  ·rcases gP h2' with ⟨rfl,rfl⟩|⟨_,h2'⟩
   ·exact absurd hj' (lt_irrefl _)
   ·have:=hne j' q' y' h1' h2' l2;exact⟨Ne.symm this.1,Ne.symm this.2,Ne.symm this.1,Ne.symm this.2⟩
  ·rcases gP h2 with ⟨rfl,rfl⟩|⟨_,h2⟩
   ·exact absurd hj (lt_irrefl _)
   ·have:=hne j q y h1 h2 l1;exact⟨this.1,this.1,this.2,this.2⟩
  ·rcases gP h2 with ⟨rfl,rfl⟩|⟨_,h2⟩
   ·exact absurd hj (lt_irrefl _)
   ·rcases gP h2' with ⟨rfl,rfl⟩|⟨_,h2'⟩
    ·exact absurd hj' (lt_irrefl _)
    ·exact R.apart j j' q q' y y' h1 h1' h2 h2' l1 l2 YK
 ·rcases hget h1 with ⟨rfl,rfl⟩|⟨hj,h1⟩
  ·exact⟨hb,hb⟩
  ·exact R.new j q h1
 ·rcases hget h1 with ⟨rfl,rfl⟩|⟨hj,h1⟩
  ·exact⟨hh,hh⟩
  ·rcases gP h2 with ⟨rfl,rfl⟩|⟨_,h2⟩
   ·exact absurd hj (lt_irrefl _)
   ·exact R.alt j q y h1 h2 h3
 ·rcases q with ⟨j,q,y,h1,h2,h3,h4⟩;rcases hget h1 with ⟨rfl,rfl⟩|⟨hj,h1⟩
  ·rcases h4 with rfl|rfl <;> exact haZ hz
  ·rcases gP h2 with ⟨rfl,rfl⟩|⟨_,h2⟩
   ·exact absurd hj (lt_irrefl _)
   ·exact R.zown b (mem_cons_of_mem _ hz) ⟨j,q,y,h1,h2,h3,h4⟩
theorem qbz {F:aU}(hF:fB F.F){gZ:E}{elt:Expr}{cs:List Comprehension}{pos:Pos}{m:Bool}{t:Nat}{x:Str}{px:Pos}{it:It}{iter:Expr}{ifs:List E}{cC:List Expr}{gs:List G}{C₁ C₂:SC}(K:sX C scope cW)(hI:nP c n C iter (kJ F it))(hf:∀env v,foldedSetIterable iter env v=pure v)(hb:lD (ownNames scope) cW C₁ t x)(hnot:∀y,cW.slots.lookup t≠some y)(hC:lG c n C₁ cC (gJ F ifs))(hG:lE c n F (ownNames scope) C₁ gs cs C₂)(hE:bL c n C₂ elt (ev F gZ))(hA:dI A n C.fr)(R:c.R Z lk s.heap ads σ)(V:bK c C env ρ Z ads σ s.heap){l:List D}{d:D}(hev:nU F (.mk [t] false it ifs::gs) (ev F gZ) ρ σ=some (l,σ'))(hl:l.length<=lim){use:Option (Value->Sem Unit)}{Q:Value->Shared->Prop}{E:Value->Shared->Prop}(k:∀acc s' aG L h'',s.heap.get? acc=none->s.heap.get? L=none->(∃mm,s'.heap.Ns L mm)->acc≠L->Ext Z ads σ s aG σ' s'->c.R (acc::Z) lk s'.heap aG σ'->AccAt c Z aG σ' s'.heap acc l->c.h₀.get? acc=none->acc∉Z->¬bH aG σ' L->c.h₀.get? L=none->L∉acc::Z->compPost (model c.prog c.w) A E use Q (.ref acc) L (.ok h'') s') :
  wpAny (model c.prog c.w) A (comprehension (.ListComp elt (⟨.Name x px,iter,cC,0⟩::cs) scope pos) scope env (firstIterPos (⟨.Name x px,iter,cC,0⟩::cs) pos) (newList []) false (firstIter (⟨.Name x px,iter,cC,0⟩::cs) env) use) Q E s:=by
 have hfree:∀x,(x,NameKind.free)∈scope.names->∃a,env.cells.lookup x=some a:=λx hx=>fM (V.has x (K.free x hx)) λa _ h _=>⟨a,h⟩;refine bI (qc3 (scope:=scope) (pos:=pos) (eN:=⟨.Name x px,iter,cC,0⟩::cs) (depth:=0) hF (λρ σ=>cD hF gZ ρ σ) hG rfl hE) λhB hnext=>?_;refine wpAny_comprehension_free (g:=⟨.Name x px,iter,cC,0⟩) (gs:=cs) rfl (hf env) (qdg hfree) K.kind (λy hy hl=>?_) ?_
 ·have:=z9 K.nodup (show (y.1,y.2)∈scope.names from hy);rw[this,hl]
 refine iQ hev λli σ1 u h1 hev=>aZ hev λr' σ2 h2 hev=>aJ hev λσ3 h3 hev=>?_;cases hev;have h2':j6 (xQ F t ifs gs (ev F gZ) ρ) li σ1=some (r',σ2):=h2;show wpAny _ A (eval iter env) _ E s;refine hI A Z lk s ads ρ σ env li σ1 u h1 hA R V _ _ λI s₂ nQ dU hlk x2 R2 ZP hIf jK rK=>?_;refine wpAny_newList ?_ (by simp);have V2:=V.ext x2;have hk3:∀b o,s₂.heap.get? b=some o->(s₂.heap.push {cls:=.type "list",data:=.seq #[]}).get? b=some o:=λb o e=>Heap.get?_push_of_some _ e;have R3:c.R (s₂.heap.objs.size::Z) dU (s₂.heap.push {cls:=.type "list",data:=.seq #[]}) nQ σ1:=R2.aside (bU _) hk3 (o4 _);have Y6:∀a o,s₂.heap.get? a=some o->WW (s₂.heap.objs.size::Z) nQ σ1 a->WW Z nQ σ1 a:=λa o e w=>by
  rcases w with w|w
  ·rcases mem_cons.mp w with rfl|w
   ·rw[bU]at e;cases e
   ·exact .inl w
  ·exact .inr w
 have V3:bK c C env ρ (s₂.heap.objs.size::Z) nQ σ1 (s₂.heap.push {cls:=.type "list",data:=.seq #[]}):=V2.mono (Sub.refl _) (λa o _ _ e=>hk3 a o e) Y6 (λa o _ e=>hk3 a o e) (λa h _=>h) (λa _=>gW.same λo e=>hk3 a o e);have p8:dB c (s₂.heap.objs.size::Z) dU nQ σ1 (s₂.heap.push {cls:=.type "list",data:=.seq #[]}) I li:=ZP.mono (Sub.refl _) (Lk.refl _) (λo e=>hk3 I o e) (λa o _ _ e=>hk3 a o e) Y6;refine qgz ?_;have hst:({s₂ with heap:=s₂.heap.push {cls:=.type "list",data:=.seq #[]}}:Shared).heap=s₂.heap.push {cls:=.type "list",data:=.seq #[]}:=rfl;generalize hs3:({s₂ with heap:=s₂.heap.push {cls:=.type "list",data:=.seq [].toArray}}:Shared)=s₃;have zQ:s₃.heap=s₂.heap.push {cls:=.type "list",data:=.seq #[]}:=by rw[<-hs3]
 rw[<-zQ]at R3 V3 p8;refine xZ (qdj R3 V3 K) λV4 R4 tR hS=>?_;have Y9:c.h₀.get? s₂.heap.objs.size=none:=R2.fresh_base (bU _);have qeL:I≠s₂.heap.objs.size:=λq=>by refine aF (ZP.obj) λo e _=>?_;rw[q,bU]at e;cases e
 have vU:¬WW (s₂.heap.objs.size::Z) nQ σ1 I:=λw=>by
  rcases w with w|w
  ·rcases mem_cons.mp w with w|w
   ·exact qeL w
   ·exact jK (.inl w)
  ·exact jK (.inr w)
 let s₄:Shared:={s₃ with heap:=pushCells (s₃.heap.push {cls:=.type "dict",data:=.dict #[]}) scope.names};have qeN:s₃.heap.get? s₂.heap.objs.size=some {cls:=.type "list",data:=.seq #[]}:=by rw[zQ];exact Heap.get?_push_size _ rfl
 have i4:cX c cW (mR scope env s₃.heap.objs.size) ρ Z dU s₂.heap.objs.size nQ σ1 s₄ []:=⟨R4,V4,[],⟨0,tR _ _ qeN⟩,rfl,by simp⟩;have qC:dB c (s₂.heap.objs.size::Z) dU nQ σ1 s₄.heap I li:=p8.mono (Sub.refl _) (Lk.refl _) (λo e=>tR I o e) (λa o _ _ e=>tR a o e) (λ_ _ _ w=>w);have x4:Ext Z ads σ s nQ σ1 s₄:=by
  refine x2.trans ?_;have:s₄={s₂ with heap:=s₄.heap,toks:=s₂.toks}:=by
   subst hs3;rfl
  rw[this];exact Ext.more λb o e=>tR b o (by rw[zQ];exact hk3 b o e)
 have fresh:∀b,s₂.heap.get? b=none->s.heap.get? b=none:=λb h=>by
  cases e:s.heap.get? b with
  | none=>rfl
  | some o=>obtain⟨o',q⟩:=x2.has b ⟨o,e⟩;rw[h]at q;cases q
 have big:∀b,s₂.heap.objs.size<=b->s₂.heap.get? b=none:=λb h=>by
  cases e:s₂.heap.get? b with
  | none=>rfl
  | some o=>exact absurd (Heap.lt_size e) (Nat.not_lt.mpr h)
 have hsz:s₃.heap.objs.size=s₂.heap.objs.size+1:=by rw[zQ,Heap.size_push]
 have hY:∀b,(YC s₂.heap.objs.size (mR scope env s₃.heap.objs.size) b\/b=I)->s.heap.get? b=none:=by
  rintro b ((rfl|⟨_,h⟩)|rfl)
  ·exact fresh _ (bU _)
  ·refine fresh _ (big _ ?_);have h:s₃.heap.objs.size<=b:=h;rw[hsz]at h;exact le_trans (le_succ _) h
  ·exact hIf
 have loop:∀R:Result->Shared->Prop,(∀s' aG,oN (λb=>YC s₂.heap.objs.size (mR scope env s₃.heap.objs.size) b\/b=I) nQ σ1 s₄ aG σ2 s'->cX c cW (mR scope env s₃.heap.objs.size) ρ Z dU s₂.heap.objs.size aG σ2 s' ([]++r')->R (.ok .next) s') ->
   codeAny (model c.prog c.w) A (.compLoop (.ListComp elt (⟨.Name x px,iter,cC,0⟩::cs) scope pos) 0 (.ref I) (.ref s₂.heap.objs.size) (mR scope env s₃.heap.objs.size)) R s₄ :=
  λR hR=>UL hF (λρ σ=>cD hF gZ ρ σ) rfl hnext hb hnot hC hB (by rw[hb.fr,K.fr];exact hA) hS Y9 h2' i4 (by simpa using hl) qC vU rK hR
 refine UG (g:=⟨.Name x px,iter,cC,0⟩) rfl rfl (loop _ ?_) (ZV qC (loop _ ?_))
 all_goals
  intro s' aG xe i6;refine bI (qb4 i6.R hlk h3) λR7 vZ=>?_;have i7:=i6.sameOwn R7 vZ;have x7:Ext Z ads σ s aG σ' s':=by
   have:=oN.ext x4 xe hY;exact⟨this.pre,this.kept,λb e=>this.own b ((vZ b).mp e),this.has,this.rest⟩
  refine k s₂.heap.objs.size s' aG s₃.heap.objs.size .next (fresh _ (bU _)) (fresh _ (big _ (by rw[hsz];exact le_succ _))) (aF (i7.V.ns) λmm h _=>⟨mm,h⟩) (by rw[hsz];exact ne_of_lt (lt_succ_self _)) x7 R7 (by simpa using i7.acc) Y9 ?_ i7.V.lown.1 i7.V.lown.2 ?_
  ·intro hz;obtain⟨o,e⟩:=R2.zlt _ hz;rw[bU]at e;cases e
  ·intro hz;obtain⟨o,e⟩:=R3.zlt _ hz;rw[bU]at e;cases e
theorem qdk {l:List D}{aG:aY}{s':Shared}{L:Addr}{h':Heap}(hacc:s.heap.get? acc=none)(hL:s.heap.get? L=none)(hn:∃mm,s'.heap.Ns L mm)(hne:acc≠L)(x:Ext Z ads σ s aG σ' s')(R:c.R (acc::Z) lk s'.heap aG σ')(a:AccAt c Z aG σ' s'.heap acc l)(ho:¬bH aG σ' L)(hb:c.h₀.get? L=none)(hz:L∉acc::Z)(hs:Heap.SameBut L s'.heap h'):Ext Z ads σ s aG σ' {s' with heap:=h'}/\c.R (acc::Z) lk h' aG σ'/\AccAt c Z aG σ' h' acc l:=by
 have hk:∀b o,b≠L->s'.heap.get? b=some o->h'.get? b=some o:=λb o q e=>(hs.2 b q).trans e;refine dH (hn) λmm hn=>?_;have XQ:=BZ hn;refine⟨⟨x.pre,λb o hn e=>SO.thru (x.kept b o hn e) λo'=>hk b o' (λq=>by rw[q,hL]at e;cases e),x.own,λb e=>(x.has b e).kept λo=>hk b o (λq=>by obtain⟨o,e⟩:=e;rw[q,hL]at e;cases e),fD (x.rest) λ_ tk e=>⟨h',tk,by rw[e]⟩⟩,
  R.quiet (λb=>b=L) (λb o q e=>hk b o q e) (λb q=>q▸⟨ho,hb,XQ,.inl hz⟩),?_⟩
 refine bM (a) λvs O9 r hl=>?_;obtain⟨m,h1⟩:=O9;exact⟨vs,⟨m,hk _ _ hne h1⟩,aX.mono (Sub.refl _) (λb o _ hf e=>hk b o (λq=>by subst q;exact XQ o e hf) e) (λ_ _ _ w=>w) _ _ r,hl⟩
theorem qcz {h:Heap}{l:List D}(R:c.R (acc::Z) lk h ads σ)(a:AccAt c Z ads σ h acc l)(hz:acc∉Z):c.P Z ads σ h (.list l) (.ref acc):=by
 refine bM (a) λvs hp r hl=>?_;refine⟨acc,vs,rfl,hp,λw=>?_,hl,aX.mono (Sub.refl _) (λ_ _ _ _ e=>e) (λb _ _ w=>w.imp (mem_cons_of_mem _) id) _ _ r⟩;rcases w with w|w
 ·exact hz w
 ·exact R.zown _ mem_cons_self w
theorem UJ {acc:Addr}{m:Bool}{l:List D}{d:D}{σ₂:Store}(R:c.R (acc::Z) lk s.heap ads σ)(a:AccAt c Z ads σ s.heap acc l)(hz:acc∉Z)(hb:c.h₀.get? acc=none)(e:(bif m then some (D.ref σ.length,σ++[O.list l]) else some (D.list l,σ))=some (d,σ₂)){RL:aY}{σ₀:Store}{s₀:Shared}(hf:s₀.heap.get? acc=none)(x:Ext Z RL σ₀ s₀ ads σ s):∃aG,Ext Z RL σ₀ s₀ aG σ₂ s/\c.R Z lk s.heap aG σ₂/\c.P Z aG σ₂ s.heap d (.ref acc)/\∀b,bH aG σ₂ b->bH ads σ b\/b=acc:=by
 cases m
 case true =>
  cases e;have ho:∀b,bH (ads++[(acc,acc)]) (σ++[.list l]) b->bH ads σ b\/b=acc:=by
   rintro b ⟨j,q,y,h1,h2,h3,h4⟩;rcases R.get_last (o:=.list l) h1 with ⟨rfl,rfl⟩|⟨hj,h1⟩
   ·rcases h4 with rfl|rfl <;> exact .inr rfl
   ·rcases gP h2 with ⟨rfl,rfl⟩|⟨_,h2⟩
    ·exact absurd hj (lt_irrefl _)
    ·exact .inl ⟨j,q,y,h1,h2,h3,h4⟩
  refine⟨ads++[(acc,acc)],⟨?_,x.kept,λb e=>?_,x.has,x.rest⟩,Rel.adopt R a hb hz,pC (p:=(acc,acc)) R.len,ho⟩
  ·obtain⟨r,rfl⟩:=x.pre;exact⟨r++[(acc,acc)],by simp⟩
  ·rcases ho b e with e|rfl
   ·exact x.own b e
   ·exact .inr hf
 case false =>
  cases e;exact⟨ads,x,R.back,qcz R a hz,λb q=>.inl q⟩
theorem qjs {F:aU}(hF:fB F.F){gZ:E}{elt:Expr}{cs:List Comprehension}{pos:Pos}{m:Bool}{t:Nat}{x:Str}{px:Pos}{it:It}{iter:Expr}{ifs:List E}{cC:List Expr}{gs:List G}{C₁ C₂:SC}(K:sX C scope cW)(hI:nP c n C iter (kJ F it))(hf:∀env v,foldedSetIterable iter env v=pure v)(hb:lD (ownNames scope) cW C₁ t x)(hnot:∀y,cW.slots.lookup t≠some y)(hC:lG c n C₁ cC (gJ F ifs))(hG:lE c n F (ownNames scope) C₁ gs cs C₂)(hE:bL c n C₂ elt (ev F gZ))(hna:firstAsync (⟨.Name x px,iter,cC,0⟩::cs)=false):bL c n C (.ListComp elt (⟨.Name x px,iter,cC,0⟩::cs) scope pos) (ev F (.comp m gZ (.mk [t] false it ifs::gs))):=by
 intro A Z lk s ads ρ σ env d σ' hev hA R V Q E k;refine aZ hev λl σ1 h1 hev=>aJ hev λd1 h2 hev=>d8 h2 λhl h2=>?_;cases h2;rw[eval_ListComp,hna];refine qbz (d:=d) (m:=m) hF K hI hf hb hnot hC hG hE hA R V h1 hl λacc s' aG L h'' hacc hL hn hne x1 R1 a1 hb1 hz1 ho JB JC=>?_;refine dH (hn) λmm hn'=>?_;refine⟨mm,hn',λh' hs=>?_⟩;refine cQ (qdk hacc hL ⟨mm,hn'⟩ hne x1 R1 a1 ho JB JC hs) λx2 R2 a2=>?_;refine cL (UJ (s:={s' with heap:=h'}) R2 a2 hz1 hb1 hev hacc x2) λbT x3 R3 r3 _=>?_;exact k _ _ bT x3 R3 r3
end
section
variable {c:bJ}{A:Around}{Z:List Addr}{lk:Nat->Nat}{s:Shared}{ads:aY}{σ σ':Store}{n:Nat}{C cW:SC}{env:Env}{acc:Addr}{scope:Scope}{ρ:Loc}
theorem ZW {d:D}{v:Value}{l:List D}(R:c.R Z lk s.heap ads σ)(r:c.P Z ads σ s.heap d v)(hl:treeOf d=some l){Q:Value->Shared->Prop}{E:Value->Shared->Prop}(k:∀h',(∀b o,s.heap.get? b=some o->h'.get? b=some o)->c.R Z lk h' ads σ->dB c Z lk ads σ h' s.heap.objs.size l->Q (.ref s.heap.objs.size) {s with heap:=h'}):wpAny (model c.prog c.w) A (pyIter v) Q E s:=by
 have hk:∀x b o,s.heap.get? b=some o->(s.heap.push x).get? b=some o:=λx b o e=>Heap.get?_push_of_some _ e;have hm:∀x l vs,c.PL Z ads σ s.heap l vs->c.PL Z ads σ (s.heap.push x) l vs:=λx l vs hr=>aX.mono (Sub.refl _) (λ_ _ _ _ e=>hk x _ _ e) (λ_ _ _ w=>w) _ _ hr;cases d
 case list =>
  refine eE r λa vs ha hp hw _ hr=>elim hp λm hp=>?_;have hl':=Option.some.inj hl;subst hl';subst ha;exact wpAny_pyIter_list (PlainList.isList ⟨m,hp⟩) (k _ (hk _) (R.grow (hk _)) (.list (i:=0) ⟨_,Heap.get?_push_size _ rfl,rfl,rfl⟩ ⟨m,hk _ _ _ hp⟩ hw (hm _ _ _ hr)))
 case tup =>
  refine iT r λa vs m ha hp hw _ hr=>?_;have hl':=Option.some.inj hl;subst hl';subst ha;exact wpAny_pyIter_tuple ⟨_,hp,rfl,m,rfl⟩ (k _ (hk _) (R.grow (hk _)) (.tup (i:=0) ⟨_,Heap.get?_push_size _ rfl,rfl,rfl⟩ (hk _ _ _ hp) hw (hm _ _ _ hr)))
 case rng =>
  refine VR r λa t u x ha hp hw hok=>?_;have hl':=Option.some.inj hl;subst hl';subst ha;refine wpAny_pyIter_range hp (qbb hok) ?_;rw[P0];exact k _ (hk _) (R.grow (hk _)) (.rng (Heap.get?_push_size _ rfl))
 all_goals exact bO hl
theorem tK (x:Ext Z ads σ s aG σ' s'):s.heap.get? s'.heap.objs.size=none:=by
 cases e:s.heap.get? s'.heap.objs.size with
 | none=>rfl
 | some o=>obtain⟨o',q⟩:=x.has _ ⟨o,e⟩;rw[bU]at q;cases q
theorem qiQ {F:aU}{x:E}{e:Expr}(S:bL c n C e (ev F x)):nP c n C e (kJ F (.e x)) :=
 λA Z lk s ads ρ σ env l σ' u hf hA R V=>aZ hf λd1 σ1 h1 hf=>ZR hf (λhm e2 e3 Q E k=>by
  subst e2;subst e3;exact S A Z lk s ads ρ σ env d1 _ h1 hA R V _ _ λv s1 aN x1 R1 r1=>ZW R1 r1 hm λh' hk R' it =>
   k _ _ aN lk (λ_ _=>rfl) (x1.trans (Ext.more (tk:=s1.toks) hk)) R' it (tK x1) (R1.fresh_ww (bU _)) (R1.fresh_base (bU _))) λk₀ hd ho e2 e3 Q E k=>by
  subst hd;subst e2;subst e3;refine S A Z lk s ads ρ σ env _ σ1 h1 hA R V _ _ λv s1 aN x1 R1 r1=>?_;refine aF r1 λp hp hv=>cL (R1.objs _ _ _ hp ho) λvs hpl hr hlim hpp=>?_;subst hv;have hown:=oA (ads:=aN) (o':=.llist l) ho rfl rfl;have R2:c.R Z lk s1.heap aN (σ1.set k₀ (.llist l)):=Rel.view R1 ho rfl rfl λp x=>x;let oi:Obj:={cls:=.type "list_iterator",data:=.fields #[.ref p.1,.int 0 0]};have hk:∀b o,s1.heap.get? b=some o->(s1.heap.push oi).get? b=some o:=λb o e=>Heap.get?_push_of_some _ e;refine wpAny_pyIter_list (PlainList.isList hpl) ?_;have x2:Ext Z ads σ s aN σ1 {s1 with heap:=s1.heap.push oi}:=x1.trans (Ext.more (tk:=s1.toks) hk);exact k _ _ aN lk (λ_ _=>rfl) ⟨x2.pre,x2.kept,λb q=>x2.own b ((hown b).mp q),x2.has,x2.rest⟩ (R2.grow hk) (.llist (i:=0) hp (getElem?_set_self (List.getElem?_eq_some_iff.mp ho).1) ⟨_,Heap.get?_push_size _ rfl,rfl,rfl⟩) (tK x1) (λw=>R1.fresh_ww (bU _) (w.imp id (hown _).mp)) (R1.fresh_base (bU _))
theorem jR.relock {prog:Program}{w:World}{X:Txt}{W:Addr->Prop}{lk dU:Nat->Nat}{h:Heap}{k:Nat}{p:Addr×Addr}{o:O}(hne:∀es,o=.ldict es->dU k=lk k)(x:jR prog w X ads W lk h k p o):jR prog w X ads W dU h k p o:=by
 cases o with
 | ldict es=>unfold jR;rw[hne es rfl];exact x
 | _=>exact x
theorem Rel.relock {h:Heap}{dU:Nat->Nat}(R:c.R Z lk h ads σ)(hne:∀(k:Nat) es,σ[k]?=some (.ldict es)->dU k=lk k):c.R Z dU h ads σ :=
 ⟨R.len,R.keep,λk p o hp ho=>jR.relock (λes e=>hne k es (e▸ho)) (R.objs k p o hp ho),R.apart,R.new,R.zlt,R.alt,R.zown⟩
theorem Rel.lockDict {h:Heap}{k:Nat}{p:Addr×Addr}{es:List (Int×D)}(R:c.R Z lk h ads σ)(hp:ads[k]?=some p)(ho:σ[k]?=some (.dict es)) :
  ∃ep kvs,c.R Z (λj=>if j=k then ep else lk j) h ads (σ.set k (.ldict es))/\h.DictAt (intKind c.prog c.w) p.1 kvs ep/\kvs.length=es.length:=by
 refine cL (R.objs k p _ hp ho) λkvs qh6 hr hl e=>?_;obtain⟨o,es',ep,r⟩:=qh6;have hat:h.DictAt (intKind c.prog c.w) p.1 kvs ep:=⟨o,es',r⟩;refine⟨ep,kvs,?_,hat,hr.length⟩;have R1:c.R Z (λj=>if j=k then ep else lk j) h ads σ:=R.relock λj es2 hj=>by
  have:j≠k:=λq=>by subst q;rw[ho]at hj;cases hj
  simp[this]
 have hw:WW Z ads (σ.set k (.ldict es))=WW Z ads σ:=by funext b;exact propext (or_congr Iff.rfl (oA ho rfl rfl b))
 refine R1.put hp ho rfl (λ_ _ _ _ e=>e) (R.alt _ _ _ hp ho rfl) ?_;rw[hw];refine⟨kvs,?_,hr,hl,e⟩;simp only[if_true];exact hat
theorem qiR {F:aU}{x:E}{o:Expr}{apos pos:Pos}(B0:Base c)(S:bL c n C o (ev F x))(ho:∀name env whole,attributeBase o name env whole=whole)(hline:(apos.endLine==pos.line)=true) :
  nP c n C (.Call (.Attribute o "values" apos) [] [] pos) (kJ F (.vals x)) :=
 λA Z lk s ads ρ σ env l σ' u hf hA R V=>aZ hf λd1 σ1 h1 hf=>aJ hf λk₀ hk₀ hf=>aJ hf λes hes hf=>aJ hes λox ho2 hes=>sm3 hf λe1 e2 e3 Q E k=>by
  subst e1;subst e2;subst e3;rw[show d1=_ from kI hk₀]at h1;rw[CK hes]at ho2;refine wpAny_Call_method_late (ho _ _ _) (yW rfl (by simp)) hline rfl (S A Z lk s ads ρ σ env _ σ1 h1 hA R V _ _ λov s1 aN x1 R1 r1=>?_);refine aF (r1) λp hp qho=>?_;subst qho;refine cY (Rel.lockDict R1 hp ho2) λep kvs R2 hat hlen=>?_;refine fM (hat) λob es' hg hob=>?_;have hof:s1.heap.DictOf (intKind c.prog c.w) p.1 kvs:=⟨ob,es',ep,hg,hob⟩;refine⟨"dict", "dict.values",PySem.F.plainAttrs_dict,PySem.F.slot_dict_values,PySem.F.type_dict_values,Heap.DictOf.typeIs hof,λb q=>⟨ob,by cases q;exact hg,hob.1.2.1⟩,?_⟩;refine Calls.callWith_builtin (uC (es:=[]) (env:=env) (pos:=pos) rfl) (rH (es:=[]) (env:=env) (pos:=pos) rfl ?_);refine wpAny_pure ?_;refine call_meetsIn PySem.F.slot_dict_values (Heap.DictOf.typeIs hof) PySem.F.entry_dict_values (PySem.F.args_dict_values_1 _) (meets_dict_values (intKind c.prog c.w) p.1 (Rel.dict_ne B0 R1 hp)) ⟨⟨_,hof⟩,?_⟩;let ov:Obj:={cls:=.type "dict_values",data:=.fields #[.ref p.1]};have hk1:∀b o,s1.heap.get? b=some o->(s1.heap.push ov).get? b=some o:=λb o e=>Heap.get?_push_of_some _ e;refine wpAny_pyIter_values ⟨_,Heap.get?_push_size _ rfl,rfl,rfl⟩ (⟨ob,es',hk1 _ _ hg,hob⟩:(s1.heap.push ov).DictAt (intKind c.prog c.w) p.1 kvs ep) ?_;have x2:Ext Z ads σ s aN σ1 {s1 with heap:=s1.heap.push ov}:=x1.trans (Ext.more (tk:=s1.toks) hk1);let oi:Obj:={cls:=.type "dict_valueiterator",data:=.fields #[.ref p.1,.int 0 0,.int kvs.length 0,.int ep 0]};have hk2:∀b o,(s1.heap.push ov).get? b=some o->((s1.heap.push ov).push oi).get? b=some o:=λb o e=>Heap.get?_push_of_some _ e;have x3:Ext Z ads σ s aN σ1 {s1 with heap:=(s1.heap.push ov).push oi}:=x2.trans (Ext.more (tk:=s1.toks) hk2);have hown:=oA (ads:=aN) (o':=.ldict es) ho2 rfl rfl;have lR:WW Z aN (σ1.set k₀ (.ldict es))=WW Z aN σ1:=by funext b;exact propext (or_congr Iff.rfl (hown b))
  refine k _ _ aN (λj=>if j=k₀ then ep else lk j) (λj hj=>by have:j≠k₀:=λq=>hj (by rw[q]);simp[this]) ⟨x3.pre,x3.kept,λb q=>x3.own b ((hown b).mp q),x3.has,x3.rest⟩ ((R2.grow hk1).grow hk2) ?_ (tK x2) ?_ ?_
  ·refine .vals (i:=0) hp (getElem?_set_self (List.getElem?_eq_some_iff.mp ho2).1) ⟨_,Heap.get?_push_size _ rfl,rfl,?_⟩;simp only[if_true,hlen];rfl
  ·rw[lR];exact(R1.grow hk1).fresh_ww (bU _)
  ·exact(R1.grow hk1).fresh_base (bU _)
end
end Internal
end
section
open PySem PySem.W PyProof.Rows PySem.SeqAt PySem.MeetsSeq
set_option maxRecDepth 100000
namespace Internal
structure mF (c:bJ):Prop where
 inj:∀a b,a<7->b<7->c.X.an a=c.X.an b->a=b
 get:∀i,i<2->plainGet c.K (c.X.ca i) "x" = true
 set:∀i,i<2->findIn c.K (.ref (c.X.ca i)) "__setattr__" = some (some (.builtin "object.__setattr__"))/\plainOver c.K (c.X.ca i)=true
 hd:hasDictIn c.K (c.X.ca 0)=true
 isC:isClsIn c.K (c.X.ca 1)=true
 at0:∀a,a<4->findIn c.K (.ref (c.X.ca 0)) (c.X.an a)=some none
 slot:∀i,i<3->∃p,findIn c.K (.ref (c.X.ca 1)) (c.X.an (4+i))=some (some (.ref p))/\specialIn c.K (.ref p) "__get__" = some (some (.builtin "member_descriptor.__get__"))/\takesIn c.K (.ref p)=some true /\
  slotIn c.K p (c.X.ca 1)=some i/\typeIn c.K (.ref p)=some (.type "member_descriptor")
 make:∀i,i<2->makesIn c.K (c.X.ca i)=true/\∃fI,c.X.fv (1000+i)=some fI/\findIn c.K (.ref (c.X.ca i)) "__init__" = some (some (.ref fI))/\typeIn c.K (.ref fI)=some (.type "function")
section
variable {c:bJ}{A:Around}{Z:List Addr}{lk:Nat->Nat}{s:Shared}{ads:aY}{σ σ':Store}{n:Nat}{C cW:SC}{env:Env}{ρ:Loc}{W:Addr->Prop}{h:Heap}
theorem KY:∀{as:List (Nat×D)} {a:Nat} {d:D},as.lookup a=some d->(a,d)∈as
 | [],_,_,q=>by cases q
 | (b,x)::r,a,d,q=>by
  rw[lookup_cons]at q;by_cases hb:a=b
  ·subst hb;simp only[beq_self_eq_true]at q;cases q;exact .head _
  ·have hb':(a==b)=false:=by simpa using hb
   rw[hb']at q;exact .tail _ (KY q)
theorem Rep.handed {X:Txt}{d:D}{v:Value}(r:Rep X ads W h d v):handedIn v=true:=by
 cases d
 ·cases r;rfl
 ·cases r;rfl
 ·obtain⟨t,rfl⟩:=r;rfl
 ·refine fM (r) λa vs qhC _=>?_;subst qhC;rfl
 ·refine vK (r) λa vs m qhD _=>?_;subst qhD;rfl
 ·refine VP (r) λa t u x qhE _=>?_;subst qhE;rfl
 ·refine aF (r) λp _ qhF=>?_;subst qhF;rfl
 ·refine aF (r) λa _ qhG=>?_;subst qhG;rfl
theorem v7 (x y:Str)(t:Tok):(Value.str x t).isStr y=(x==y):=rfl
theorem eZ.look {X:Txt}{P:Params}{a:Nat}(hinj:∀b,b<4->X.an b=X.an a->b=a):∀{as:List (Nat×D)} {es:List DictEntry},eZ X ads W h P as es->(∀e∈as,e.1<4)->∀{d:D},as.lookup a=some d->∃v,getL (X.an a) es=some (some v)/\Rep X ads W h d v
 | [],_,_,_,_,q=>by cases q
 | (b,d₁)::r,_,x,hlt,d,q=>by
  refine fY (x) λv t q' qhH h1 h2=>?_;subst qhH;rw[lookup_cons]at q;by_cases hb:a=b
  ·subst hb;simp only[beq_self_eq_true]at q;cases q;refine⟨v,?_,h1⟩;unfold getL;rw[find?_cons];simp[Value.isStr]
  ·have hb':(a==b)=false:=by simpa using hb
   rw[hb']at q;refine aF (eZ.look hinj h2 (λe he=>hlt e (.tail _ he)) q) λv' h3 h4=>?_;refine⟨v',?_,h4⟩;have hne:(X.an b==X.an a)=false:=by
    rw[beq_eq_false_iff_ne];intro z;exact hb (hinj b (hlt _ (.head _)) z).symm
   unfold getL at h3 ⊢;rw[find?_cons];simp only[v7,hne];cases hq:List.find? (λx=>x.key.isStr (X.an a)) q' with
   | some e=>rw[hq]at h3;exact h3
   | none=>rw[hq]at h3;dsimp only at h3;split at h3 <;> cases h3
theorem eZ.miss {X:Txt}{P:Params}{name:Str}:∀{as:List (Nat×D)} {es:List DictEntry},eZ X ads W h P as es->(∀e∈as,X.an e.1≠name)->getL name es=some none
 | [],_,x,_=>by cases x;rfl
 | (b,d₁)::r,_,x,hlt=>by
  refine fY (x) λv t q' qhI h1 h2=>?_;subst qhI;have h3:=eZ.miss h2 λe he=>hlt e (.tail _ he);have hne:(X.an b==name)=false:=by
   rw[beq_eq_false_iff_ne];exact hlt _ (.head _)
  unfold getL at h3 ⊢;rw[find?_cons,any_cons];simp only[v7,hne,DictEntry.refKey,Bool.false_or];exact h3
theorem o9 (B0:Base c)(R:c.R Z lk h ads σ):c.K.In h:=λa o e=>R.keep a o (B0.K a o e)
theorem XC {o:D}{ov:Value}{a:Nat}{d:D}{expr:Bool}(B0:Base c)(CO:mF c)(R:c.R Z lk s.heap ads σ)(r:c.P Z ads σ s.heap o ov)(hg:Internal.getAttr σ o a=some d):Yields c A (PySem.getAttr ov (c.X.an a) expr) Z lk s ads σ d σ:=by
 intro Q E k;have KX:=o9 B0 R;refine aJ hg λk₀ hk₀ hg=>aZ hg λcl as ho hg=>aJ ho λox ho hox=>?_;rw[kI hk₀]at r;rw[CN hox]at ho;refine aF r λp hp hv=>?_;subst hv;clear hk₀ hox;have hob:=R.objs _ _ _ hp ho
 match cl,hob with
 | 0,hob =>
  refine vJ (hob) λes m g1 g2 hr hn hl hlt=>?_;have Y7:a<4:=by
   exact hlt _ (KY hg)
  refine aF (hr.look (λb hb q=>CO.inj b a (by exact ltN (aK 0x078148f0a1 rfl hb)) (by exact ltN (aK 0x078148f0a1 rfl Y7)) q) hlt hg) λv h1 h2=>?_;have I:InstAt s.heap p.1 (instObj (c.X.ca 0) p.2) (c.X.ca 0) (some (dictOf es m)):=⟨g1,rfl,rfl,g2⟩;exact get_value KX I (plainGet_of (CO.get 0 (by exact ltN (jZ 0x08281 rfl)))).1 (findObj_own CO.hd (CO.at0 a Y7) rfl h1) (Rep.handed h2) (k _ _ ads (Ext.tok _) R h2)
 | 1,hob =>
  refine VM (hob) λsl g1 g2 hs hr hn hlt=>?_;obtain⟨l1,l2⟩:=hlt _ (KY hg);dsimp only at l1 l2;obtain⟨i,rfl⟩:∃i,a=4+i:=⟨a-4,by exact bG (aA (aB 0x1f048aa1480a11 rfl (aR _ _))) (aA (aB 0x148af0a10481a1 rfl (aM (aA (aK 0x48f0a10481 rfl l1)))))⟩;have hi:i<3:=by exact ltN (aK 0x038178f048aa1 rfl l2)
  refine yC (CO.slot i hi) λq f1 f2 f3 f4 f5=>?_;have I:InstAt s.heap p.1 {cls:=.ref (c.X.ca 1),dict:=some p.2,data:=.plain,slots:=sl} (c.X.ca 1) (some emptyDict):=⟨g1,rfl,rfl,g2⟩;have hv:=hr i hi;rw[hg]at hv;refine aF (hv) λv h1 h2=>?_;obtain⟨ga,gk⟩:=plainGet_of (CO.get 1 (by exact ltN (jZ 0xf281 rfl)));exact get_bind KX I ga (findObj_data CO.isC f1 f2 f3) gk (wpAny_call (slot_get (s:={s with toks:=s.toks+1}) KX I f4 h1 (handed_on (Rep.handed h2) (k _ _ ads (Ext.tok _) R h2))))
 | _+2,hob=>exact hob.elim
theorem qcc {o:Expr}{name:Str}{pos:Pos}{prog:Program}{w:World}{Q:Value->Shared->Prop}{E:Value->Shared->Prop}(hb:attributeBase o name env (eval o env)=eval o env)(h:wpAny (model prog w) A (eval o env) (λov s₁=>wpAny (model prog w) A (PySem.getAttr ov name true) Q E s₁) E s):wpAny (model prog w) A (eval (.Attribute o name pos) env) Q E s:=by
 rw[arm_eval_Attribute,hb];exact wpAny_bind (wpAny_mono h (λov s₁ h₁=>wpAny_bind (wpAny_standAt (wpAny_bind (wpAny_holding (wpAny_mono h₁ (λr s₂ h₂=>wpAny_bind (wpAny_letTemporaryGo (wpAny_pure h₂))) λ_ _ x=>x))))) λ_ _ x=>x)
theorem qjk {F:aU}{x:E}{a:Nat}{o:Expr}{name:Str}{pos:Pos}(B0:Base c)(CO:mF c)(S:bL c n C o (ev F x))(ho:∀name env whole,attributeBase o name env whole=whole)(hn:name=c.X.an a):bL c n C (.Attribute o name pos) (ev F (.attr x a)) :=
 λA Z lk s ads ρ σ env d σ' hf hA R V=>aZ hf λd1 σ1 h1 hf=>aJ hf λd2 h2 hf=>Yields.cast hf λQ E k=>by
  subst hn;exact qcc (ho _ _ _) (S A Z lk s ads ρ σ env d1 σ1 h1 hA R V _ _ λov s1 aN x1 R1 r1=>XC B0 CO R1 r1 h2 _ _ λv s2 bT x2 R2 r2=>k v s2 bT (x1.trans x2) R2 r2)
theorem qgU {K:Frag}{prog:Program}{w:World}{x Cl dx:Addr}{ox:Obj}{name:Str}{tk:Tok}{v:Value}{es:List DictEntry}{m:Nat}{Q:Result->Shared->Prop}(X:K.In s.heap)(I:InstAt s.heap x ox Cl (some (dictOf es m)))(hd:ox.dict=some dx)(hp:plainOver K Cl=true)(ht:takerIn K Cl name=some none)(hh:hasDictIn K Cl=true)(hl:(getL name es).isSome=true)(hz:es.length<1000)(h:Q (.ok (.ret .none)) {s with heap:=s.heap.update dx (Obj.putName name (PyData.keyHash w.params name) (.str name s.toks) v),toks:=s.toks+1}):codeAny (model prog w) A (.call (.builtin "object.__setattr__") ⟨[.ref x,.str name tk,v],[]⟩) Q s:=by
 refine osa_open X I hp ht λb=>?_;refine aF (any_some hh) λcd hc hd'=>?_;have D:s.heap.get? dx=some (dictOf es m):=by have:=I.dict;rw[hd]at this;exact this
 have D':(s.heap.update dx (Obj.putName name (PyData.keyHash w.params name) (.str name s.toks) v)).get? dx=some (dictOf (putL name (PyData.keyHash w.params name) (.str name s.toks) v es) (putN name es m)):=by
  rw[<-putName_dict];exact Heap.get?_update_self _ D (by rw[putName_dict];rfl)
 refine hide λH gH=>?_;obtain⟨hx,hcl,hn,-⟩:=I;obtain⟨oc,odi,oda,osl⟩:=ox;refine gH ?_;dsimp only at hcl hd;subst hcl hd;have qkJ:(putL name (PyData.keyHash w.params name) (.str name s.toks) v es).length<=1000:=by
  have:∀(hsh:Int) (ky:Value) (l:List DictEntry),(putL name hsh ky v l).length<=l.length+1:=by
   intro hsh ky l
   induction l with
   | nil=>simp[putL]
   | cons e r ih=>unfold putL;split <;> simp <;> exact aA (aB 0x1ff0aa1f0a11 rfl ih)
  have:=this (PyData.keyHash w.params name) (.str name s.toks) es;exact aA (aB 0x0f3e89a13e89f1a1f1a01 rfl this hz)
 refine wpAny_bind (wpAny_pure (wpAny_bind (wpAny_bind (wpAny_loadPart hx (wpAny_bind ((looks_clsIn X hc).here ?_))))));rw[hd'];refine wpAny_pure (a:=some dx) (wpAny_bind (wpAny_pure (wpAny_bind ?_)));unfold nsSet;refine wpAny_bind (wpAny_bind (wpAny_askSetting (wpAny_pure (wpAny_bind (wpAny_mkText (wpAny_bind (wpAny_loadPart D ?_)))))));have hno:(!es.toArray.any (·.key.isStr name)&&es.toArray.any (·.refKey))=false:=by
  simp only[List.any_toArray];unfold getL at hl;split at hl
  ·rename_i en he;rw[any_eq_true.mpr ⟨en,List.mem_of_find?_eq_some he,List.find?_some he⟩];rfl
  ·split at hl
   ·cases hl
   ·rename_i z;rw[not_eq_true]at z;rw[z,Bool.and_false]
 dsimp only[dictOf];rw[aRefKeyMayBeTheName_at,hno];refine wpAny_updatePart D ?_;refine wpAny_bind (wpAny_lookBehind D' (pastItsLine_dict (by rw[size_toArray,sizeLine_eq];omega)) ?_);exact wpAny_pure h
theorem qgT {K:Frag}{prog:Program}{w:World}{x Cl dx:Addr}{ox:Obj}{name:Str}{v:Value}{es:List DictEntry}{m:Nat}{Q:Unit->Shared->Prop}{E:Value->Shared->Prop}(X:K.In s.heap)(I:InstAt s.heap x ox Cl (some (dictOf es m)))(hd:ox.dict=some dx)(hs:findIn K (.ref Cl) "__setattr__" = some (some (.builtin "object.__setattr__"))) (hp:plainOver K Cl=true) (ht:takerIn K Cl name=some none) (hh:hasDictIn K Cl=true) (hl:(getL name es).isSome=true) (hz:es.length<1000)
  (h:Q () {s with heap:=s.heap.update dx (Obj.putName name (PyData.keyHash w.params name) (.str name (s.toks+1)) v),toks:=s.toks+2}):wpAny (model prog w) A (PySem.setAttr (.ref x) name v) Q E s :=
 set_plain X I hs (qgU (s:={s with toks:=s.toks+1}) X I hd hp ht hh hl hz h)
theorem qjK {K:Frag}{prog:Program}{w:World}{x Cl p:Addr}{ox:Obj}{od:Option Obj}{i:Nat}{v:Value}{R:Result->Shared->Prop}(X:K.In s.heap)(I:InstAt s.heap x ox Cl od)(hp:slotIn K p Cl=some i)(hi:i<1000)(h:R (.ok (.ret .none)) {s with heap:=s.heap.update x λo=>{o with slots:=(o.slots++Array.replicate (i+1-o.slots.size) none).setIfInBounds i (some v)}}) :
  codeAny (model prog w) A (.call (.builtin "member_descriptor.__set__") ⟨[.ref p,.ref x,v],[]⟩) R s:=by
 refine hide λH gH=>?_;obtain⟨nm,tn,owner,behind,tb,d,sl,cd,ho,hc,hm,hb,rfl⟩:=slot_of X hp;obtain⟨hh,g,dr,t,os⟩:=s;refine gH ?_;have L0:=I.type (M:=model prog w);have L1:=looks_mroIn (M:=model prog w) X hm;have L2:Looks (model prog w) hh (Builtin.Slots.slotNamesOf (.ref Cl)) cd.slotNames:=(looks_clsIn X hc).andThen .now;have hx:=I.at_;dsimp only at ho hx L0 L1;have f0:=looks_field (M:=model prog w) ho 0 (v:=.str nm tn) rfl;have f1:=looks_field (M:=model prog w) ho 1 (v:=owner) rfl;have f3:=looks_field (M:=model prog w) ho 3 (v:=.builtin "proto.slot#set") rfl;have f4:=looks_field (M:=model prog w) ho 4 (v:=.int behind tb) rfl;refine codeAny_call_builtin KF.slot_mset.plain KF.entry_mset (KF.slot_mset.check _ _ _ _ _ _ _ _ ⟨_,ho,rfl⟩ (KF.args_mset _ _ _) ?_);unfold Builtin.«member_descriptor.__set__» Builtin.Getset_descriptor.descrSet Builtin.Getset_descriptor.descrStoreThrough Builtin.Getset_descriptor.descrCheckInstance Builtin.Getset_descriptor.descrNameAndClass isInstance;have f5:Looks (model prog w) hh (Builtin.Getset_descriptor.descrItself (.ref p)) [.ref p]:=((Looks.ld (part:=none) ho).andThen .now).andThen (Looks.of_pure (by kernel_rfl))
 repeat lk
 refine⟨Code.quiet_builtin _ (by decide +kernel),codeAny_builtin KF.entry_slotset ?_⟩;unfold Builtin.«proto.slot#set» Builtin.Slots.target
 repeat lk
 rw[if_neg hb];refine wpAny_pure (wpAny_bind ?_);unfold setSlotAt;dsimp only;rw[if_neg (by rw[sizeLine_eq];omega)];exact wpAny_updatePart hx (wpAny_pure h)
theorem eZ.put {X:Txt}{P:Params}{a:Nat}{d:D}{v:Value}{t:Tok}(hinj:∀b,b<4->X.an b=X.an a->b=a)(rv:Rep X ads W h d v):∀{as:List (Nat×D)} {es:List DictEntry},eZ X ads W h P as es->(∀e∈as,e.1<4) ->
  eZ X ads W h P (fG a d as) (putL (X.an a) (PyData.keyHash P (X.an a)) (.str (X.an a) t) v es)
 | [],_,x,_=>by cases x;exact⟨v,t,[],rfl,rv,rfl⟩
 | (b,d₁)::r,_,x,hlt=>by
  refine fY (x) λv₁ t₁ q qhJ h1 h2=>?_;subst qhJ;unfold fG putL;by_cases hb:b=a
  ·subst hb;simp only[beq_self_eq_true,if_true,v7];exact⟨v,t₁,q,rfl,rv,h2⟩
  ·have hb':(b==a)=false:=by simpa using hb
   have hne:(X.an b==X.an a)=false:=by rw[beq_eq_false_iff_ne];exact λz=>hb (hinj b (hlt _ (.head _)) z)
   simp only[hb',v7,hne,false_eq_true,if_false];exact⟨v₁,t₁,_,rfl,h1,eZ.put hinj rv h2 λe he=>hlt e (.tail _ he)⟩
theorem O3 {a:Nat}{d:D}{P:Nat->Prop}(ha:P a):∀{as:List (Nat×D)},(∀e∈as,P e.1)->∀e∈fG a d as,P e.1
 | []=>λ_ e he=>by rw[fG,mem_singleton]at he;subst he;exact ha
 | (b,x)::r=>λhl e he=>by
  unfold fG at he;split at he
  ·rcases mem_cons.mp he with rfl|he
   ·exact ha
   ·exact hl e (.tail _ he)
  ·rcases mem_cons.mp he with rfl|he
   ·exact hl _ (.head _)
   ·exact O3 ha (λe he=>hl e (.tail _ he)) e he
theorem qa5 {a:Nat}{d:D}:∀(as:List (Nat×D)),(fG a d as).length<=as.length+1
 | []=>by simp[fG]
 | (b,x)::r=>by unfold fG;split <;> simp;have:=qa5 (a:=a) (d:=d) r;exact aA (aB 0x1ff0aa1f0a11 rfl this)
theorem qa6 {a b:Nat}{d:D}:∀(as:List (Nat×D)),(fG a d as).lookup b=if b=a then some d else as.lookup b
 | []=>by
  unfold fG;rw[lookup_cons];by_cases hb:b=a
  ·subst hb;simp
  ·have:(b==a)=false:=by simpa using hb
   simp[this,hb]
 | (e,x)::r=>by
  unfold fG;by_cases he:e=a
  ·subst he;simp only[beq_self_eq_true,if_true];rw[lookup_cons,lookup_cons];by_cases hb:b=e
   ·subst hb;simp
   ·have:(b==e)=false:=by simpa using hb
    simp[this,hb]
  ·have he':(e==a)=false:=by simpa using he
   simp only[he',false_eq_true,if_false];rw[lookup_cons,lookup_cons];by_cases hb:b=e
   ·subst hb;simp[he]
   ·have:(b==e)=false:=by simpa using hb
    simp only[this];exact qa6 r
theorem eZ.keys {X:Txt}{P:Params}:∀{as:List (Nat×D)} {es:List DictEntry},eZ X ads W h P as es->es.length=as.length/\∀name,(getL name es).isSome=true
 | [],_,x=>by cases x;exact⟨rfl,λ_=>rfl⟩
 | (b,d₁)::r,_,x=>by
  refine fY (x) λv t q' qhK h1 h2=>?_;subst qhK;obtain⟨h3,h4⟩:=eZ.keys h2;refine⟨by simp[h3],λname=>?_⟩;have:=h4 name;unfold getL at this ⊢;rw[find?_cons,any_cons];dsimp only[v7];cases X.an b==name with
  | true=>rfl
  | false=>exact this
theorem qcV {c a n:Nat}{H:Prop}(e:attrOk c a n=true)(k0:c=0->a<4->n<8->H)(k1:c=1->4<=a->a<7->H):H:=by
 unfold attrOk at e;rcases Bool.or_eq_true_iff.mp e with e|e
 ·have:=and_eq_true_iff.mp e;have h2:=and_eq_true_iff.mp this.2;exact k0 (of_decide_eq_true this.1) (of_decide_eq_true h2.1) (of_decide_eq_true h2.2)
 ·have:=and_eq_true_iff.mp e;have h2:=and_eq_true_iff.mp this.2;exact k1 (of_decide_eq_true this.1) (of_decide_eq_true h2.1) (of_decide_eq_true h2.2)
theorem qiu {d:D}{v:Value}{a k₀:Nat}{p:Addr×Addr}{as:List (Nat×D)}(B0:Base c)(CO:mF c)(R:c.R Z lk s.heap ads σ)(hp:ads[k₀]?=some p)(ho:σ[k₀]?=some (.inst 0 as))(rv:c.P Z ads σ s.heap d v)(hc:a<4)(hc2:as.length<8){Q:Unit->Shared->Prop}{E:Value->Shared->Prop}(k:∀s',Ext Z ads σ s ads (σ.set k₀ (.inst 0 (fG a d as))) s'->c.R Z lk s'.heap ads (σ.set k₀ (.inst 0 (fG a d as)))->Q () s'):wpAny (model c.prog c.w) A (PySem.setAttr (.ref p.1) (c.X.an a) v) Q E s:=by
 have KX:=o9 B0 R;refine vJ (R.objs _ _ _ hp ho) λes m g1 g2 hr hn hl hlt=>?_;have I:InstAt s.heap p.1 (instObj (c.X.ca 0) p.2) (c.X.ca 0) (some (dictOf es m)):=⟨g1,rfl,rfl,g2⟩;have ht:takerIn c.K (c.X.ca 0) (c.X.an a)=some none:=by unfold takerIn;rw[CO.at0 a hc];rfl
 refine qgT KX I rfl (CO.set 0 (by exact ltN (jZ 0x08281 rfl))).1 (CO.set 0 (by exact ltN (jZ 0x08281 rfl))).2 ht CO.hd (hr.keys.2 _) (by rw[hr.keys.1];exact ltN (aK 0x03e8918801 rfl hl)) ?_;have hown:=oA (ads:=ads) (o':=.inst 0 (fG a d as)) ho rfl rfl;have lR:WW Z ads (σ.set k₀ (.inst 0 (fG a d as)))=WW Z ads σ:=by funext b;exact propext (or_congr Iff.rfl (hown b))
 let f:=Obj.putName (c.X.an a) (PyData.keyHash c.w.params (c.X.an a)) (.str (c.X.an a) (s.toks+1)) v;have hk:∀b x,b≠p.2->s.heap.get? b=some x->(s.heap.update p.2 f).get? b=some x:=λb x hb e=>(Heap.get?_update_ne _ _ _ _ hb).trans e;have hnew:(s.heap.update p.2 f).get? p.2=some (dictOf (putL (c.X.an a) (PyData.keyHash c.w.params (c.X.an a)) (.str (c.X.an a) (s.toks+1)) v es) (putN (c.X.an a) es m)):=by
  rw[<-putName_dict];exact Heap.get?_update_self _ g2 (by show (Obj.putName _ _ _ _ _).isFreed=false;rw[putName_dict];rfl)
 have gB:∀b,b=p.2->bH ads σ b:=λb hb=>⟨k₀,p,_,hp,ho,rfl,.inr hb⟩;have hz:∀a o,¬WW Z ads σ a->Fz o->s.heap.get? a=some o->(s.heap.update p.2 f).get? a=some o:=λa o hw _ e=>hk a o (λq=>hw (.inr (gB a q))) e;refine k _ ⟨⟨[],by simp⟩,λb o hb e=>SO.of (hk b o (λq=>hb (gB b q)) e),λb e=>.inl ((hown b).mp e),λb ⟨o,e⟩=>(Classical.em (b=p.2)).elim (λq=>by subst q;exact⟨_,hnew⟩) (λq=>⟨o,hk b o q e⟩),⟨_,_,rfl⟩⟩ ?_;refine R.put hp ho rfl (λb x _ h1 e=>hk b x h1 e) ⟨⟨_,hk _ _ hn g1⟩,⟨_,hnew⟩⟩ ?_;rw[lR];refine⟨_,_,hk _ _ hn g1,hnew,eZ.mono (Sub.refl _) hz (λ_ _ _ w=>w) _ _ (eZ.put (λb hb q=>CO.inj b a (by exact ltN (aK 0x078148f0a1 rfl hb)) (by exact ltN (aK 0x078148f0a1 rfl hc)) q) rv hr hlt),hn,?_,O3 (P:=λa=>a<4) hc hlt⟩;have:=qa5 (a:=a) (d:=d) as;exact aA (aB 0x0f88a188f1a1f1a01 rfl this hc2)
theorem qiv {d:D}{v:Value}{a k₀:Nat}{p:Addr×Addr}{as:List (Nat×D)}(B0:Base c)(CO:mF c)(R:c.R Z lk s.heap ads σ)(hp:ads[k₀]?=some p)(ho:σ[k₀]?=some (.inst 1 as))(rv:c.P Z ads σ s.heap d v)(hc:4<=a)(hc2:a<7){Q:Unit->Shared->Prop}{E:Value->Shared->Prop}(k:∀s',Ext Z ads σ s ads (σ.set k₀ (.inst 1 (fG a d as))) s'->c.R Z lk s'.heap ads (σ.set k₀ (.inst 1 (fG a d as)))->Q () s'):wpAny (model c.prog c.w) A (PySem.setAttr (.ref p.1) (c.X.an a) v) Q E s:=by
 have KX:=o9 B0 R;refine VM (R.objs _ _ _ hp ho) λsl g1 g2 hs hr hn hlt=>?_;obtain⟨i,rfl⟩:∃i,a=4+i:=⟨a-4,by exact bG (aA (aB 0x1f048aa1480a11 rfl (aR _ _))) (aA (aB 0x148af0a10481a1 rfl (aM (aA (aK 0x48f0a10481 rfl hc)))))⟩;have hi:i<3:=by exact ltN (aK 0x038178f048aa1 rfl hc2)
 refine yC (CO.slot i hi) λq f1 f2 f3 f4 f5=>?_;have I:InstAt s.heap p.1 {cls:=.ref (c.X.ca 1),dict:=some p.2,data:=.plain,slots:=sl} (c.X.ca 1) (some emptyDict):=⟨g1,rfl,rfl,g2⟩;have ht:takerIn c.K (c.X.ca 1) (c.X.an (4+i))=some (some (.ref q)):=by unfold takerIn;rw[f1];show (takesIn c.K (.ref q)).map _=_;rw[f3];rfl
 refine set_plain KX I (CO.set 1 (by exact ltN (jZ 0xf281 rfl))).1 (osa_descr (s:={s with toks:=s.toks+1}) KF.slot_mset KX I (CO.set 1 (by exact ltN (jZ 0xf281 rfl))).2 ht f5 (qjK (s:={s with toks:=s.toks+1}) KX I f4 (by exact ltN (aK 0x03e89138f0a1 rfl hi)) ?_));have hown:=oA (ads:=ads) (o':=.inst 1 (fG (4+i) d as)) ho rfl rfl;have lR:WW Z ads (σ.set k₀ (.inst 1 (fG (4+i) d as)))=WW Z ads σ:=by funext b;exact propext (or_congr Iff.rfl (hown b))
 let f:Obj->Obj:=λo=>{o with slots:=(o.slots++Array.replicate (i+1-o.slots.size) none).setIfInBounds i (some v)};have hk:∀b x,b≠p.1->s.heap.get? b=some x->(s.heap.update p.1 f).get? b=some x:=λb x hb e=>(Heap.get?_update_ne _ _ _ _ hb).trans e;have hnew:(s.heap.update p.1 f).get? p.1=some {cls:=.ref (c.X.ca 1),dict:=some p.2,data:=.plain,slots:=(sl++Array.replicate (i+1-sl.size) none).setIfInBounds i (some v)}:=Heap.get?_update_self _ g1 rfl;have gB:∀b,b=p.1->bH ads σ b:=λb hb=>⟨k₀,p,_,hp,ho,rfl,.inl hb⟩;have hz:∀a o,¬WW Z ads σ a->Fz o->s.heap.get? a=some o->(s.heap.update p.1 f).get? a=some o:=λa o hw _ e=>hk a o (λq=>hw (.inr (gB a q))) e;refine k _ ⟨⟨[],by simp⟩,λb o hb e=>SO.of (hk b o (λq=>hb (gB b q)) e),λb e=>.inl ((hown b).mp e),λb ⟨o,e⟩=>(Classical.em (b=p.1)).elim (λq=>by subst q;exact⟨_,hnew⟩) (λq=>⟨o,hk b o q e⟩),⟨_,_,rfl⟩⟩ ?_;refine R.put hp ho rfl (λb x h1 _ e=>hk b x h1 e) ⟨⟨_,hnew⟩,⟨_,hk _ _ (Ne.symm hn) g2⟩⟩ ?_;rw[lR];refine⟨_,hnew,hk _ _ (Ne.symm hn) g2,?_,λj hj=>?_,hn,O3 (P:=λa=>4<=a/\a<7) ⟨by exact aA (aK 0x48f048aa1 rfl),by exact ltN (aK 0x048a78138f0a1 rfl hi)⟩ hlt⟩
 ·simp;exact(Nat.le_total sl.size (i+1)).elim (λh=>by rw[Nat.add_sub_cancel' h];exact hi) λh=>by rw[Nat.sub_eq_zero_of_le h];exact hs
 ·rw[qa6];by_cases hji:j=i
  ·subst hji;rw[if_pos rfl];refine⟨v,?_,Rep.mono (Sub.refl _) hz (λ_ _ _ w=>w) _ _ rv⟩;have hlt':j<(sl++Array.replicate (j+1-sl.size) none).size:=by rw[Array.size_append,Array.size_replicate];exact ltN (aC 0x210a101af2a1 rfl (aR _ _))
   rw[Array.getElem?_setIfInBounds,if_pos rfl,if_pos hlt'];rfl
  ·rw[if_neg (by exact λU=>(cF hji ((aB 0x1f0a1048a148a1 rfl (aW U))) (aB 0x1f0a1048a148a1 rfl (aQ U))))];have h0:=sH.mono (Sub.refl _) hz (λ_ _ _ w=>w) _ _ (hr j hj);have he:((sl++Array.replicate (i+1-sl.size) none).setIfInBounds i (some v))[j]?.join=sl[j]?.join:=by
    rw[Array.getElem?_setIfInBounds,if_neg (λq=>hji q.symm),Array.getElem?_append];split
    ·rfl
    ·rename_i hlt';have h1:sl[j]?=none:=Array.getElem?_eq_none (by exact aA (aB 0x1f0a1011 rfl (aA hlt')));rw[h1,Array.getElem?_replicate];split <;> rfl
   rw[he];exact h0
theorem qbx {o d:D}{ov v:Value}{a:Nat}(B0:Base c)(CO:mF c)(R:c.R Z lk s.heap ads σ)(r:c.P Z ads σ s.heap o ov)(rv:c.P Z ads σ s.heap d v)(hg:Internal.setAttr σ o a d=some σ'){Q:Unit->Shared->Prop}{E:Value->Shared->Prop}(k:∀s',Ext Z ads σ s ads σ' s'->c.R Z lk s'.heap ads σ'->Q () s'):wpAny (model c.prog c.w) A (PySem.setAttr ov (c.X.an a) v) Q E s :=
 aJ hg λk₀ hk₀ hg=>aZ hg λcl as ho hg=>aJ ho λox ho hox=>d8 hg λhc hg=>by
  rw[kI hk₀]at r;rw[CN hox]at ho;rw[<-Option.some.inj hg]at k;exact aF r λp hp hv=>hv▸qcV hc (λh0 h1 h2=>by cases h0;exact qiu B0 CO R hp ho rv h1 h2 k) (λh0 h1 h2=>by cases h0;exact qiv B0 CO R hp ho rv h1 h2 k)
end
section
variable {c:bJ}{A:Around}{Z:List Addr}{lk:Nat->Nat}{s:Shared}{ads:aY}{σ σ':Store}{n:Nat}{C cW:SC}{env:Env}{ρ:Loc}{W:Addr->Prop}{h:Heap}
theorem qcS {d:D}{v:Value}{l:List D}(R:c.R Z lk h ads σ)(r:c.P Z ads σ h d v)(e:oW σ d=some l) :
  ∃a o T vs m,v=.ref a/\(T = "list"\/T = "tuple")/\h.get? a=some o/\o.cls=.type T/\o.data=.seq (toArray vs) m/\c.PL Z ads σ h l vs/\l.length<=lim:=by
 cases d
 case tup=>exact iT r λa vs m h1 h2 _ h4 h5=>⟨a,_, "tuple",vs,m,h1,.inr rfl,h2,rfl,rfl,Option.some.inj e▸h5,Option.some.inj e▸h4⟩
 case list=>exact c7 (jU (σ:=σ) R r e) λa vs h1 h2 h3 h4=>elim h2 λm h2=>⟨a,_, "list",vs,m,h1,.inl rfl,h2,rfl,rfl,h3,h4⟩
 case ref=>exact c7 (jU (σ:=σ) R r e) λa vs h1 h2 h3 h4=>elim h2 λm h2=>⟨a,_, "list",vs,m,h1,.inl rfl,h2,rfl,rfl,h3,h4⟩
 all_goals exact bO e
theorem qbN {d:D}{v:Value}{l:List D}(R:c.R Z lk s.heap ads σ)(r:c.P Z ads σ s.heap d v)(e:oW σ d=some l){Q:List Value->Shared->Prop}{E:Value->Shared->Prop}(k:∀vs s',Ext Z ads σ s ads σ s'->c.R Z lk s'.heap ads σ->c.PL Z ads σ s'.heap l vs->Q vs s'):StarOf (model c.prog c.w) A E v Q s:=by
 refine W2 (qcS R r e) λa o T vs m O5 hT ho hc hd hr hl=>?_;subst O5;have hT':s.TypeIs (.ref a) T:=⟨o,ho,hc⟩;have z:wpAny (model c.prog c.w) A (collect (.ref a)) Q E s:=by
  refine wpAny_collect_seq a hT ho hc hd (λh' hk=>?_) (jQ hl hr.length);exact k _ _ (Ext.more (tk:=s.toks) hk) (R.grow hk) (aX.mono (Sub.refl _) (λ_ _ _ _ e=>hk _ _ e) (λ_ _ _ w=>w) _ _ hr)
 unfold StarOf notIterableAtAll;rcases hT with rfl|rfl
 ·exact wpAny_bind (wpAny_specialOf hT' PySem.F.slot_list_iter.lookup (wpAny_pure ⟨rfl,z⟩))
 ·exact wpAny_bind (wpAny_specialOf hT' PySem.F.slot_tuple_iter.lookup (wpAny_pure ⟨rfl,z⟩))
theorem qiU {F:aU}{x:E}{xs:List E}{e:Expr}{p:Pos}{es:List Expr}(S:bL c n C e (ev F x))(SL:jT c n C es (evs F xs)):jT c n C (.Starred e p::es) (evs F (.star x::xs)):=by
 intro A Z lk s ads ρ σ env ds σ' pos hf hA R V Q E k;refine aZ hf λd1 σ1 h1 hf=>?_;refine aJ hf λl h2 hf=>?_;refine aZ hf λr σ2 h3 hf=>?_;cases hf;refine items_star (S A Z lk s ads ρ σ env d1 σ1 h1 hA R V _ _ λv s1 aN x1 R1 r1=>?_);refine qbN R1 r1 h2 λvs s2 x2 R2 r2=>?_;refine SL A Z lk s2 aN ρ σ1 env r σ2 pos h3 hA R2 ((V.ext x1).ext x2) _ _ λws s3 bW x3 R3 r3=>?_;exact k _ s3 bW ((x1.trans x2).trans x3) R3 (aX.append (x3.repL r2) r3)
noncomputable def GQ (c:bJ)(n:Nat)(C:SC)(es:List Expr)(f:Loc->Store->Option (List D×Store)):Prop :=
 ∀(A:Around) (Z:List Addr) (lk:Nat->Nat) (s:Shared) (ads:aY) (ρ:Loc) (σ:Store) (env:Env) (ds:List D) (σ':Store) (pos:Pos) (fv:Value),f ρ σ=some (ds,σ')->dI A n C.fr->c.R Z lk s.heap ads σ->bK c C env ρ Z ads σ s.heap ->
  ∀(Q:Args->Shared->Prop) (E:Value->Shared->Prop),(∀v s' aG,Ext Z ads σ s aG σ' s'->c.R Z lk s'.heap aG σ'->c.PL Z aG σ' s'.heap ds v->Q ⟨v,[]⟩ s')->wpAny (model c.prog c.w) A (evalArgs fv true (backTo pos (starEach es env)) []) Q E s
theorem qiF {F:aU}{xs:List E}{e:Expr}{es:List Expr}(SL:jT c n C (e::es) (evs F xs))(he:isStarred e=false):GQ c n C (e::es) (evs F xs):=by
 intro A Z lk s ads ρ σ env ds σ' pos fv hf hA R V Q E k;have h:=SL A Z lk s ads ρ σ env ds σ' pos hf hA R V (λvs s'=>Q ⟨vs,[]⟩ s') E k;rw[wN he]at h ⊢;exact Calls.evalArgs_plain h
theorem qiG {F:aU}{x:E}{e:Expr}{p:Pos}(S:bL c n C e (ev F x)):GQ c n C [.Starred e p] (evs F [.star x]):=by
 intro A Z lk s ads ρ σ env ds σ' pos fv hf hA R V Q E k;refine aZ hf λd1 σ1 h1 hf=>?_;refine aJ hf λl h2 hf=>?_;cases hf;refine ks_lone (S A Z lk s ads ρ σ env d1 σ1 h1 hA R V _ _ λv s1 aN x1 R1 r1=>?_);refine qbN R1 r1 h2 λvs s2 x2 R2 r2=>?_;exact k _ s2 aN (x1.trans x2) R2 (by rw[append_nil];exact r2)
structure pH (c:bJ) (f:Nat) (nm:Str) (fa:Addr):Prop where
 fv:c.X.fv f=some fa
 find:findIn c.K (.ref (c.X.ca 0)) nm=some (some (.ref fa))
 isFn:typeIn c.K (.ref fa)=some (.type "function")
 fnIn:fnIn c.K fa=true
 get:specialIn c.K (.ref fa) "__get__" = some (some (.builtin "function.__get__"))
 takes:takesIn c.K (.ref fa)=some false
 copied:copiedNames.contains nm=false
 ne:∀a,a<4->c.X.an a≠nm
theorem ZL {d:D}{v:Value}(R:c.R Z lk h ads σ)(r:c.P Z ads σ h d v)(e:o7 σ d=true)(nm:Str)(hne:∀a,a<4->c.X.an a≠nm) :
  ∃(p:Addr×Addr) (es:List DictEntry) (m:Nat),v=.ref p.1/\InstAt h p.1 (instObj (c.X.ca 0) p.2) (c.X.ca 0) (some (dictOf es m))/\getL nm es=some none:=by
 refine elim (isSome_iff_exists.mp e) λu e=>aJ e λk₀ hk₀ e=>aZ e λcl as ho e=>aJ ho λox ho hox=>d8 e λh0 _=>?_;rw[kI hk₀]at r;rw[CN hox,show cl=0 from h0]at ho;exact aF r λp hp hv=>vJ (R.objs _ _ _ hp ho) λes m g1 g2 hr hn hl hlt=>⟨p,es,m,hv,⟨g1,rfl,rfl,g2⟩,hr.miss λe he=>hne _ (hlt e he)⟩
theorem sU {F:aU}{f:Nat}{fa:Addr}{x:E}{xs:List E}{o:Expr}{es:List Expr}{name:Str}{apos pos:Pos}(B0:Base c)(CO:mF c)(M:pH c f name fa)(FO:mH c n F.F)(S:bL c n C o (ev F x))(SL:jT c n C es (evs F xs))(hs:j4 es=true)(hl:es.length<20)(ho:∀name env whole,attributeBase o name env whole=whole)(hline:(apos.endLine==pos.line)=true):bL c n C (.Call (.Attribute o name apos) es [] pos) (ev F (.umeth x f xs)):=by
 intro A Z lk s ads ρ σ env d σ' hf hA R V Q E k;refine aZ hf λd1 σ1 h1 hf=>?_;refine xV hf λhi hf=>?_;refine aZ hf λl σ2 h2 h3=>?_;rw[arm_eval_Call,ho _ _ _];refine wpAny_bind (S A Z lk s ads ρ σ env d1 σ1 h1 hA R V _ _ λov s1 aN x1 R1 r1=>wpAny_bind (wpAny_standAt ?_));have hform:methodCallForm (es.length+([]:List Keyword).length) (backTo pos (starEach es env)) (backToKw pos (keywordEach [] env))=true:=yW hs hl;have hpos:methodCallPos true o env apos pos=pure pos:=by unfold methodCallPos;simp[hline]
 unfold methodCall;rw[hform];refine fY (ZL R1 r1 hi name M.ne) λp es' m O4 I iU=>?_;subst O4;obtain⟨ga,gk⟩:=plainGet_of (CO.get 0 (ltN (jZ 0x08281 rfl)));refine wpAny_bind (wpAny_holding (method_fn (o9 B0 R1) I ga gk M.find M.isFn (by show (lookIn name (dictOf es' m)).map _=_;rw[lookIn_dict,iU];rfl) ?_));refine wpAny_bind (wpAny_of_eq hpos ?_);refine xR B0 R1 (B0.fnK f fa M.fv) hs (SL A Z lk s1 aN ρ σ1 env l σ2 pos h2 hA R1 (V.ext x1) _ _ λvs s2 bT x2 R2 r2=>⟨o9 B0 R2,?_⟩);refine wpAny_call (FO f _ σ2 d σ' h3 fa M.fv A Z lk s2 bT _ C.fr hA.toF ((V.ext x1).ext x2).frs ((V.ext x1).ext x2).frn R2 ⟨_,vs,rfl,x2.rep r1,r2⟩ _ λv s3 bW x3 R3 r3=>?_);exact k v s3 bW ((x1.trans x2).trans x3) R3 r3
theorem qbO {es:List Expr}{pos:Pos}(h:es.any isStarred=true):(backTo pos (starEach es env)).any (·.1)=true:=by
 induction es with
 | nil=>cases h
 | cons e es ih =>
  rw[any_cons]at h;cases he:isStarred e with
  | false =>
   rw[he,Bool.false_or]at h;rw[wN he];show (false||(backTo pos (starEach es env)).any (·.1))=true;rw[ih h];rfl
  | true =>
   cases e <;> first|exact Bool.noConfusion he|rfl
theorem qbA {F:aU}{f:Nat}{fa:Addr}{x:E}{xs:List E}{o:Expr}{es:List Expr}{name:Str}{apos pos:Pos}(B0:Base c)(CO:mF c)(M:pH c f name fa)(FO:mH c n F.F)(S:bL c n C o (ev F x))(SL:GQ c n C es (evs F xs))(hs:es.any isStarred=true)(ho:∀name env whole,attributeBase o name env whole=whole) :
  bL c n C (.Call (.Attribute o name apos) es [] pos) (ev F (.umeth x f xs)):=by
 intro A Z lk s ads ρ σ env d σ' hf hA R V Q E k;refine aZ hf λd1 σ1 h1 hf=>?_;refine xV hf λhi hf=>?_;refine aZ hf λl σ2 h2 h3=>?_;rw[arm_eval_Call,ho _ _ _];refine wpAny_bind (S A Z lk s ads ρ σ env d1 σ1 h1 hA R V _ _ λov s1 aN x1 R1 r1=>wpAny_bind (wpAny_standAt ?_));have hform:methodCallForm (es.length+([]:List Keyword).length) (backTo pos (starEach es env)) (backToKw pos (keywordEach [] env))=false:=by
  unfold methodCallForm;have:=qbO (env:=env) (pos:=pos) hs;rw[any_eq_true]at this;refine aF (this) λy hy hy'=>?_;rw[Bool.and_eq_false_iff];left;rw[Bool.and_eq_false_iff];left;rw[List.all_eq_false];exact⟨y,hy,by simp[hy']⟩
 unfold methodCall;rw[hform];refine fY (ZL R1 r1 hi name M.ne) λp es' m qhh I iU=>?_;subst qhh;obtain⟨ga,gk⟩:=plainGet_of (CO.get 0 (ltN (jZ 0x08281 rfl)));have KX:=o9 B0 R1;have hfo:findObj c.K (c.X.ca 0) (some (dictOf es' m)) name=some (.bind (.builtin "function.__get__") (.ref fa)):=findObj_fn CO.hd M.find M.get M.takes M.copied (by rw[lookIn_dict,iU]);refine wpAny_bind (wpAny_holding (wpAny_bind (get_bind KX I ga hfo gk (wpAny_call (fn_get (s:={s1 with toks:=s1.toks+1}) KX M.isFn (handed_on rfl (wpAny_pure ?_)))))));refine wpAny_bind (wpAny_pure ?_);let mo:=methodObj (.ref fa) (.ref p.1);have hk1:∀b o,s1.heap.get? b=some o->(s1.heap.push mo).get? b=some o:=λb o e=>Heap.get?_push_of_some _ e;have x2:Ext Z aN σ1 s1 aN σ1 {s1 with heap:=s1.heap.push mo,toks:=s1.toks+1}:=Ext.more hk1;have R2:=R1.grow hk1;have hq:(s1.heap.push mo).get? s1.heap.objs.size=some mo:=Heap.get?_push_size _ rfl;have hqo:¬bH aN σ1 s1.heap.objs.size:=λq=>R1.fresh_ww (bU _) (.inr q);refine ks_call (P:=MethP c.K s1.heap.objs.size fa (.ref p.1)) (qbO hs) (keeps_M M.fnIn) ?_;refine SL A Z lk _ aN ρ σ1 env l σ2 pos _ h2 hA R2 ((V.ext x1).ext x2) _ _ λvs s3 bW x3 R3 r3=>?_;have Z0:=SO.ex (x3.kept _ _ hqo hq) (λ_ _ q=>by cases q);refine⟨⟨Z0,o9 B0 R3⟩,wpAny_call (method_call Z0 ?_)⟩;refine FO f _ σ2 d σ' h3 fa M.fv A Z lk s3 bW _ C.fr hA.toF (((V.ext x1).ext x2).ext x3).frs (((V.ext x1).ext x2).ext x3).frn R3 ⟨_,vs,rfl,x3.rep (x2.rep r1),r3⟩ _ λv s4 jD x4 R4 r4=>?_;exact k v s4 jD (((x1.trans x2).trans x3).trans x4) R4 r4
end
section
variable {c:bJ}{A:Around}{Z:List Addr}{lk:Nat->Nat}{s:Shared}{ads:aY}{σ σ':Store}{n:Nat}{C cW:SC}{env:Env}{ρ:Loc}{W:Addr->Prop}{h:Heap}
theorem qkh (a:Addr)(vs:List Value):(A.under (.builtin "type.__call__" ⟨.ref a::vs,[]⟩)).depth=A.depth+1/\(A.under (.builtin "type.__call__" ⟨.ref a::vs,[]⟩)).units=A.units+1/\(A.under (.builtin "type.__call__" ⟨.ref a::vs,[]⟩)).handled=A.handled:=⟨rfl,rfl,rfl⟩
theorem qkg {a:Addr}{vs:List Value}{l:List Env}(e:A.frames=some l):(A.under (.builtin "type.__call__" ⟨.ref a::vs,[]⟩)).frames=some l:=by
 show pushEnvs [] A.frames=some l;rw[e];rfl
theorem qjB {F:aU}{i:Nat}{xs:List E}{es:List Expr}{id:Str}{np pos:Pos}(B0:Base c)(CO:mF c)(hi:i<2)(FO:mH c n F.F)(FN:∀l σ d σ',F.F (1000+i) l σ=some (d,σ')->d=.none)(SL:jT c n C es (evs F xs))(hs:j4 es=true)(hk:C.names.lookup id=some .globalImplicit)(hg:c.gl id=some (.ref (c.X.ca i)))(hd:(id==("__debug__":Str))=false) :
  bL c n C (.Call (.Name id np) es [] pos) (ev F (.new i xs)):=by
 intro A Z lk s ads ρ σ env d σ' hf hA R V Q E k;refine aZ hf λl σ1 h1 hf=>?_;refine aZ hf λd0 σ2 h2 hf=>?_;cases hf;obtain⟨mk,fI,hfI,hfind,hty⟩:=CO.make i hi;refine wpAny_Call_NameR (KQ B0 R V hk hg hd ?_);refine xR B0 R (B0.clK i hi) hs (SL A Z lk s ads ρ σ env l σ1 pos h1 hA R V _ _ λvs s1 aN x1 R1 r1=>⟨o9 B0 R1,?_⟩);have KX:=o9 B0 R1;obtain⟨h1',g1,HX,t1,os1⟩:=s1;refine wpAny_call (make_core (makes_of KX mk) (looks_findIn KX hfind) (λself=>bind_fn KX self hty) (.inl (by rfl)) ?_);dsimp only at R1 r1 KX;let h2':=(h1'.push emptyDict).push (instObj (c.X.ca i) h1'.objs.size);let p:Addr×Addr:=(h1'.objs.size+1,h1'.objs.size);have hk1:∀b o,h1'.get? b=some o->h2'.get? b=some o:=λb o e=>Heap.get?_push_of_some _ (Heap.get?_push_of_some _ e);have hp1:h1'.get? p.1=none:=by
  cases e:h1'.get? p.1 with
  | none=>rfl
  | some o=>exact absurd (Heap.lt_size e) (by show ¬(h1'.objs.size+1<h1'.objs.size);exact(aK 0x0ff0aa1 rfl))
 have hp2:h1'.get? p.2=none:=bU _;have hz1:(h1'.push emptyDict).objs.size=h1'.objs.size+1:=Heap.size_push _ _;have hg1:h2'.get? p.1=some (instObj (c.X.ca i) h1'.objs.size):=by
  have:h2'.get? (h1'.push emptyDict).objs.size=some (instObj (c.X.ca i) h1'.objs.size):=Heap.get?_push_size _ rfl;rw[hz1]at this;exact this
 have hg2:h2'.get? p.2=some emptyDict:=Heap.get?_push_of_some _ (Heap.get?_push_size _ rfl);have R2:c.R Z lk h2' (aN++[p]) (σ1++[.inst i []]):=by
  refine R1.add hk1 hp1 hp2 ⟨_,hg1⟩ ⟨_,hg2⟩ ?_
  match i,hi with
  | 0,_=>exact⟨[],0,hg1,hg2,rfl,by simp[p],by simp,by simp⟩
  | 1,_=>exact⟨#[],hg1,hg2,by simp,λj hj=>by simp[sH],by simp[p],by simp⟩
  | n+2,h=>exact absurd h (Nat.not_lt.mpr (Nat.le_add_left 2 n))
 have hlen:aN.length=σ1.length:=R1.len;have hpk:(aN++[p])[σ1.length]?=some p:=by rw[<-hlen];simp
 have hown:=R1.owned_add (p:=p) (o:=.inst i []) hp1 hp2;have x2:Ext Z aN σ1 ⟨h1',g1,HX,t1,os1⟩ (aN++[p]) (σ1++[.inst i []]) ⟨h2',g1,HX,t1,os1⟩:=⟨⟨[p],rfl⟩,λb o _ e=>SO.of (hk1 b o e),hown,λb ⟨o,e⟩=>⟨o,hk1 b o e⟩,⟨_,_,rfl⟩⟩;refine cQ (qkh (A:=A) (c.X.ca i) vs) λu1 u2 u3=>?_;have hA':GP (A.under (.builtin "type.__call__" ⟨.ref (c.X.ca i)::vs,[]⟩)) n C.fr:=⟨by have:=hA.depth;exact aA (aC 0x8814b0aaf3e79a1f2a013e79a814b2aa1 rfl this (aQ u1)),by rw[u2];exact unB hA.units (by decide),by rw[u3];exact hA.handled,qkg hA.frames⟩;refine FO _ _ _ d0 _ h2 fI hfI _ Z lk ⟨h2',g1,HX,t1,os1⟩ _ _ C.fr hA' ((V.ext x1).ext x2).frs ((V.ext x1).ext x2).frn R2 ⟨_,vs,rfl,(⟨p,hpk,rfl⟩:c.P Z (aN++[p]) (σ1++[.inst i []]) h2' (.ref σ1.length) (.ref p.1)),x2.repL r1⟩ _ λv s3 bW x3 R3 r3=>?_;have:=FN _ _ _ _ h2;subst this;cases r3;refine⟨rfl,?_⟩;refine k _ s3 bW ((x1.trans x2).trans x3) R3 ⟨p,x3.sub _ _ hpk,rfl⟩
end
namespace NX
theorem DY:Slot "list_iterator" "__getattribute__" "object.__getattribute__" :=
 .of (owner:="object") (n:="__getattribute__") (by rw[typeLookup_type,builtinLookup_eq_fast];kernel_rfl) (by decide +kernel) (by decide +kernel) (by decide +kernel)
  (by first|exact .inl (by decide +kernel)|exact .inr (by decide +kernel)) (by rw[isSubtype_type];kernel_rfl)
theorem qdI:entryFor table "object.__getattribute__" = some Builtin.«object.__getattribute__»:=entryFor_of_tree (by kernel_rfl)
theorem qcP (a b:Value):argsOk "object.__getattribute__" ⟨[a,b],[]⟩:=by unfold argsOk;kernel_rfl
theorem qgG:typeLookup (.type "list_iterator") "__getattr__" = pure none:=by rw[typeLookup_type,builtinLookup_eq_fast];kernel_rfl
theorem qb3:typeOf (.builtin "list_iterator.__next__")=pure (.type "wrapper_descriptor"):=by show builtinType _=_;rw[builtinType_eq_fast];kernel_rfl
theorem slot_get:Slot "wrapper_descriptor" "__get__" "wrapper_descriptor.__get__" :=
 .of (owner:="wrapper_descriptor") (n:="__get__") (by rw[typeLookup_type,builtinLookup_eq_fast];kernel_rfl) (by decide +kernel) (by decide +kernel) (by decide +kernel)
  (by first|exact .inl (by decide +kernel)|exact .inr (by decide +kernel)) (by rw[isSubtype_type];kernel_rfl)
theorem qgH:typeLookup (.type "wrapper_descriptor") "__set__" = pure none:=by rw[typeLookup_type,builtinLookup_eq_fast];kernel_rfl
theorem qgF:typeLookup (.type "wrapper_descriptor") "__delete__" = pure none:=by rw[typeLookup_type,builtinLookup_eq_fast];kernel_rfl
theorem entry_get:entryFor table "wrapper_descriptor.__get__" = some Builtin.«wrapper_descriptor.__get__»:=entryFor_of_tree (by kernel_rfl)
theorem args_get (a b c:Value):argsOk "wrapper_descriptor.__get__" ⟨[a,b,c],[]⟩:=by unfold argsOk;kernel_rfl
theorem qbR:isSubtype (.type "list_iterator") (.type "list_iterator")=pure true:=by rw[isSubtype_type];kernel_rfl
section
variable {prog:Program}{w:World}{A:Around}{E:Value->Shared->Prop}{s:Shared}
theorem run_get {I l:Addr}{i:Nat}{P:Fin->Shared->Prop}{tp:Value}(hI:s.heap.IsListIter I l i)(h:P (.done (.ret (.ref s.heap.objs.size))) {s with heap:=s.heap.push {cls:=.type "method-wrapper",data:=.fields #[.builtin "list_iterator.__next__",.ref I]}}) :
  wpAny (model prog w) A (Builtin.«wrapper_descriptor.__get__» ⟨[.builtin "list_iterator.__next__",.ref I,tp],[]⟩) P E s:=by
 obtain⟨hp,g,d,tk,os⟩:=s;refine bM (hI) λo ho hc hd=>?_;have hT:(⟨hp,g,d,tk,os⟩:Shared).TypeIs (.ref I) "list_iterator":=⟨o,ho,hc⟩;have f1:=qbR;unfold Builtin.«wrapper_descriptor.__get__»
 repeat (any_goals (first|assumption|wp_step))
 have e:".".intercalate ("list_iterator.__next__".cutAt '.').dropLast = "list_iterator":=by first|decide +kernel|kernel_rfl
 rw[e];refine wpAny_of_eq f1 ?_;simp only[Bool.not_true,false_eq_true,if_false];refine wpAny_pure ?_;refine wpAny_bind ?_;exact wpAny_newObj_type (wpAny_pure h)
set_option maxHeartbeats 2000000 in
theorem getAttr_next {I l:Addr}{i:Nat}{Q:Value->Shared->Prop}(hI:s.heap.IsListIter I l i)(hdict:∀o,s.heap.get? I=some o->o.dict=none)(h:Q (.ref s.heap.objs.size) {s with heap:=s.heap.push {cls:=.type "method-wrapper",data:=.fields #[.builtin "list_iterator.__next__",.ref I]},toks:=s.toks+1}) :
  wpAny (model prog w) A (PySem.getAttr (.ref I) "__next__" true) Q E s:=by
 refine bM (hI) λo ho hc hd=>?_;have hI':s.heap.IsListIter I l i:=⟨o,ho,hc,hd⟩;have hdo:=hdict o ho;obtain⟨oc,od,oda,osl⟩:=o;dsimp only at hc hd hdo;subst hc hd hdo;obtain⟨hp,g,d,tk,os⟩:=s;have hT:∀tk',(⟨hp,g,d,tk',os⟩:Shared).TypeIs (.ref I) "list_iterator":=λ_=>⟨_,ho,rfl⟩;have f1:=qbR;have f3:=DY.lookup;have f4:=DY.bind (.ref I);have f5:=qgG;have f6:=PySem.slot_listiter_next.lookup;have f7:=qb3;have f8:=slot_get.lookup;have f9:=qgH;have f10:=qgF;unfold PySem.getAttr getAttrBy;refine wpAny_bind (wpAny_mkText (wpAny_holding (wpAny_bind ?_)))
 repeat (any_goals (first|assumption|exact hT _|wp_step))
 refine codeAny_call_builtin DY.plain qdI (DY.check _ _ _ _ _ _ _ _ (hT _) (qcP _ _) ?_);unfold Builtin.«object.__getattribute__» Builtin.ObjectAttr.find Builtin.ObjectAttr.getOf Builtin.ObjectAttr.dataDescriptor? Builtin.ObjectAttr.ownThenClass Builtin.ObjectAttr.inOwnDict
 repeat (any_goals (first|assumption|exact hT _|wp_step))
 refine codeAny_call_builtin slot_get.plain entry_get (slot_get.check _ _ _ _ _ _ _ _ qb3 (args_get _ _ _) ?_);refine run_get (s:=⟨hp,g,d,tk+1,os⟩) hI' ?_;refine wpAny_pure ?_;show wpAny _ _ (handedOut (.ref _)) _ _ _;exact handed_on rfl h
end
end NX
section
variable {c:bJ}{A:Around}{Z:List Addr}{lk:Nat->Nat}{s:Shared}{ads:aY}{σ σ':Store}{n:Nat}{C cW:SC}{env:Env}{ρ:Loc}{W:Addr->Prop}{h:Heap}
theorem qjC {F:aU}{x:E}{o:Expr}{pos:Pos}(S:bL c n C o (ev F x))(ho:∀name env whole,attributeBase o name env whole=whole):bL c n C (.Attribute o "__next__" pos) (ev F (.nextOf x)):=by
 intro A Z lk s ads ρ σ env d σ' hf hA R V;refine aZ hf λd1 σ1 h1 hf=>aJ hf λk₀ hk₀ hf=>aZ hf λl i hk hf=>aJ hk λox hk hox=>d8 hf λh0 hf=>Yields.cast hf λQ E k=>?_;rw[show d1=_ from kI hk₀]at h1;rw[NK hox,show i=0 from h0]at hk;refine qcc (ho _ _ _) (S A Z lk s ads ρ σ env _ _ h1 hA R V _ _ λov s1 aN x1 R1 r1=>?_);refine aF (r1) λp hp qhw=>?_;subst qhw;refine cL (R1.objs _ _ _ hp hk) λq hq hit hpp hz=>?_;refine aF (hz rfl) λo0 vY hd0=>?_;refine NX.getAttr_next hit (λo e=>by rw[vY]at e;cases e;exact hd0) ?_;let ob:Obj:={cls:=.type "method-wrapper",data:=.fields #[.builtin "list_iterator.__next__",.ref p.1]};have hk':∀b o,s1.heap.get? b=some o->(s1.heap.push ob).get? b=some o:=λb o e=>Heap.get?_push_of_some _ e;refine k _ _ (aN++[(s1.heap.objs.size,s1.heap.objs.size)]) (x1.trans (pP (tk:=s1.toks+1) R1 (bU _) (bU _) hk')) ?_ (pC (p:=(s1.heap.objs.size,s1.heap.objs.size)) R1.len);exact R1.add hk' (bU _) (bU _) (o4 _) (o4 _) ⟨p,Sub.append _ _ _ _ hp,Heap.get?_push_size _ rfl,rfl⟩
end
noncomputable def uQ (c:bJ)(Z:List Addr)(ads:aY)(σ:Store)(h:Heap):Fl->Flow->Prop
 | .next,f=>f=.next
 | .brk,f=>f=.brk
 | .cont,f=>f=.cont
 | .ret d,f=>∃v,f=.ret v/\c.P Z ads σ h d v
noncomputable def GX (c:bJ)(C:SC)(A:Around)(t:Sem Flow)(Z:List Addr)(lk:Nat->Nat)(s:Shared)(ads:aY)(σ:Store)(env:Env)(fl:Fl)(ρ':Loc)(σ':Store):Prop :=
 ∀(Q:Flow->Shared->Prop) (E:Value->Shared->Prop),(∀f s' aG,b8 (dY env) ads σ s aG σ' s'->c.R Z lk s'.heap aG σ'->bK c C env ρ' Z aG σ' s'.heap->uQ c Z aG σ' s'.heap fl f->Q f s')->wpAny (model c.prog c.w) A t Q E s
noncomputable def iK (c:bJ)(n:Nat)(C:SC)(st:Stmt)(f:Loc->Store->Option (Fl×Loc×Store)):Prop :=
 ∀(A:Around) (Z:List Addr) (lk:Nat->Nat) (s:Shared) (ads:aY) (ρ:Loc) (σ:Store) (env:Env) (fl:Fl) (ρ':Loc) (σ':Store),f ρ σ=some (fl,ρ',σ')->dI A n C.fr->c.R Z lk s.heap ads σ->bK c C env ρ Z ads σ s.heap ->
  GX c C A (exec st env) Z lk s ads σ env fl ρ' σ'
noncomputable def dJ (c:bJ)(n:Nat)(C:SC)(sts:List Stmt)(f:Loc->Store->Option (Fl×Loc×Store)):Prop :=
 ∀(A:Around) (Z:List Addr) (lk:Nat->Nat) (s:Shared) (ads:aY) (ρ:Loc) (σ:Store) (env:Env) (fl:Fl) (ρ':Loc) (σ':Store),f ρ σ=some (fl,ρ',σ')->dI A n C.fr->c.R Z lk s.heap ads σ->bK c C env ρ Z ads σ s.heap ->
  GX c C A (execs sts env) Z lk s ads σ env fl ρ' σ'
noncomputable def jB (c:bJ)(n:Nat)(C:SC)(t:Expr)(f:D->Loc->Store->Option (Loc×Store)):Prop :=
 ∀(A:Around) (Z:List Addr) (lk:Nat->Nat) (s:Shared) (ads:aY) (ρ:Loc) (σ:Store) (env:Env) (d:D) (v:Value) (ρ':Loc) (σ':Store),f d ρ σ=some (ρ',σ')->dI A n C.fr->c.R Z lk s.heap ads σ->bK c C env ρ Z ads σ s.heap->c.P Z ads σ s.heap d v ->
  ∀(Q:Unit->Shared->Prop) (E:Value->Shared->Prop),(∀s' aG,b8 (dY env) ads σ s aG σ' s'->c.R Z lk s'.heap aG σ'->bK c C env ρ' Z aG σ' s'.heap->Q () s')->wpAny (model c.prog c.w) A (assign t env v) Q E s
section
variable {c:bJ}{A:Around}{Z:List Addr}{lk:Nat->Nat}{s:Shared}{ads:aY}{σ σ':Store}{n:Nat}{C cW:SC}{env:Env}{ρ:Loc}{W:Addr->Prop}{h:Heap}
theorem bK.fr (V:bK c C env ρ Z ads σ h):∀b o,dY env b->h.get? b=some o->Fz o->WW Z ads σ b:=λb o y e hz=>absurd hz (V.frFz y o e).1
theorem bK.toY {s':Shared}{aG:aY}(V:bK c C env ρ Z ads σ s.heap)(x:Ext Z ads σ s aG σ' s'):b8 (dY env) ads σ s aG σ' s':=b8.of_ext x λb y=>V.frOwn y
structure oR (C:SC) (i:Nat) (x:Str):Prop where
 slot:C.slots.lookup i=some x
 kind:C.names.lookup x=some .local\/C.names.lookup x=some .cell
 one:∀(j:Nat) (y:Str),C.slots.lookup j=some y->(j=i/\y=x)\/(j≠i/\y≠x)
theorem EY {i:Nat}{x:Str}{d:D}{v:Value}(R:c.R Z lk s.heap ads σ)(V:bK c C env ρ Z ads σ s.heap)(hs:oR C i x)(rv:c.P Z ads σ s.heap d v){Q:Unit->Shared->Prop}{E:Value->Shared->Prop}(k:∀s',b8 (dY env) ads σ s ads σ s'->c.R Z lk s'.heap ads σ->bK c C env (ρ.set i (some d)) Z ads σ s'.heap->Q () s'):wpAny (model c.prog c.w) A (storeName env x v) Q E s:=by
 refine qbQ R V rfl rfl rfl (λj y e=>(hs.one j y e).imp id λq=>⟨q.1,q.2,e⟩) hs.kind rv λa h' tk ha _ _ hk R' V'=>?_;exact k _ (b8.one hk ha (V'.frHas ha)) R' V'
theorem qiK {F:aU}{i:Nat}{x:Str}{pos:Pos}(hs:oR C i x):jB c n C (.Name x pos) (cA F (.name i)):=by
 intro A Z lk s ads ρ σ env d v ρ' σ' hf hA R V rv Q E k;dsimp only[cA]at hf;cases hf;exact wpAny_assign_Name (EY R V hs rv λs' x R' V'=>k s' ads x R' V')
theorem qiJ {F:aU}{x:E}{a:Nat}{o:Expr}{name:Str}{pos:Pos}(B0:Base c)(CO:mF c)(S:bL c n C o (ev F x))(hn:name=c.X.an a):jB c n C (.Attribute o name pos) (cA F (.attr x a)):=by
 subst hn;intro A Z lk s ads ρ σ env d v ρ' σ' hf hA R V rv Q E k;refine aZ hf λd1 σ1 h1 hf=>?_;refine aJ hf λσ2 h2 hf=>?_;cases hf;rw[PySem.assign_Attribute];refine wpAny_bind (wpAny_holding (S A Z lk s ads ρ σ env d1 σ1 h1 hA R V _ _ λov s1 aN x1 R1 r1=>wpAny_bind (wpAny_standAt (wpAny_bind (wpAny_holding ?_)))));refine qbx B0 CO R1 r1 (x1.rep rv) h2 λs2 x2 R2=>wpAny_release ?_;exact k s2 aN (V.toY (x1.trans x2)) R2 ((V.ext x1).ext x2)
theorem qi8 {F:aU}{W:Nat}{x:E}{e:Expr}{pos:Pos}(S:bL c n C e (ev F x))(hs:∀env,swapsWith e none pos.line env=pure false):iK c n C (.Expr e pos) (ex F W (.expr x)):=by
 intro A Z lk s ads ρ σ env fl ρ' σ' hf hA R V Q E k;refine aZ hf λd1 σ1 h1 hf=>?_;cases hf;exact wpAny_Expr_any (S A Z lk s ads _ σ env d1 _ h1 hA R V _ _ λv s1 aN x1 R1 r1=>k .next s1 aN (V.toY x1) R1 (V.ext x1) rfl) (by unfold interactive;rw[V.kind];rfl) (hs env)
theorem qjc {F:aU}{W:Nat}{x:E}{e:Expr}{pos:Pos}(S:bL c n C e (ev F x)):iK c n C (.Return (some e) pos) (ex F W (.ret x)):=by
 intro A Z lk s ads ρ σ env fl ρ' σ' hf hA R V Q E k;refine aZ hf λd1 σ1 h1 hf=>?_;cases hf;exact wpAny_Return_some (S A Z lk s ads _ σ env d1 _ h1 hA R V _ _ λv s1 aN x1 R1 r1=>k (.ret v) s1 aN (V.toY x1) R1 (V.ext x1) ⟨v,rfl,r1⟩)
theorem qi6 {F:aU}{W:Nat}{pos:Pos}:iK c n C (.Break pos) (ex F W .brk):=by
 intro A Z lk s ads ρ σ env fl ρ' σ' hf hA R V Q E k;dsimp only[ex]at hf;cases hf;exact wpAny_Break (k .brk s ads b8.refl R V rfl)
theorem qi7 {F:aU}{W:Nat}{pos:Pos}:iK c n C (.Continue pos) (ex F W .cont):=by
 intro A Z lk s ads ρ σ env fl ρ' σ' hf hA R V Q E k;dsimp only[ex]at hf;cases hf;exact wpAny_Continue (k .cont s ads b8.refl R V rfl)
theorem qi5 {F:aU}{W:Nat}{st:Stmt}:iK c n C st (ex F W .bad):=by
 intro A Z lk s ads ρ σ env fl ρ' σ' hf;dsimp only[ex]at hf;cases hf
theorem qiZ {F:aU}{W:Nat}:dJ c n C [] (exs F W []):=by
 intro A Z lk s ads ρ σ env fl ρ' σ' hf hA R V Q E k;dsimp only[exs]at hf;cases hf;exact wpAny_execs_nil (k .next s ads b8.refl R V rfl)
theorem WR {F:aU}{W:Nat}{x:S}{xs:List S}{ρ ρ':Loc}{fl:Fl}(hf:exs F W (x::xs) ρ σ=some (fl,ρ',σ')):(∃gC σ1,ex F W x ρ σ=some (.next,gC,σ1)/\exs F W xs gC σ1=some (fl,ρ',σ'))\/(ex F W x ρ σ=some (fl,ρ',σ')/\fl≠.next):=by
 refine iQ hf λf gC σ1 h1 hf=>?_;cases f
 case next=>exact .inl ⟨gC,σ1,h1,hf⟩
 all_goals exact .inr ⟨h1.trans hf,sm3 hf λq _ _=>q▸(λz=>nomatch z)⟩
theorem qiX {F:aU}{W:Nat}{x:S}{xs:List S}{st:Stmt}{sts:List Stmt}(S1:iK c n C st (ex F W x))(S2:dJ c n C sts (exs F W xs)):dJ c n C (st::sts) (exs F W (x::xs)):=by
 intro A Z lk s ads ρ σ env fl ρ' σ' hf hA R V Q E k;refine wpAny_execs_cons ?_;rcases WR hf with ⟨gC,σ1,h1,h2⟩|⟨h1,hne⟩
 ·refine S1 A Z lk s ads ρ σ env .next gC σ1 h1 hA R V _ _ λf s1 aN x1 R1 V1 hfl=>?_;cases hfl;exact S2 A Z lk s1 aN gC σ1 env fl ρ' σ' h2 hA R1 V1 _ _ λf s2 bT x2 R2 V2 hfl=>k f s2 bT (x1.trans x2) R2 V2 hfl
 ·refine S1 A Z lk s ads ρ σ env fl ρ' σ' h1 hA R V _ _ λf s1 aN x1 R1 V1 hfl=>?_;have key:=k f s1 aN x1 R1 V1 hfl;cases fl with
  | next=>exact absurd rfl hne
  | brk=>cases hfl;exact key
  | cont=>cases hfl;exact key
  | ret d=>obtain⟨v,rfl,_⟩:=hfl;exact key
theorem qja {F:aU}{W:Nat}{x:E}{e:Expr}{xs ys:List S}{as bs:List Stmt}{pos:Pos}(S:kE c n C e (ev F x))(Sa:dJ c n C as (exs F W xs))(Sb:dJ c n C bs (exs F W ys)):iK c n C (.If e as bs pos) (ex F W (.ife x xs ys)):=by
 intro A Z lk s ads ρ σ env fl ρ' σ' hf hA R V Q E k;dsimp only[ex,test]at hf;refine aZ hf λt σ1 h1 hf=>?_;refine aZ h1 λd1 σ2 h2 h1=>?_;refine aJ h1 λt' h3 h1=>?_;cases h1;refine wpAny_If (S A Z lk s ads ρ σ env d1 _ t h2 h3 hA R V _ _ λs1 aN x1 R1=>?_);have V1:=V.ext x1;have y1:=V.toY x1;cases t with
 | true=>exact Sa A Z lk s1 aN ρ _ env fl ρ' σ' hf hA R1 V1 _ _ λf s2 bT x2 R2 V2 hfl=>k f s2 bT (y1.trans x2) R2 V2 hfl
 | false=>exact Sb A Z lk s1 aN ρ _ env fl ρ' σ' hf hA R1 V1 _ _ λf s2 bT x2 R2 V2 hfl=>k f s2 bT (y1.trans x2) R2 V2 hfl
end
section
variable {c:bJ}{A:Around}{Z:List Addr}{lk:Nat->Nat}{s:Shared}{ads:aY}{σ σ':Store}{n:Nat}{C cW:SC}{env:Env}{ρ:Loc}{W:Addr->Prop}{h:Heap}
theorem qeA {i:Nat}{k₀:Nat}{l:List D}{x:Str}(hs:oR C i x)(R:c.R Z lk s.heap ads σ)(V:bK c C env ρ Z ads σ s.heap)(hi:ρ[i]?=some (some (.ref k₀)))(ho:σ[k₀]?=some (.list l)) :
  b8 (dY env) ads σ s ads (σ.set k₀ .dead) s/\c.R Z lk s.heap ads (σ.set k₀ .dead)/\bK c C env (ρ.set i (some (.list l))) Z ads (σ.set k₀ .dead) s.heap:=by
 have hkl:k₀<ads.length:=by rw[R.len];exact(List.getElem?_eq_some_iff.mp ho).1
 have hp:=getElem?_eq_getElem hkl;generalize ads[k₀]=p at hp;have hown:∀b,bH ads (σ.set k₀ .dead) b->bH ads σ b:=Rel.owned_set hp ho rfl;have lR:∀b,WW Z ads (σ.set k₀ .dead) b->WW Z ads σ b:=λb w=>w.imp id (hown b);refine cL (R.objs _ _ _ hp ho) λvs hpl hr hl hpp=>?_;have R':c.R Z lk s.heap ads (σ.set k₀ .dead):=R.put hp ho rfl (λ_ _ _ _ e=>e) (R.alt _ _ _ hp ho rfl) trivial;have hz:¬WW Z ads (σ.set k₀ .dead) p.1:=by
  rintro(w|⟨j,q,o,h1,h2,h3,h4⟩)
  ·exact R.zown _ w ⟨k₀,p,_,hp,ho,rfl,.inl rfl⟩
  ·by_cases hj:k₀=j
   ·subst hj;rw[getElem?_set_self (List.getElem?_eq_some_iff.mp ho).1]at h2;cases h2;cases h3
   ·rw[getElem?_set_ne hj]at h2;have:=R.apart k₀ j p q _ o hp h1 ho h2 rfl h3 hj;rcases h4 with h4|h4
    ·exact this.1 h4
    ·exact this.2.1 h4
 have qbo:c.P Z ads (σ.set k₀ .dead) s.heap (.list l) (.ref p.1):=⟨p.1,vs,rfl,hpl,hz,hl,aX.mono (Sub.refl _) (λ_ _ _ _ e=>e) (λa _ _ w=>lR a w) _ _ hr⟩;have V':bK c C env ρ Z ads (σ.set k₀ .dead) s.heap:=V.mono (Sub.refl _) (λ_ _ _ _ e=>e) (λa _ _ w=>lR a w) (λ_ _ _ e=>e) (λa h _ q=>h (hown a q)) (λ_ _=>gW.same λ_ e=>e);refine⟨⟨⟨[],by simp⟩,λ_ _ _ _ e=>SO.of e,λ_ e=>e,λb e=>.inl (hown b e),⟨_,_,rfl⟩⟩,R',?_⟩;refine⟨V'.kind,V'.names,V'.globals,V'.builtins,?_,V'.has,?_,V'.apart,V'.lown,V'.cown,V'.frs,V'.frn,V'.hd⟩
 ·refine aF (V'.ns) λm hm hv=>?_;refine⟨m,hm,λj y d a b e=>?_⟩;rcases qH e with ⟨rfl,rfl⟩|⟨h1,h2⟩
  ·refine aF (hv _ y (.ref k₀) a b hi) λv e1 r1=>?_;refine aF (r1) λp' hp' qhq=>?_;subst qhq;rw[hp]at hp';cases hp';exact⟨_,e1,qbo⟩
  ·exact hv j y d a b h2
 ·intro j y d a b e q l';rcases qH q with ⟨rfl,rfl⟩|⟨h1,h2⟩
  ·refine aF (V'.cell _ y (.ref k₀) a b e hi l') λv e1 r1=>?_;refine aF (r1) λp' hp' qhr=>?_;subst qhr;rw[hp]at hp';cases hp';exact⟨_,e1,qbo⟩
  ·exact V'.cell j y d a b e h2 l'
theorem qiY {F:aU}{W:Nat}{i:Nat}{xs:List S}{sts:List Stmt}{x:Str}(hs:oR C i x)(S2:dJ c n C sts (exs F W xs)):dJ c n C sts (exs F W (.freeze i::xs)):=by
 intro A Z lk s ads ρ σ env fl ρ' σ' hf hA R V Q E k;refine iQ hf λf gC σ1 h1 h2=>aJ h1 λd hi h1=>aJ h1 λk₀ hk₀ h1=>aJ h1 λl ho h1=>aJ ho λox ho hox=>sm3 h1 λe1 e2 e3=>?_;subst e1;subst e2;subst e3;have hi:=zG hi;rw[kI hk₀]at hi;rw[uE hox]at ho;exact cQ (qeA hs R V hi ho) λy R1 V1=>S2 A Z lk s ads _ _ env fl ρ' σ' h2 hA R1 V1 _ _ λf s2 bT x2 R2 V2 hfl=>k f s2 bT (y.trans x2) R2 V2 hfl
theorem qje {F:aU}{W:Nat}{x:E}{e:Expr}{xs ys:List S}{as bs:List Stmt}{pos:Pos}(S:kE c n C e (ev F x))(Sa:dJ c n C as (exs F W xs))(Sb:dJ c n C bs (exs F W ys)):iK c n C (.While e as bs pos) (ex F W (.whil x xs ys)):=by
 intro A Z lk s ads ρ σ env fl ρ' σ' hf hA R V Q E k;dsimp only[ex]at hf;refine wpAny_While ?_;let Inv:Nat->Shared->Prop:=λm s₁=>∃cV nF σ₁,oH (test F x) (exs F W xs) (exs F W ys) m nF σ₁=some (fl,ρ',σ')/\c.R Z lk s₁.heap cV σ₁/\bK c C env nF Z cV σ₁ s₁.heap/\b8 (dY env) ads σ s cV σ₁ s₁;refine codeAny_whileLoop Inv (λm s₁ hI=>?_) W ⟨ads,ρ,σ,hf,R,V,b8.refl⟩;refine lK (hI) λcV nF σ₁ hw R₁ qY X₁=>?_;cases m with
 | zero=>exact bO hw
 | succ m =>
  refine aZ hw λt σ2 ht hw=>aZ ht λd σ3 h1 ht=>aJ ht λt' h2 ht=>?_;refine eG ht λq1 q2=>?_;subst q1;subst q2;refine S A Z lk s₁ cV nF σ₁ env d σ3 t' h1 h2 hA R₁ qY _ _ λs2 bT x2 R2=>?_;have V2:=qY.ext x2;have X2:=X₁.trans (qY.toY x2);cases t' with
  | true =>
   rw[if_pos rfl];refine iQ hw λfl3 uL σ3 hb hw=>Sa A Z lk s2 bT nF _ env _ _ _ hb hA R2 V2 _ _ λf s3 bW x3 R3 V3 hfl=>?_;cases fl3 with
   | next=>cases hfl;exact⟨m,lt_succ_self _,bW,uL,σ3,hw,R3,V3,X2.trans x3⟩
   | cont=>cases hfl;exact⟨m,lt_succ_self _,bW,uL,σ3,hw,R3,V3,X2.trans x3⟩
   | brk=>cases hfl;cases hw;exact k .next s3 bW (X2.trans x3) R3 V3 rfl
   | ret d=>cases hw;exact aF hfl λv hv r=>hv▸k (.ret v) s3 bW (X2.trans x3) R3 V3 ⟨v,rfl,r⟩
  | false =>
   rw[if_neg Bool.false_ne_true];exact Sb A Z lk s2 bT nF _ env fl ρ' σ' hw hA R2 V2 _ _ λf s3 bW x3 R3 V3 hfl=>k f s3 bW (X2.trans x3) R3 V3 hfl
theorem qi0 {F:aU}{W:Nat}{t:T}{x:E}{te e:Expr}{pos:Pos}(S:bL c n C e (ev F x))(G:jB c n C te (cA F t))(he:∀env,(assignEach [te] env).map (·.2)=[assign te env])(hs:∀env:Env,env.scope.names=C.names->swapsWith e (some te) pos.line env=pure false)(hw:∀env:Env,env.scope.names=C.names->env.scope.kind=.function->swappedStores [te] e env=pure none):iK c n C (.Assign [te] e pos) (ex F W (.assign t x)):=by
 intro A Z lk s ads ρ σ env fl ρ' σ' hf hA R V Q E k;refine aZ hf λd1 σ1 h1 hf=>aZ hf λoM σ2 h2 hf=>?_;cases hf;refine wpAny_Assign_stores (S A Z lk s ads ρ σ env d1 σ1 h1 hA R V _ _ λv s1 aN x1 R1 r1=>?_) (hs env V.names) (hw env V.names V.kind);rw[he];exact G A Z lk s1 aN ρ σ1 env d1 v _ _ h2 hA R1 (V.ext x1) r1 _ _ λs2 bT x2 R2 V2=>k .next s2 bT ((V.toY x1).trans x2) R2 V2 rfl
theorem qi1 {F:aU}{W:Nat}{t u:T}{x:E}{te ue e:Expr}{pos:Pos}(S:bL c n C e (ev F x))(G:jB c n C te (cA F t))(G':jB c n C ue (cA F u))(he:∀env,(assignEach [te,ue] env).map (·.2)=[assign te env,assign ue env])(hw:∀env:Env,swappedStores [te,ue] e env=pure none):iK c n C (.Assign [te,ue] e pos) (ex F W (.assign2 t u x)):=by
 intro A Z lk s ads ρ σ env fl ρ' σ' hf hA R V Q E k;refine aZ hf λd1 σ1 h1 hf=>?_;refine aZ hf λoM σ2 h2 hf=>?_;refine aZ hf λuL σ3 h3 hf=>?_;cases hf;refine wpAny_Assign_two (S A Z lk s ads ρ σ env d1 σ1 h1 hA R V _ _ λv s1 aN x1 R1 r1=>?_) (he env) (hw env);refine G A Z lk s1 aN ρ σ1 env d1 v oM σ2 h2 hA R1 (V.ext x1) r1 _ _ λs2 bT x2 R2 V2=>?_;refine G' A Z lk s2 bT oM σ2 env d1 v _ _ h3 hA R2 V2 (x2.rep (V.ext x1).fr r1) _ _ λs3 bW x3 R3 V3=>k .next s3 bW (((V.toY x1).trans x2).trans x3) R3 V3 rfl
theorem qi4 {F:aU}{W:Nat}{x y:E}{a:Nat}{op:Operator}{o e:Expr}{name:Str}{tpos pos:Pos}(B0:Base c)(CO:mF c)(So:bL c n C o (ev F x))(Se:bL c n C e (ev F y))(hn:name=c.X.an a)(hop:∀(A:Around) Z lk s ads σ i j iv jv r,c.R Z lk s.heap ads σ->binOp op (.int i) (.int j)=some r->c.P Z ads σ s.heap (.int i) iv->c.P Z ads σ s.heap (.int j) jv->Yields c A (inplaceOp op iv jv) Z lk s ads σ r σ) :
  iK c n C (.AugAssign (.Attribute o name tpos) op e pos) (ex F W (.aug x a op y)):=by
 subst hn;intro A Z lk s ads ρ σ env fl ρ' σ' hf hA R V Q E k;refine aZ hf λd1 σ1 h1 hf=>?_;refine aJ hf λd2 h2 hf=>?_;refine aZ hf λd3 σ3 h3 hf=>?_;refine aJ hf λi hi hf=>aJ hf λj hj hf=>?_;rw[show d2=_ from uX hi]at h2;rw[show d3=_ from uX hj]at h3;refine aJ hf λr h4 hf=>?_;refine aJ hf λwZ h5 hf=>?_;cases hf;refine wpAny_AugAssign_AttributeAny (So A Z lk s ads _ σ env d1 σ1 h1 hA R V _ _ λov s1 aN x1 R1 r1=>?_);refine XC B0 CO R1 r1 h2 _ _ λold s2 bT x2 R2 r2=>?_;refine Se A Z lk s2 bT _ σ1 env _ σ3 h3 hA R2 ((V.ext x1).ext x2) _ _ λv s3 bW x3 R3 r3=>?_;refine hop A Z lk s3 bW σ3 _ _ old v r R3 h4 (x3.rep r2) r3 _ _ λnew s4 jD x4 R4 r4=>?_;refine qbx B0 CO R4 (x4.rep (x3.rep (x2.rep r1))) r4 h5 λs5 x5 R5=>?_;have x:Ext Z ads σ s jD _ s5:=(((x1.trans x2).trans x3).trans x4).trans x5;exact k .next s5 jD (V.toY x) R5 (V.ext x) rfl
end
theorem bF.two {α β:Type}{σ:Store}{st:α->Store}{l:List β}{f:β->β->Option α}(x:∀d e,bF σ st (f d e)):bF σ st (Internal.two l f):=by
 rcases l with _|⟨a,_|⟨b,_|⟨_,_⟩⟩⟩ <;> first|exact x _ _|exact bF.none
theorem bF.three {α β:Type}{σ:Store}{st:α->Store}{l:List β}{f:β->β->β->Option α}(x:∀d e g,bF σ st (f d e g)):bF σ st (Internal.three l f):=by
 rcases l with _|⟨a,_|⟨b,_|⟨d,_|⟨_,_⟩⟩⟩⟩ <;> first|exact x _ _ _|exact bF.none
theorem mY {X:aU}(hF:fB X.F):∀(t:T) (d:D) (ρ:Loc) (σ:Store),bF σ s2 (cA X t d ρ σ)
 | .name i=>λd ρ σ=>.some (.refl _)
 | .sub o i=>λd ρ σ=>(cD hF o ρ σ).bind λp=>(cD hF i ρ p.2).bind λq=>bF.bind (st:=id) qf6 λ_=>.some (.refl _)
 | .attr o a=>λd ρ σ=>(cD hF o ρ σ).bind λp=>bF.bind (st:=id) qaq λ_=>.some (.refl _)
 | .tup [t,u]=>λd ρ σ=>.gd λl=>.two λa b=>(mY hF t a ρ σ).bind λp=>mY hF u b p.1 p.2
 | .tup []=>λd ρ σ=>.none
 | .tup [_]=>λd ρ σ=>.none
 | .tup [t,u,v]=>λd ρ σ=>.gd λl=>.three λa b e=>(mY hF t a ρ σ).bind λp=>(mY hF u b p.1 p.2).bind λq=>mY hF v e q.1 q.2
 | .tup (_::_::_::_::_)=>λd ρ σ=>.none
theorem qal {f:Loc->Store->Option (Fl×Loc×Store)}(hf:∀ρ σ,bF σ s3 (f ρ σ))(r:Fl×Loc×Store):bF r.2.2 s3 (GZ f r):=by
 obtain⟨fl,ρ,σ⟩:=r;cases fl
 case next=>exact hf ρ σ
 case cont=>exact hf ρ σ
 case brk=>exact .some (.refl _)
 case ret=>exact .some (.refl _)
theorem KN {body:Loc->Store->Option (Fl×Loc×Store)}{asg:D->Loc->Store->Option (Loc×Store)}(hb:∀ρ σ,bF σ s3 (body ρ σ))(ha:∀d ρ σ,bF σ s2 (asg d ρ σ)):∀(l:List D) (ρ:Loc) (σ:Store),bF σ s3 (forL body asg l ρ σ)
 | []=>λ_ _=>.some (.refl _)
 | d::ds=>λρ σ=>(ha d ρ σ).bind λp=>(hb p.1 p.2).bind λq=>qal (KN hb ha ds) q
theorem qas {test:Loc->Store->Option (Bool×Store)}{body orelse:Loc->Store->Option (Fl×Loc×Store)}(ht:∀ρ σ,bF σ s2 (test ρ σ))(hb:∀ρ σ,bF σ s3 (body ρ σ))(ho:∀ρ σ,bF σ s3 (orelse ρ σ)):∀(n:Nat) (ρ:Loc) (σ:Store),bF σ s3 (oH test body orelse n ρ σ)
 | 0=>λ_ _=>.none
 | n+1=>λρ σ=>(ht ρ σ).bind λp=>.cond ((hb ρ p.2).bind λq=>qal (qas ht hb ho n) q) (ho ρ p.2)
theorem qar {X:aU}(hF:fB X.F)(c:E)(ρ:Loc)(σ:Store):bF σ s2 (test X c ρ σ):=(cD hF c ρ σ).bind λp=>.gd λ_=>.some (.refl _)
theorem qf7 {o:O}{p:List D×O}(e:KR o=some p):o.locked=false:=by cases o <;> first|rfl|exact bO e
theorem qf4 {f:List D->Loc->Store->Option (Fl×Loc×Store)}(hf:∀l ρ σ,bF σ s3 (f l ρ σ))(x:D)(ρ:Loc)(σ:Store):bF σ s3 (WY f x ρ σ):=by
 cases x
 case list=>exact hf _ _ _
 case tup=>exact hf _ _ _
 case rng=>exact hf _ _ _
 case ref k =>
  intro r e;refine aZ e λl σ1 h1 e=>iQ e λfl oM σ2 h2 e=>aJ e λσ3 h3 e=>?_;rw[<-Option.some.inj e];refine aZ h1 λl' o' ho h1=>aJ ho λo ho hl=>?_;refine Lk.lockD (o':=o') ho (qf7 hl) (eG h1 λ_ q=>?_) h3;rw[show σ.set k o'=σ1 from q];exact hf l ρ σ1 _ h2
 all_goals exact .none
theorem qf5 {σ:Store}{x:D}:bF σ s3 (BW σ x):=.gd λk=>.gd λj=>.gd' λp hp=>.gd λxs=>by
 have key:∀o,Lk σ (σ.set j o):=λo=>aJ hp λox ho hl=>.set ho (NK hl▸rfl);split
 ·exact .some (key _)
 ·exact .some (key _)
mutual
theorem qf3 {X:aU}(hF:fB X.F)(W:Nat):∀(x:S) (ρ:Loc) (σ:Store),bF σ s3 (ex X W x ρ σ)
 | .expr x=>λρ σ=>(cD hF x ρ σ).bind λp=>.some (.refl _)
 | .assign t x=>λρ σ=>(cD hF x ρ σ).bind λp=>(mY hF t _ ρ p.2).bind λq=>.some (.refl _)
 | .assign2 t u x=>λρ σ=>(cD hF x ρ σ).bind λp=>(mY hF t _ ρ p.2).bind λq=>(mY hF u _ q.1 q.2).bind λr=>.some (.refl _)
 | .aug o a op x=>λρ σ=>(cD hF o ρ σ).bind λp=>.gd λ_=>(cD hF x ρ p.2).bind λq=>.gd λ_=>.gd λ_=>.gd λ_=>bF.bind (st:=id) qaq λ_=>.some (.refl _)
 | .ret x=>λρ σ=>(cD hF x ρ σ).bind λp=>.some (.refl _)
 | .ife c a b=>λρ σ=>(qar hF c ρ σ).bind λp=>.cond (lW hF W a ρ p.2) (lW hF W b ρ p.2)
 | .ifNone i x a=>λρ σ=>(cD hF x ρ σ).bind λp=>.gd λ_=>.cond (lW hF W a _ p.2) (.some (.refl _))
 | .whil c b o=>λρ σ=>qas (qar hF c) (lW hF W b) (lW hF W o) W ρ σ
 | .fore t it b=>λρ σ=>(cD hF it ρ σ).bind λp=>qf4 (KN (lW hF W b) (mY hF t)) p.1 ρ p.2
 | .brk=>λρ σ=>.some (.refl _)
 | .cont=>λρ σ=>.some (.refl _)
 | .pass=>λρ σ=>.some (.refl _)
 | .del o i=>λρ σ=>(cD hF o ρ σ).bind λp=>(cD hF i ρ p.2).bind λq=>.gd λ_=>.gd λ_=>.gd' λes hl=>.ite (.some (aJ hl λo ho hl=>.set ho (CK hl▸rfl))) .none
 | .tryPlain b=>λρ σ=>lW hF W b ρ σ
 | .tryNext i f h=>λρ σ=>(cD hF f ρ σ).bind λp=>bF.bind (st:=s3) qf5 λq=>by
  obtain⟨j,o,σ1⟩:=q;cases o
  case none=>exact lW hF W h ρ σ1
  case some=>exact .some (.refl _)
 | .bad=>λρ σ=>.none
 | .freeze i=>λρ σ=>.gd λ_=>.gd λ_=>.gd' λes hl=>.some (aJ hl λo ho hl=>.set ho (uE hl▸rfl))
theorem lW {X:aU}(hF:fB X.F)(W:Nat):∀(xs:List S) (ρ:Loc) (σ:Store),bF σ s3 (exs X W xs ρ σ)
 | []=>λρ σ=>.some (.refl _)
 | x::xs=>λρ σ=>(qf3 hF W x ρ σ).bind λq=>by
  obtain⟨fl,gC,σ1⟩:=q;cases fl
  case next=>exact lW hF W xs gC σ1
  all_goals exact .some (.refl _)
end
theorem qan (P:gY):∀n,fB (bD P n)
 | 0=>λf args σ d σ' e=>bO e
 | n+1=>λf args σ d σ' e=>aJ e λfn _ e=>aJ e λρ _ e=>iQ e λfl gC σ1 h e=>by
  have q:=lW (X:=⟨P.globs,bD P n⟩) (qan P n) P.W fn.body ρ σ _ h;cases fl
  case next=>exact eG e λ_ z=>z▸q
  case ret=>exact eG e λ_ z=>z▸q
  all_goals exact bO e
section
variable {c:bJ}{A:Around}{Z:List Addr}{lk:Nat->Nat}{s:Shared}{ads:aY}{σ σ':Store}{n:Nat}{C cW:SC}{env:Env}{ρ:Loc}{W:Addr->Prop}{h:Heap}
theorem dB.extF {aG:aY}{s':Shared}{I:Addr}{ds:List D}(x:dB c Z lk ads σ s.heap I ds)(V:bK c C env ρ Z ads σ s.heap)(hI:¬WW Z ads σ I)(e:b8 (dY env) ads σ s aG σ' s')(hl:Lk σ σ'):dB c Z lk aG σ' s'.heap I ds:=by
 refine aF (x.obj) λo ho hK=>?_;refine x.mono e.sub hl (λo' q=>SO.ex (e.kept I o' (λz=>hI (.inr z)) (λy=>(V.frFz y o ho).2 hK) q) (lF.nd (by rw[ho]at q;cases q;exact hK))) (λa o hw hz q=>SO.ex (e.kept a o (λz=>hw (.inr z)) (λy=>hw (V.fr a o y q hz)) q) hz.nd) (λa o q hw=>?_);rcases hw with hw|hw
 ·exact .inl hw
 ·rcases e.own a hw with z|z
  ·exact .inr z
  ·rw[q]at z;cases z
theorem qcu {aG:aY}{s':Shared}{I:Addr}{ds:List D}{Y:Addr->Prop}(x:dB c Z lk ads σ s.heap I ds)(hI:¬WW Z ads σ I)(e:b8 Y ads σ s aG σ' s'):¬WW Z aG σ' I:=by
 refine aF (x.obj) λo ho hK=>?_;rintro(w|w)
 ·exact hI (.inl w)
 ·rcases e.own I w with z|z
  ·exact hI (.inr z)
  ·rw[ho]at z;cases z
theorem bK.stepI {I:Addr}{o:Obj}{h h':Heap}(V:bK c C env ρ Z ads σ h)(ho:h.get? I=some o)(hK:lF o)(hk:∀b o,b≠I->h.get? b=some o->h'.get? b=some o):bK c C env ρ Z ads σ h':=by
 have hz:∀a o,¬WW Z ads σ a->Fz o->h.get? a=some o->h'.get? a=some o:=λa o' _ hf e=>hk a o' (λq=>by subst q;rw[ho]at e;cases e;exact hK.notFz hf) e;refine V.mono (Sub.refl _) hz (λ_ _ _ w=>w) (λa o' hf e=>hk a o' (λq=>?_) e) (λa h _=>h) (λa _ o' e hnf=>⟨o',hk a o' (λq=>by subst q;rw[ho]at e;cases e;obtain⟨_,vs,z⟩:=hK;refine fD (hnf) λes ep y=>?_;rw[z]at y;cases y) e,hnf⟩);subst q;rcases hf with hf|⟨y,hf⟩
 ·rw[ho]at e;cases e;exact(V.frFz hf _ ho).2 hK
 ·obtain⟨_,_,ov,o2,h2,hd⟩:=V.cown y a hf;rw[ho]at h2;cases h2;obtain⟨_,vs,q⟩:=hK;rw[hd]at q;cases q
theorem qfR {target:Expr}{I:Addr}{v:Value}{o:Obj}{M:Model}{Q:Unit->Shared->Prop}{E:Value->Shared->Prop}(ho:s.heap.get? I=some o)(hK:lF o)(k:Q () s):wpAny M A (letOwnedTupleGo target (.ref I) v) Q E s:=by
 have key:∀a,wpAny M A (do
   let o <-load I
   match o.cls,o.data with
   | .type n,.fields vs =>
    if ["enumerate", "zip", "dict_itemiterator", "dict_reverseitemiterator", "odict_iterator", "itertools.zip_longest", "itertools.pairwise"].contains n&&vs[0]?==some (rawInt a) then
     rule "for.unpacks-the-owned-tuple"
     updateField I 0 .none
   | _,_=>pure ():Sem Unit) Q E s:=by
  intro a;refine wpAny_bind (wpAny_load ho ?_);obtain⟨hc,vs,hd⟩:=hK;rw[hd];rcases hc with hc|hc|hc|hc|hc <;> (rw[hc];exact wpAny_pure k)
 cases target <;> first|exact wpAny_pure k|(cases v <;> first|exact key _|exact wpAny_pure k)
theorem J4 {F:aU}(hF:fB F.F){W:Nat}{t:T}{te:Expr}{xs:List S}{as:List Stmt}(G:jB c n C te (cA F t))(Sa:dJ c n C as (exs F W xs)){I:Addr}{l:List D}{fl:Fl}{ρ':Loc}{R₀:Result->Shared->Prop}(hA:dI A n C.fr)(hfo:forL (exs F W xs) (cA F t) l ρ σ=some (fl,ρ',σ'))(R:c.R Z lk s.heap ads σ)(V:bK c C env ρ Z ads σ s.heap)(hit:dB c Z lk ads σ s.heap I l)(jK:¬WW Z ads σ I)(rK:c.h₀.get? I=none)(k:∀f s' aG,oN (λb=>dY env b\/b=I) ads σ s aG σ' s'->c.R Z lk s'.heap aG σ'->bK c C env ρ' Z aG σ' s'.heap->uQ c Z aG σ' s'.heap fl f->R₀ (.ok f) s') :
  codeAny (model c.prog c.w) A (.forLoop te (.ref I) as [] env) R₀ s:=by
 let Inv:Nat->Shared->Prop:=λm s₁=>∃l₁ cV nF σ₁,l₁.length=m/\forL (exs F W xs) (cA F t) l₁ nF σ₁=some (fl,ρ',σ')/\c.R Z lk s₁.heap cV σ₁/\bK c C env nF Z cV σ₁ s₁.heap/\dB c Z lk cV σ₁ s₁.heap I l₁/\¬WW Z cV σ₁ I/\b8 (λb=>dY env b\/b=I) ads σ s cV σ₁ s₁;refine codeAny_forLoop_any Inv (λm s₁ hI=>?_) l.length ⟨l,ads,ρ,σ,rfl,hfo,R,V,hit,jK,b8.refl⟩;refine qdF (hI) λl₁ cV nF σ₁ hm hw R₁ qY it₁ vV X₁=>?_;refine aF (it₁.obj) λoI hoI vW=>?_;refine hide λH kk=>?_;cases l₁ with
 | nil =>
  cases hw;refine kk ?_;refine next_end hA.handled R₁ it₁ vV rK λh' tk hk R'=>?_;have V':=qY.stepI hoI vW hk;refine wpAny_execs_nil (k .next _ cV ⟨X₁.pre,λb o hn hy e=>SO.thru (X₁.kept b o hn hy e) λo'=>hk b o' (λq=>hy (.inr q)),X₁.own,λb hy e=>(X₁.has b e).kept λo=>hk b o (λq=>hy (.inr q)),fD (X₁.rest) λ_ _ e=>⟨h',tk,by rw[e]⟩⟩ R' V' rfl)
 | cons d l₂ =>
  refine kk ?_;refine next_item R₁ it₁ vV rK λv h₂ tk hk R₂ rv it₂=>?_;have RJ:=qY.stepI hoI vW hk;refine aF (it₂.obj) λoI2 YT qeM=>?_;have JH:∀b,dY env b\/b=I->¬bH cV σ₁ b:=λb q=>q.elim (λy=>qY.frOwn y) λz=>z▸λy=>vV (.inr y);have x2:b8 (λb=>dY env b\/b=I) cV σ₁ s₁ cV σ₁ {s₁ with heap:=h₂,toks:=tk}:=b8.one hk (.inr rfl) ⟨oI2,YT⟩;dsimp only;refine qfR (s:={s₁ with heap:=h₂,toks:=tk}) YT qeM ?_;refine aZ hw λuL σ3 ha hw=>G A Z lk _ cV nF σ₁ env d v uL σ3 ha hA R₂ RJ rv _ _ λs3 bW x3 R3 V3=>?_;have p8:=it₂.extF RJ vV x3 (mY hF t _ _ _ _ ha);have vU:=qcu it₂ vV x3;have X3:=(X₁.trans x2).trans (x3.mono (λ_=>.inl) JH);refine iQ hw λfl4 ρ4 eY hb hw=>Sa A Z lk s3 bW uL σ3 env _ _ _ hb hA R3 V3 _ _ λf s4 jD x4 R4 V4 hfl=>?_;have qC:=p8.extF V3 vU x4 (lW hF W xs _ _ _ hb);have tO:=qcu p8 vU x4;have X4:=X3.trans (x4.mono (λ_=>.inl) λb q=>q.elim (λy=>V3.frOwn y) λz=>z▸λy=>vU (.inr y));cases fl4 with
  | next=>cases hfl;exact⟨l₂.length,hm▸lt_succ_self _,l₂,jD,ρ4,eY,rfl,hw,R4,V4,qC,tO,X4⟩
  | cont=>cases hfl;exact⟨l₂.length,hm▸lt_succ_self _,l₂,jD,ρ4,eY,rfl,hw,R4,V4,qC,tO,X4⟩
  | brk=>cases hfl;cases hw;exact k .next s4 jD ⟨X4.pre,X4.kept,X4.own,λb _ e=>X4.has b e,X4.rest⟩ R4 V4 rfl
  | ret d=>cases hw;exact aF hfl λv hv r=>hv▸k (.ret v) s4 jD ⟨X4.pre,X4.kept,X4.own,λb _ e=>X4.has b e,X4.rest⟩ R4 V4 ⟨v,rfl,r⟩
end
section
variable {c:bJ}{A:Around}{Z:List Addr}{lk:Nat->Nat}{s:Shared}{ads:aY}{σ σ':Store}{n:Nat}{C cW:SC}{env:Env}{ρ:Loc}{W:Addr->Prop}{h:Heap}
theorem oN.toY {I:Addr}{cV aG:aY}{σ₁:Store}{s₁ s':Shared}{ρ':Loc}(x:Ext Z ads σ s cV σ₁ s₁)(y:oN (λb=>dY env b\/b=I) cV σ₁ s₁ aG σ' s')(hI:s.heap.get? I=none)(V':bK c C env ρ' Z aG σ' s'.heap):b8 (dY env) ads σ s aG σ' s':=by
 refine⟨?_,λb o hn hy e=>?_,λb e=>?_,λb e=>?_,?_⟩
 ·obtain⟨r,rfl⟩:=x.pre;obtain⟨q,rfl⟩:=y.pre;exact⟨r++q,by simp⟩
 ·refine SO.then (x.kept b o hn e) λo' e'=>y.kept b o' (x.notOwned hn ⟨o,e⟩) (λq=>?_) e'
  rcases q with q|q
  ·exact hy q
  ·subst q;rw[hI]at e;cases e
 ·by_cases hb:dY env b
  ·exact V'.frHas hb
  ·refine y.has b (λq=>?_) (x.has b e);rcases q with q|q
   ·exact hb q
   ·subst q;obtain⟨o,e⟩:=e;rw[hI]at e;cases e
 ·rcases y.own b e with e|e
  ·exact x.own b e
  ·by_cases hb:bH ads σ b
   ·exact .inl hb
   ·refine .inr ?_;cases hs:s.heap.get? b with
    | none=>rfl
    | some o=>refine aF (x.kept b o hb hs) λo' q _=>?_;rw[q]at e;cases e
 ·obtain⟨h,tk,rfl⟩:=x.rest;obtain⟨h',tk',rfl⟩:=y.rest;exact⟨h',tk',rfl⟩
theorem uQ.swap {fl:Fl}{f:Flow}{σ2:Store}(ho:∀b,bH ads σ2 b↔bH ads σ b)(x:uQ c Z ads σ h fl f):uQ c Z ads σ2 h fl f:=by
 cases fl with
 | ret d=>obtain⟨v,e,r⟩:=x;exact⟨v,e,Rep.mono (Sub.refl _) (λ_ _ _ _ e=>e) (λa _ _ w=>w.imp id (ho a).mp) _ _ r⟩
 | _=>exact x
theorem bK.swap {σ2:Store}(ho:∀b,bH ads σ2 b↔bH ads σ b)(V:bK c C env ρ Z ads σ h):bK c C env ρ Z ads σ2 h :=
 V.mono (Sub.refl _) (λ_ _ _ _ e=>e) (λa _ _ w=>w.imp id (ho a).mp) (λ_ _ _ e=>e) (λa h _ q=>h ((ho a).mp q)) (λ_ _=>gW.same λ_ e=>e)
theorem qi9 {F:aU}(B0:Base c)(hF:fB F.F){W:Nat}{t:T}{te:Expr}{x:E}{e:Expr}{xs:List S}{as:List Stmt}{pos:Pos}(S:bL c n C e (ev F x))(G:jB c n C te (cA F t))(Sa:dJ c n C as (exs F W xs))(hfs:∀env v,foldedSetIterable e env v=pure v) :
  iK c n C (.For te e as [] pos) (ex F W (.fore t x xs)):=by
 intro A Z lk s ads ρ σ env fl ρ' σ' hf hA R V Q E k;refine aZ hf λd1 σ1 h1 hf=>?_;refine wpAny_For (S A Z lk s ads ρ σ env d1 σ1 h1 hA R V _ _ λv s1 aN x1 R1 r1=>?_) (λv=>hfs env v);refine hide λH kk=>?_;have tree:∀l,treeOf d1=some l->forL (exs F W xs) (cA F t) l ρ σ1=some (fl,ρ',σ')->H:=by
  intro l hl hw;refine kk ?_;refine ZW R1 r1 hl λh' hk R' it=>?_;have x2:Ext Z ads σ s aN σ1 {s1 with heap:=h'}:=x1.trans (Ext.more (tk:=s1.toks) hk);refine J4 hF G Sa (s:={s1 with heap:=h'}) hA hw R' (V.ext x2) it (R1.fresh_ww (bU _)) (R1.fresh_base (bU _)) λf s3 bW x3 R3 V3 hfl=>?_;exact k f s3 bW (x3.toY x2 (tK x1) V3) R3 V3 hfl
 cases d1
 case list=>exact tree _ rfl hf
 case tup=>exact tree _ rfl hf
 case rng=>exact tree _ rfl hf
 case ref k₀ =>
  refine aZ hf λl σ2 h2 hf=>iQ hf λf2 oM σ3 h3 hf=>aJ hf λeY h4 hf=>aZ h2 λl' o' vY h2=>aJ vY λox ho1 hl=>eG h2 λq1 q2=>aF r1 λp hp hv=>?_;cases hf;subst q1;subst q2;subst hv;cases ox
  case list =>
   cases hl;have ho:=ho1;clear vY;refine cL (R1.objs _ _ _ hp ho) λvs hpl hr hlim hpp=>?_;have hown:=oA (ads:=aN) (o':=.llist l') ho rfl rfl;have R2:c.R Z lk s1.heap aN (σ1.set k₀ (.llist l')):=Rel.view R1 ho rfl rfl λp x=>x;let oi:Obj:={cls:=.type "list_iterator",data:=.fields #[.ref p.1,.int 0 0]};have hk:∀b o,s1.heap.get? b=some o->(s1.heap.push oi).get? b=some o:=λb o e=>Heap.get?_push_of_some _ e;refine kk ?_;refine wpAny_pyIter_list (PlainList.isList hpl) ?_;have x2:Ext Z ads σ s aN σ1 {s1 with heap:=s1.heap.push oi}:=x1.trans (Ext.more (tk:=s1.toks) hk);have V2:bK c C env ρ Z aN (σ1.set k₀ (.llist l')) (s1.heap.push oi):=(V.ext x2).swap hown;have x2':Ext Z ads σ s aN (σ1.set k₀ (.llist l')) {s1 with heap:=s1.heap.push oi}:=⟨x2.pre,x2.kept,λb q=>x2.own b ((hown b).mp q),x2.has,x2.rest⟩;have lR:¬WW Z aN (σ1.set k₀ (.llist l')) s1.heap.objs.size:=λw=>R1.fresh_ww (bU _) (w.imp id (hown _).mp);refine J4 hF G Sa (s:={s1 with heap:=s1.heap.push oi}) hA h3 (R2.grow hk) V2 (.llist (i:=0) hp (getElem?_set_self (List.getElem?_eq_some_iff.mp ho).1) ⟨_,Heap.get?_push_size _ rfl,rfl,rfl⟩) lR (R1.fresh_base (bU _)) λf s3 bW x3 R3 V3 hfl=>?_;refine bI (R3.unlock h4) λR4 rO=>?_;have y:=x3.toY x2' (tK x1) V3;exact k f s3 bW ⟨y.pre,y.kept,y.has,λb q=>y.own b ((rO b).mp q),y.rest⟩ R4 (V3.swap rO) (hfl.swap rO)
  case dict es =>
   cases hl;have ho:=ho1;clear vY;refine cY (Rel.lockDict R1 hp ho) λep kvs R2 hat hlen=>?_;have hown:=oA (ads:=aN) (o':=.ldict es) ho rfl rfl;let oi:Obj:={cls:=.type "dict_keyiterator",data:=.fields #[.ref p.1,.int 0 0,.int kvs.length 0,.int ep 0]};have hk:∀b o,s1.heap.get? b=some o->(s1.heap.push oi).get? b=some o:=λb o e=>Heap.get?_push_of_some _ e;refine kk ?_;refine wpAny_pyIter_dict (Rel.dict_ne B0 R1 hp) hat ?_;have x2:Ext Z ads σ s aN σ1 {s1 with heap:=s1.heap.push oi}:=x1.trans (Ext.more (tk:=s1.toks) hk);have V2:bK c C env ρ Z aN (σ1.set k₀ (.ldict es)) (s1.heap.push oi):=(V.ext x2).swap hown;have x2':Ext Z ads σ s aN (σ1.set k₀ (.ldict es)) {s1 with heap:=s1.heap.push oi}:=⟨x2.pre,x2.kept,λb q=>x2.own b ((hown b).mp q),x2.has,x2.rest⟩;have lR:¬WW Z aN (σ1.set k₀ (.ldict es)) s1.heap.objs.size:=λw=>R1.fresh_ww (bU _) (w.imp id (hown _).mp);have hit:dB c Z (λj=>if j=k₀ then ep else lk j) aN (σ1.set k₀ (.ldict es)) (s1.heap.push oi) s1.heap.objs.size (es.map λe=>.int e.1):=by
    refine .keys (i:=0) hp (getElem?_set_self (List.getElem?_eq_some_iff.mp ho).1) ⟨_,Heap.get?_push_size _ rfl,rfl,?_⟩;show oi.data=_;simp only[if_true,oi,hlen];rfl
   refine J4 hF G Sa (s:={s1 with heap:=s1.heap.push oi}) hA h3 (R2.grow hk) V2 hit lR (R1.fresh_base (bU _)) λf s3 bW x3 R3 V3 hfl=>?_;refine bI (R3.unlock h4) λR4 rO=>?_;have y:=x3.toY x2' (tK x1) V3;have vX:=KN (lW hF W xs) (mY hF t) _ _ _ _ h3 k₀ _ (getElem?_set_self (List.getElem?_eq_some_iff.mp ho).1) rfl;have qfh:σ'=σ3.set k₀ (.dict es):=by
    unfold unlock at h4;rw[show σ3[k₀]?=_ from vX]at h4;exact(Option.some.inj h4).symm
   have R5:c.R Z lk s3.heap bW σ':=R4.relock λj es2 hj=>by
    have:j≠k₀:=λq=>by
     subst q;rw[qfh,getElem?_set_self (List.getElem?_eq_some_iff.mp vX).1]at hj;cases hj
    simp[this]
   exact k f s3 bW ⟨y.pre,y.kept,y.has,λb q=>y.own b ((rO b).mp q),y.rest⟩ R5 (V3.swap rO) (hfl.swap rO)
  all_goals exact bO hl
 all_goals exact bO hf
end
section
variable {c:bJ}{A:Around}{Z:List Addr}{lk:Nat->Nat}{s:Shared}{ads:aY}{σ σ':Store}{n:Nat}{C cW:SC}{env:Env}{ρ:Loc}{W:Addr->Prop}{h:Heap}
theorem cM.put {X:Txt}{i:Int}{d:D}{v:Value}(r:Rep X ads W h d v){es:List (Int×D)}{kvs:List (Int×Value)}(x:cM X ads W h es kvs):cM X ads W h (dictPut i d es) (stored kvs i v):=by
 have hany:∀{es:List (Int×D)} {kvs:List (Int×Value)},cM X ads W h es kvs->(es.any λe=>e.1==i)=kvs.any λkv=>decide (kv.1=i):=by
  intro es
  induction es with
  | nil=>intro kvs x;cases x;rfl
  | cons e es ih =>
   intro kvs x;obtain⟨j,d'⟩:=e;refine cY (x) λv' q qhs _ h2=>?_;subst qhs;simp only[any_cons,ih h2]
   congr 1
 have hmap:∀{es:List (Int×D)} {kvs:List (Int×Value)},cM X ads W h es kvs->cM X ads W h (es.map λe=>if e.1==i then(i,d) else e) (kvs.map λkv=>if kv.1=i then(kv.1,v) else kv):=by
  intro es
  induction es with
  | nil=>intro kvs x;cases x;rfl
  | cons e es ih =>
   intro kvs x;obtain⟨j,d'⟩:=e;refine cY (x) λv' q qht h1 h2=>?_;subst qht;simp only[map_cons];by_cases hj:j=i
   ·subst hj;simp only[beq_self_eq_true,if_true];exact⟨v,_,rfl,r,ih h2⟩
   ·have hj':(j==i)=false:=by simpa using hj
    simp only[hj',false_eq_true,if_false,hj];exact⟨v',_,rfl,h1,ih h2⟩
 have happ:∀{es:List (Int×D)} {kvs:List (Int×Value)},cM X ads W h es kvs->cM X ads W h (es++[(i,d)]) (kvs++[(i,v)]):=by
  intro es
  induction es with
  | nil=>intro kvs x;cases x;exact⟨v,[],rfl,r,rfl⟩
  | cons e es ih =>
   intro kvs x;obtain⟨j,d'⟩:=e;refine cY (x) λv' q qhu h1 h2=>?_;subst qhu;exact⟨v',_,rfl,h1,ih h2⟩
 unfold dictPut stored;rw[hany x];split
 ·exact hmap x
 ·exact happ x
theorem cM.del {X:Txt}{i:Int}:∀{es:List (Int×D)} {kvs:List (Int×Value)},cM X ads W h es kvs->cM X ads W h (dictDel i es) (without kvs i)
 | [],_,x=>by cases x;rfl
 | (j,d')::es,_,x=>by
  refine cY (x) λv' q qhv h1 h2=>?_;subst qhv;have ih:=cM.del (i:=i) h2;unfold dictDel without at ih ⊢;rw[filter_cons,filter_cons];by_cases hj:j=i
  ·subst hj;simp only[beq_self_eq_true,Bool.not_true,false_eq_true,if_false,ne_eq,not_true,decide_false];exact ih
  ·have hj':(j==i)=false:=by simpa using hj
   simp only[hj',Bool.not_false,if_true,ne_eq,hj,not_false_iff,decide_true];exact⟨v',_,rfl,h1,ih⟩
theorem qdw (i:Int)(d:D)(es:List (Int×D)):(dictPut i d es).length<=es.length+1:=by
 unfold dictPut;split <;> simp
theorem qa7 {k:Nat}{p:Addr×Addr}{es es':List (Int×D)}{kvs':List (Int×Value)}{h':Heap}{tk:Nat}(R:c.R Z lk s.heap ads σ)(hp:ads[k]?=some p)(ho:σ[k]?=some (.dict es))(hs:Heap.SameBut p.1 s.heap h')(hn:h'.DictOf (intKind c.prog c.w) p.1 kvs')(hr:cM c.X ads (WW Z ads σ) s.heap es' kvs')(hl:es'.length<=lim) :
  Ext Z ads σ s ads (σ.set k (.dict es')) {s with heap:=h',toks:=tk}/\c.R Z lk h' ads (σ.set k (.dict es')):=by
 have hown:=Rel.owned_set (o':=.dict es') hp ho rfl;have hpp:p.2=p.1:=(R.objs k p _ hp ho).choose_spec.2.2.2;have hk:∀b x,b≠p.1->s.heap.get? b=some x->h'.get? b=some x:=λb x hb e=>(hs.2 b hb).trans e;have gB:∀b,b=p.1->bH ads σ b:=λb hb=>⟨k,p,_,hp,ho,rfl,.inl hb⟩;have hhas:Heap.Has h' p.1:=vK (hn) λo _ _ e _=>⟨o,e⟩;refine⟨⟨⟨[],by simp⟩,λb o hb e=>SO.of (hk b o (λq=>hb (gB b q)) e),λb e=>.inl (hown b e),λb ⟨o,e⟩=>(Classical.em (b=p.1)).elim (λq=>by subst q;exact hhas) (λq=>⟨o,hk b o q e⟩),⟨_,_,rfl⟩⟩,?_⟩;refine R.put hp ho rfl (λb x h1 _ e=>hk b x h1 e) ⟨hhas,hpp▸hhas⟩ ⟨kvs',hn,?_,hl,hpp⟩;exact cM.mono (Sub.refl _) (λa o hw _ e=>hk a o (λq=>hw (.inr (gB a q))) e) (λa _ _ x=>x.imp id (hown a)) _ _ hr
theorem qiw {prog:Program}{w:World}{A:Around}{E:Value->Shared->Prop}{s:Shared}{l:Addr}{items:Array Value}{n:Nat}{k:Int}{t:Tok}{v:Value}{Q:Unit->Shared->Prop}(ho:s.heap.get? l=some {cls:=.type "list",data:=.seq items n})
  (h0:0<=k) (hfit:k<2^63) (hn:k.toNat<items.size)
  (hQ:∀h' e,h'.get? l=some {cls:=.type "list",data:=.seq (items.setIfInBounds k.toNat v) e}->Heap.SameBut l s.heap h'->Q () {s with heap:=h'}) :
  wpAny (model prog w) A (PySem.setItem (.ref l) (.int k t) v) Q E s:=by
 have hl:s.heap.IsList l items:=⟨_,ho,rfl,n,rfl⟩;unfold PySem.setItem
 try with_reducible refine wpAny_holding ?_
 first|refine wpAny_bind (wpAny_pure ?_)|skip
 refine wpAny_bind (wpAny_sequenceKey hl.typeIs (by decide) ?_);refine wpAny_bind (wpAny_callSpecial?_slot (name:=Str.ofString "__setitem__") hl.typeIs slot_list_setitem
  (wpAny_call_entry slot_list_setitem hl.typeIs entry_list_setitem ?_ (args_list_setitem _ _ _)))
 show wpAny _ _ (Builtin.List.listSubscript? (.int k t) >>= _) _ _ s;refine wpAny_bind (wpAny_listSubscript_int (fitsIndex_of h0 hfit) ?_);clear hfit;obtain⟨j,rfl⟩:=Int.eq_ofNat_of_zero_le h0;have hx':items[j]?=some items[j]:=Array.getElem?_eq_getElem hn;show wpAny _ _ ((seqItemAt l j >>= λr=>pure (r.map (j,·))) >>= _) _ _ s;refine wpAny_bind (wpAny_bind (wpAny_seqItemAt ho rfl (wpAny_pure ?_)));rw[hx'];show wpAny _ _ (setSeqItemAt l j v >>= _) _ _ s;have hfin:∃e,(s.heap.update l (Obj.mapSeq (·.setIfInBounds j v))).get? l=some {cls:=.type "list",data:=.seq (items.setIfInBounds j v) e}:=⟨_,get?_update_seq ho _⟩;refine wpAny_bind (wpAny_setSeqItemAt ho rfl ?_)
 first
  | exact wpAny_bind (wpAny_pure (wpAny_pure ⟨.none,rfl,wpAny_pure (hfin.elim λe he=>hQ _ e he (Heap.SameBut.update ..))⟩))
  | exact wpAny_pure ⟨.none,rfl,wpAny_pure (hfin.elim λe he=>hQ _ e he (Heap.SameBut.update ..))⟩
theorem qix {o i d:D}{ov iv v:Value}(R:c.R Z lk s.heap ads σ)(ro:c.P Z ads σ s.heap o ov)(ri:c.P Z ads σ s.heap i iv)(rv:c.P Z ads σ s.heap d v)(hg:Internal.setItem σ o i d=some σ'){Q:Unit->Shared->Prop}{E:Value->Shared->Prop}(k:∀s',Ext Z ads σ s ads σ' s'->c.R Z lk s'.heap ads σ'->Q () s'):wpAny (model c.prog c.w) A (PySem.setItem ov iv v) Q E s:=by
 refine aJ hg λk₀ hk₀ hg=>jM ri hg λi₀ t ht hg=>aJ hg λox ho hg=>aJ hg λoy hy hg=>?_;subst ht;rw[kI hk₀]at ro;rw[<-Option.some.inj hg]at k;refine hide λH kk=>?_;cases ox
 case dict es =>
  refine d8 hy λhlen hy=>aF ro λp hp hv=>cL (R.objs _ _ _ hp ho) λkvs hd hr hl hpp=>kk ?_;subst hv;rw[<-Option.some.inj hy]at k;have hkk:(intKind c.prog c.w).is i₀ (.int i₀ t)=true:=by simp[intKind,Value.isInt]
  exact wpAny_setItem_pairs hkk hd (λh' hd' hs=>(qa7 (tk:=s.toks+1) R hp ho hs hd' (hr.put rv) (by have:=qdw i₀ d es;exact aA (aC 0x1f0a10f2a1f2a11 rfl this hlen))).elim λx R'=>k _ x R') (by rw[hr.length];unfold lim at hlen;unfold sizeLine;omega)
 case list l =>
  refine d8 hy λhi hy=>aF ro λp hp hv=>cL (R.objs _ _ _ hp ho) λvs hd hr hl hpp=>kk (hd.elim λm hd=>?_);subst hv;rw[<-Option.some.inj hy]at k;have hl2:=hr.length;have hlim:lim=1048576:=rfl;refine qiw hd hi.1 (FW hi.2 hl) (by simp;exact ltN (aC 0x1012f1a1021 rfl (aW hl2) hi.2)) λh' e hd' hs=>?_;exact(qa9 (tk:=s.toks) (vs':=vs.set i₀.toNat v) R hp ho hs (e:=e) (by rw[hd'];simp) (hr.set _ rv) (by simpa using hl)).elim λx R'=>k _ x R'
 all_goals exact bO hy
theorem qiL {F:aU}{x y:E}{o i:Expr}{pos:Pos}(S1:bL c n C o (ev F x))(S2:bL c n C i (ev F y)):jB c n C (.Subscript o i pos) (cA F (.sub x y)):=by
 intro A Z lk s ads ρ σ env d v ρ' σ' hf hA R V rv Q E k;refine aZ hf λd1 σ1 h1 hf=>?_;refine aZ hf λd2 σ2 h2 hf=>?_;refine aJ hf λσ3 h3 hf=>?_;cases hf;rw[assign_Subscript];refine wpAny_bind (wpAny_holding (S1 A Z lk s ads ρ σ env d1 σ1 h1 hA R V _ _ λov s1 aN x1 R1 r1=>wpAny_bind (wpAny_holding ?_)));refine S2 A Z lk s1 aN ρ σ1 env d2 σ2 h2 hA R1 (V.ext x1) _ _ λiv s2 bT x2 R2 r2=>wpAny_bind (wpAny_standAt (wpAny_bind (wpAny_holding ?_)));refine qix R2 (x2.rep r1) r2 (x2.rep (x1.rep rv)) h3 λs3 x3 R3=>wpAny_release ?_;have x:=(x1.trans x2).trans x3;exact k s3 bT (V.toY x) R3 (V.ext x)
theorem qkf {α β:Type}{l:List α}{f:α->α->Option β}{r:β}{H:Prop}(e:two l f=some r)(k:∀a b,l=[a,b]->f a b=some r->H):H:=by
 cases l with
 | nil=>exact bO e
 | cons a l =>
  cases l with
  | nil=>exact bO e
  | cons b l =>
   cases l with
   | nil=>exact k a b rfl e
   | cons=>exact bO e
theorem qiM {F:aU}{t u:T}{te ue:Expr}{x1:Nat}{pos:Pos}(G1:jB c n C te (cA F t))(G2:jB c n C ue (cA F u))(he:∀env,assignEach [te,ue] env=[(false,assign te env),(false,assign ue env)]):jB c n C (.Tuple [te,ue] x1 pos) (cA F (.tup [t,u])):=by
 intro A Z lk s ads ρ σ env d v ρ' σ' hf hA R V rv Q E k;refine aJ hf λl hl hf=>qkf hf λa b hab hf=>aZ hf λgC σ1 h1 hf=>?_;rw[S9 hl,hab]at rv;refine iT rv λad vs m hv hp hw _ hr=>cY hr λva vs' hvs ra hr2=>cY hr2 λvb vs'' JR rb tU=>?_;subst hv;subst hvs;subst JR;cases tU;refine wpAny_assign_Tuple hA.handled ⟨_,hp,rfl,m,rfl⟩ (by rw[he];rfl) (by rw[he];rfl) λh' hx=>?_;rw[he];have hk:∀b o,s.heap.get? b=some o->h'.get? b=some o:=λb o e=>hx b o (λq=>by rw[q,bU]at e;cases e) e;have x0:Ext Z ads σ s ads σ {s with heap:=h'}:=Ext.more (tk:=s.toks) hk;have V0:=V.ext x0;exact wpAny_bind (wpAny_holding (G1 A Z lk {s with heap:=h'} ads ρ σ env a va gC σ1 h1 hA (R.grow hk) V0 (x0.rep ra) _ _ λs2 bT x2 R2 V2 =>
  wpAny_bind (wpAny_holding (G2 A Z lk s2 bT gC σ1 env b vb ρ' σ' hf hA R2 V2 (x2.rep V0.fr (x0.rep rb)) _ _ λs3 bW x3 R3 V3=>wpAny_pure (k s3 bW (((V.toY x0).trans x2).trans x3) R3 V3)))))
theorem qkb {α β:Type}{l:List α}{f:α->α->α->Option β}{r:β}{H:Prop}(e:three l f=some r)(k:∀a b d,l=[a,b,d]->f a b d=some r->H):H:=by
 rcases l with _|⟨a,_|⟨b,_|⟨d,_|⟨_,_⟩⟩⟩⟩ <;> first|exact k _ _ _ rfl e|exact bO e
theorem qiN {F:aU}{t u w:T}{te ue we:Expr}{x1:Nat}{pos:Pos}(G1:jB c n C te (cA F t))(G2:jB c n C ue (cA F u))(G3:jB c n C we (cA F w))(he:∀env,assignEach [te,ue,we] env=[(false,assign te env),(false,assign ue env),(false,assign we env)]):jB c n C (.Tuple [te,ue,we] x1 pos) (cA F (.tup [t,u,w])):=by
 intro A Z lk s ads ρ σ env d v ρ' σ' hf hA R V rv Q E k;refine aJ hf λl hl hf=>qkb hf λa b g hab hf=>aZ hf λgC σ1 h1 hf=>aZ hf λoM σ2 h2 hf=>?_;rw[S9 hl,hab]at rv;refine iT rv λad vs m hv hp hw _ hr=>cY hr λva vs' hvs ra hr2=>cY hr2 λvb vs'' JR rb tU=>cY tU λvc vs3 qfd rc hr4=>?_;subst hv;subst hvs;subst JR;subst qfd;cases hr4;refine wpAny_assign_Tuple hA.handled ⟨_,hp,rfl,m,rfl⟩ (by rw[he];rfl) (by rw[he];rfl) λh' hx=>?_;rw[he];have hk:∀b o,s.heap.get? b=some o->h'.get? b=some o:=λb o e=>hx b o (λq=>by rw[q,bU]at e;cases e) e;have x0:Ext Z ads σ s ads σ {s with heap:=h'}:=Ext.more (tk:=s.toks) hk;have V0:=V.ext x0;exact wpAny_bind (wpAny_holding (G1 A Z lk {s with heap:=h'} ads ρ σ env a va gC σ1 h1 hA (R.grow hk) V0 (x0.rep ra) _ _ λs2 bT x2 R2 V2 =>
  wpAny_bind (wpAny_holding (G2 A Z lk s2 bT gC σ1 env b vb oM σ2 h2 hA R2 V2 (x2.rep V0.fr (x0.rep rb)) _ _ λs3 bW x3 R3 V3 =>
  wpAny_bind (wpAny_holding (G3 A Z lk s3 bW oM σ2 env g vc ρ' σ' hf hA R3 V3 (x3.rep V2.fr (x2.rep V0.fr (x0.rep rc))) _ _ λs4 jD x4 R4 V4=>wpAny_pure (k s4 jD ((((V.toY x0).trans x2).trans x3).trans x4) R4 V4)))))))
theorem qfo (A:Around)(Z lk s ads σ i j iv jv r)(R:c.R Z lk s.heap ads σ)(h:binOp .Add (.int i) (.int j)=some r)(ri:c.P Z ads σ s.heap (.int i) iv)(rj:c.P Z ads σ s.heap (.int j) jv):Yields c A (inplaceOp .Add iv jv) Z lk s ads σ r σ:=by
 intro Q E k;cases h;obtain⟨t,rfl⟩:=ri;obtain⟨u,rfl⟩:=rj;exact PySem.AutoIntOps.iadd_0 (k _ _ ads (Ext.tok _) R ⟨_,rfl⟩)
theorem qfq (A:Around)(Z lk s ads σ i j iv jv r)(R:c.R Z lk s.heap ads σ)(h:binOp .Sub (.int i) (.int j)=some r)(ri:c.P Z ads σ s.heap (.int i) iv)(rj:c.P Z ads σ s.heap (.int j) jv):Yields c A (inplaceOp .Sub iv jv) Z lk s ads σ r σ:=by
 intro Q E k;cases h;obtain⟨t,rfl⟩:=ri;obtain⟨u,rfl⟩:=rj;exact PySem.AutoIntOps.isub_0 (k _ _ ads (Ext.tok _) R ⟨_,rfl⟩)
end
section
variable {c:bJ}{A:Around}{Z:List Addr}{lk:Nat->Nat}{s:Shared}{ads:aY}{σ σ':Store}{n:Nat}{C cW:SC}{env:Env}{ρ:Loc}{W:Addr->Prop}{h:Heap}{scope:Scope}
theorem qjb {F:aU}{W:Nat}{i:Nat}{nm:Str}{x:E}{e:Expr}{xs:List S}{as:List Stmt}{p1 p2 p3 p4 pos:Pos}{kn:Nat}(B0:Base c)(hs:oR C i nm)(S1:bL c n C e (ev F x))(Sa:dJ c n C as (exs F W xs)) :
  iK c n C (.If (.Compare (.NamedExpr (.Name nm p1) e p2) [.Is] [.Constant .none kn p3] p4) as [] pos) (ex F W (.ifNone i x xs)):=by
 intro A Z lk s ads ρ σ env fl ρ' σ' hf hA R V Q E k;refine aZ hf λd1 σ1 h1 hf=>?_;refine aJ hf λt h2 hf=>?_;refine wpAny_If (wpAny_isTrue_Compare1 (wpAny_NamedExpr (S1 A Z lk s ads ρ σ env d1 σ1 h1 hA R V _ _ λv s1 aN x1 R1 r1=>?_)) rfl);have V1:=V.ext x1;refine wpAny_assign_Name (EY R1 V1 hs r1 λs2 x2 R2 V2=>?_);refine wpAny_pure ?_;have r2:c.P Z aN σ1 s2.heap d1 v:=x2.rep V1.fr r1;refine HQ (n:=n) B0 hA R2 r2 (show c.P Z aN σ1 s2.heap .none .none from rfl) h2 _ _ λv3 s3 bW x3 R3 r3=>?_;cases r3;refine wpAny_truthy_bool ?_;have V3:=V2.ext x3;have y3:=((V.toY x1).trans x2).trans (V2.toY x3);cases t with
 | true =>
  rw[if_pos rfl];exact Sa A Z lk s3 bW _ _ env fl ρ' σ' hf hA R3 V3 _ _ λf s4 jD x4 R4 V4 hfl=>k f s4 jD (y3.trans x4) R4 V4 hfl
 | false =>
  rw[if_neg Bool.false_ne_true];cases hf;exact wpAny_execs_nil (k .next s3 bW y3 R3 V3 rfl)
theorem qi2 {F:aU}(hF:fB F.F){W:Nat}{i:Nat}{nm:Str}{np:Pos}{gZ:E}{elt:Expr}{cs:List Comprehension}{cpos pos:Pos}{m:Bool}{t:Nat}{x:Str}{px:Pos}{it:It}{iter:Expr}{ifs:List E}{cC:List Expr}{gs:List G}{C₁ C₂:SC}(hs:oR C i nm)(K:sX C scope cW)(hI:nP c n C iter (kJ F it))(hf:∀env v,foldedSetIterable iter env v=pure v)(hb:lD (ownNames scope) cW C₁ t x)(hnot:∀y,cW.slots.lookup t≠some y)(hC:lG c n C₁ cC (gJ F ifs))(hG:lE c n F (ownNames scope) C₁ gs cs C₂)(hE:bL c n C₂ elt (ev F gZ))(hna:firstAsync (⟨.Name x px,iter,cC,0⟩::cs)=false)(hsw:∀env:Env,env.scope.names=C.names->env.scope.kind=.function->swapsWith (.ListComp elt (⟨.Name x px,iter,cC,0⟩::cs) scope cpos) (some (.Name nm np)) pos.line env=pure true) :
  iK c n C (.Assign [.Name nm np] (.ListComp elt (⟨.Name x px,iter,cC,0⟩::cs) scope cpos) pos) (ex F W (.assign (.name i) (.comp m gZ (.mk [t] false it ifs::gs)))):=by
 intro A Z lk s ads ρ σ env fl ρ' σ' hev hA R V Q E k;refine aZ hev λd σ1 qeW hfin=>aZ hfin λoM σ2 h5 hfin=>?_;clear hev;cases h5;cases hfin;refine aZ qeW λl σ3 h1 hev=>aJ hev λd1 h2 hev=>d8 h2 λhl h2=>?_;cases h2;have he:exec (.Assign [.Name nm np] (.ListComp elt (⟨.Name x px,iter,cC,0⟩::cs) scope cpos) pos) env=(do
   standAt pos
   if <-swapsWith (.ListComp elt (⟨.Name x px,iter,cC,0⟩::cs) scope cpos) (some (.Name nm np)) pos.line env then do
    evalThenUse (.ListComp elt (⟨.Name x px,iter,cC,0⟩::cs) scope cpos) env λv=>assignAll v ((assignEach [.Name nm np] env).map (·.2))
    pure .next
   else do
    let v <-eval (.ListComp elt (⟨.Name x px,iter,cC,0⟩::cs) scope cpos) env
    assignStores env v (<-swappedStores [.Name nm np] (.ListComp elt (⟨.Name x px,iter,cC,0⟩::cs) scope cpos) env) ((assignEach [.Name nm np] env).map (·.2))):=rfl
 rw[he,hsw env V.names V.kind];refine wpAny_bind (wpAny_standAt (wpAny_bind (wpAny_pure ?_)));rw[if_pos rfl];refine wpAny_bind ?_;have he2:evalThenUse (.ListComp elt (⟨.Name x px,iter,cC,0⟩::cs) scope cpos) env (λv=>assignAll v ((assignEach [.Name nm np] env).map (·.2)))=(do
   let _ <-comprehension (.ListComp elt (⟨.Name x px,iter,cC,0⟩::cs) scope cpos) scope env (firstIterPos (⟨.Name x px,iter,cC,0⟩::cs) cpos) (newList []) (firstAsync (⟨.Name x px,iter,cC,0⟩::cs)) (firstIter (⟨.Name x px,iter,cC,0⟩::cs) env) (some λv=>assignAll v ((assignEach [.Name nm np] env).map (·.2)))):=rfl
 rw[he2,hna];refine wpAny_bind ?_;refine qbz (d:=d) (m:=m) hF K hI hf hb hnot hC hG hE hA R V h1 hl λacc s' aG L h'' hacc hL hn hne x1 R1 a1 hb1 hz1 ho JB JC=>?_;refine cL (UJ (s:=s') R1 a1 hz1 hb1 hev hacc x1) λbT x3 R3 r3 hoo=>?_;show wpAny _ A (assign (.Name nm np) env (.ref acc)) _ _ _;refine wpAny_assign_Name (EY R3 (V.ext x3) hs r3 λs4 x4 R4 V4=>?_);obtain⟨mm,hmm⟩:=hn;have V3:=V.ext x3;have Y0:¬dY env L:=λq=>by obtain⟨o,e⟩:=V.frHas q;rw[hL]at e;cases e
 have Y8:¬bH bT σ1 L:=by
  intro q;rcases hoo L q with z|z
  ·exact ho z
  ·exact hne z.symm
 refine vK (hmm) λoL esL epL hoL rL=>?_;refine aF (x4.kept L _ Y8 Y0 hoL) λoL' YW qL=>?_;refine⟨mm,⟨oL',esL,epL,YW,qL.1.trans rL.1,rL.2⟩,λh' hsb=>?_⟩;have hk:∀b o,b≠L->s4.heap.get? b=some o->h'.get? b=some o:=λb o q e=>(hsb.2 b q).trans e;have XR:∀o,s4.heap.get? L=some o->¬Fz o:=BZ (m:=mm) ⟨oL',esL,epL,YW,qL.1.trans rL.1,rL.2⟩;have R5:c.R Z lk h' bT σ1:=R4.quiet (λb=>b=L) (λb o q e=>hk b o q e) (λb q=>by subst q;exact⟨Y8,JB,XR,.inl λz=>JC (mem_cons_of_mem _ z)⟩);have V5:bK c C env (ρ.set i (some d)) Z bT σ1 h':=by
  refine V4.mono (Sub.refl _) (λa o _ hf e=>hk a o (λq=>by subst q;exact XR o e hf) e) (λ_ _ _ w=>w) (λa o hf e=>hk a o (λq=>?_) e) (λ_ h _=>h) (λa ha o e hnf=>⟨o,hk a o (λq=>by subst q;obtain⟨o2,e2⟩:=V.frHas' ha;rw[hL]at e2;cases e2) e,hnf⟩);subst q;rcases hf with hf|⟨y,hf⟩
  ·exact Y0 hf
  ·obtain⟨_,_,ov,o2,h2,hd⟩:=V.cown y a hf;rw[hL]at h2;cases h2
 refine wpAny_pure (wpAny_pure ?_);have y4:=(V.toY x3).trans x4;refine k .next _ bT ⟨y4.pre,λb o hn hy e=>SO.thru (y4.kept b o hn hy e) λo'=>hk b o' (λq=>by subst q;rw[hL]at e;cases e),λb e=>(y4.has b e).kept λo=>hk b o (λq=>by subst q;obtain⟨o,e⟩:=e;rw[hL]at e;cases e),y4.own,fD (y4.rest) λ_ tk e=>⟨h',tk,by rw[e]⟩⟩ R5 V5 rfl
end
end Internal
end
section
open PySem PySem.W PyProof.Rows PySem.SeqAt PySem.MeetsSeq
set_option maxRecDepth 100000
namespace Internal
namespace NX
section
variable {prog:Program}{w:World}{A:Around}{E:Value->Shared->Prop}{s:Shared}
theorem qdd {it l:Addr}{i:Nat}{Q:Unit->Shared->Prop}(hit:s.heap.IsListIter it l i)(h:Q () s):wpAny (model prog w) A (checkBoundCall "list_iterator.__next__" ⟨[.ref it],[]⟩) Q E s:=by
 exact wpAny_of_eq (a:=()) (by kernel_rfl) h
theorem qic {as:Args}:(Code.builtin "list_iterator.__next__" as).quiet=true:=Code.quiet_builtin _ (by decide +kernel)
theorem call_next {mw it l:Addr}{i:Nat}{Q:Value->Shared->Prop}(hm:s.heap.get? mw=some {cls:=.type "method-wrapper",data:=.fields #[.builtin "list_iterator.__next__",.ref it]}) (hit:s.heap.IsListIter it l i)
  (tree:wpAny (model prog w) (A.in1) (Builtin.«list_iterator.__next__» ⟨[.ref it],[]⟩) (λfin s'=>match fin with|.done (.ret v)=>Q v s'|_=>False) E s):wpAny (model prog w) A (call (.ref mw) []) Q E s:=by
 refine wpAny_call (codeAny_of_tree ?_);show wpAny _ A.in1 (callAny (.ref mw) ⟨[],[]⟩) _ _ s;dsimp only[callAny];refine wpAny_bind (wpAny_load hm ?_);dsimp only[show (Value.type "method-wrapper" == Value.type "method" || Value.type "method-wrapper" == Value.type "builtin_function_or_method" || Value.type "method-wrapper" == Value.type "method-wrapper")=true by decide,if_true];refine KFB.if_so (by decide) ?_;refine wpAny_bind (qdd hit ?_);refine wpAny_bind (wpAny_pure (wpAny_pure ⟨qic,codeAny_builtin entry_listiter_next ?_⟩));refine wpAny_mono tree (λfin s' z=>?_) λ_ _ z=>z;rcases fin with (_|_|_|_)|_ <;> first|exact z|exact z.elim
theorem tree_item {it l:Addr}{i:Nat}{items:Array Value}{x:Value}{Q:Fin->Shared->Prop}(hit:s.heap.IsListIter it l i)(hl:s.heap.IsList l items)(hx:items[i]?=some x)(hQ:∀h',h'.IsListIter it l (i+1)->Heap.SameBut it s.heap h'->Q (.done (.ret x)) {s with heap:=h'}):wpAny (model prog w) A (Builtin.«list_iterator.__next__» ⟨[.ref it],[]⟩) Q E s:=by
 (first|refine xZ (id hit) λo ho hc hd=>?_|refine bM (id hit) λo ho hc hd=>?_|refine fM (id hit) λo ho hc hd=>?_|refine qdD (id hit) λo ho hc hd=>?_)
 obtain⟨ol,hol,_,nl,hdl⟩:=hl;show wpAny _ _ (field (.ref it) 0 >>= _) _ _ s;refine wpAny_bind (wpAny_field ho hd (x:=.ref l) rfl ?_);show wpAny _ _ (if (Value.ref l==Value.none)=true then _ else _) _ _ s;rw[if_neg (show ¬((Value.ref l==Value.none)=true) from Bool.false_ne_true)];show wpAny _ _ (field (.ref it) 1 >>= _) _ _ s;refine wpAny_bind (wpAny_field ho hd (x:=.int i 0) rfl ?_);show wpAny _ _ (seqItems? (.ref l) >>= _) _ _ s;refine wpAny_bind (wpAny_seqItems hol hdl ?_);simp only[toNat_natCast,hx];refine wpAny_bind (wpAny_setField ho hd (by simp) (wpAny_pure (hQ _ ?_ (Heap.SameBut.update ..))));exact⟨_,Heap.get?_update_self _ ho (Obj.isFreed_of_fields (Obj.data_mapFields hd _)),(Obj.cls_mapFields ..).trans hc,by
  rw[Obj.data_mapFields hd];simp[rawInt]⟩
theorem tree_end {it l:Addr}{i:Nat}{items:Array Value}{Q:Fin->Shared->Prop}(hh:A.handled=none)(hit:s.heap.IsListIter it l i)(hl:s.heap.IsList l items)(hx:items[i]?=none)(hQ:∀h' e t,s.heap.get? e=none->Heap.ExtBut it s.heap h'->(∃o,h'.get? it=some o)->h'.get? e=some {cls:=.type "StopIteration",data:=.fields #[.ref t,.none,.none,.none,.bool false,.none]}->E (.ref e) {s with heap:=h'}):wpAny (model prog w) A (Builtin.«list_iterator.__next__» ⟨[.ref it],[]⟩) Q E s:=by
 (first|refine xZ (id hit) λo ho hc hd=>?_|refine bM (id hit) λo ho hc hd=>?_|refine fM (id hit) λo ho hc hd=>?_|refine qdD (id hit) λo ho hc hd=>?_)
 obtain⟨ol,hol,_,nl,hdl⟩:=hl;show wpAny _ _ (field (.ref it) 0 >>= _) _ _ s;refine wpAny_bind (wpAny_field ho hd (x:=.ref l) rfl ?_);show wpAny _ _ (if (Value.ref l==Value.none)=true then _ else _) _ _ s;rw[if_neg (show ¬((Value.ref l==Value.none)=true) from Bool.false_ne_true)];show wpAny _ _ (field (.ref it) 1 >>= _) _ _ s;refine wpAny_bind (wpAny_field ho hd (x:=.int i 0) rfl ?_);show wpAny _ _ (seqItems? (.ref l) >>= _) _ _ s;refine wpAny_bind (wpAny_seqItems hol hdl ?_);simp only[toNat_natCast,hx];refine wpAny_bind (wpAny_rule (wpAny_bind (wpAny_setField ho hd (by simp) ?_)));show wpAny _ _ (newExc (.type "StopIteration") [] >>= _) _ _ _;refine wpAny_bind ?_;dsimp only[newExc,newTuple];refine wpAny_bind (wpAny_newObj_type ?_ (by size_fits));refine wpAny_bind (m:=firstArgMember _ _) (wpAny_of_eq (a:=Value.none) (by first|rfl|(dsimp only[firstArgMember];rfl)) ?_);refine wpAny_newObj_type ?_ (by size_fits);dsimp only[raiseNew];refine wpAny_bind (wpAny_handled ?_);rw[hh];refine wpAny_bind (wpAny_pure (wpAny_throw ?_));refine hQ _ _ _ ?_ (((Heap.SameBut.update ..).extBut.push _).push _) ⟨_,Heap.get?_push_of_some _ (Heap.get?_push_of_some _ (Heap.get?_update_self _ ho (Obj.isFreed_of_fields (Obj.data_mapFields hd _))))⟩ (Heap.get?_push_size _ rfl);refine Heap.get?_none_of_le ?_;simp
end
end NX
end Internal
end
section
open PySem PySem.W PyProof.Rows PySem.SeqAt PySem.MeetsSeq
set_option maxRecDepth 100000
namespace Internal
noncomputable def oO (c:bJ)(C:SC)(e:Expr)(f:Loc->Store->Option (D×Store)):Prop :=
 ∀(A:Around) (Z:List Addr) (lk:Nat->Nat) (s:Shared) (ads:aY) (ρ:Loc) (σ:Store) (env:Env) (d:D) (σ':Store),f ρ σ=some (d,σ')->A.units+1000<=9900->c.R Z lk s.heap ads σ->bK c C env ρ Z ads σ s.heap ->
  Yields c A (eval e env) Z lk s ads σ d σ'
section
variable {c:bJ}{A:Around}{Z:List Addr}{lk:Nat->Nat}{s:Shared}{ads:aY}{σ σ':Store}{n:Nat}{C cW:SC}{env:Env}{ρ:Loc}{W:Addr->Prop}{h:Heap}
theorem qiP {F:aU}{i:Nat}{x:Str}{pos:Pos}(hs:C.slots.lookup i=some x)(hk:C.names.lookup x=some .local\/C.names.lookup x=some .cell)(hd:(x==("__debug__":Str))=false) :
  oO c C (.Name x pos) (ev F (.var i)) :=
 λA Z lk s ads ρ σ env d σ' hf _ R V=>aJ hf λd' h1 e=>Yields.cast e λQ E k=>wpAny_Name (HJ V hs hk (zG h1) rfl λv r=>k v s ads Ext.refl R r) hd
theorem qiO {F:aU}{x:E}{o:Expr}{apos pos:Pos}(B0:Base c)(S:oO c C o (ev F x))(ho:∀name env whole,attributeBase o name env whole=whole)(hline:(apos.endLine==pos.line)=true):oO c C (.Call (.Attribute o "pop" apos) [] [] pos) (ev F (.bmeth x .pop [])):=by
 intro A Z lk s ads ρ σ env d σ' hf hA R V Q E k;refine aZ hf λd1 σ1 h1 h2=>xV h2 λhr h2=>aZ h2 λl σ2 h3 h4=>?_;cases h3;exact wpAny_Call_method_late (ho _ _ _) (yW (es:=[]) rfl (by decide)) hline rfl (S A Z lk s ads ρ σ env d1 σ1 h1 hA R V _ _ λov s1 aN x1 R1 r1 =>
  ⟨vC .pop,vB .pop,bm_plain .pop,TQ .pop,TV .pop,(CZ R1 r1 hr).1,(CZ R1 r1 hr).2,Calls.callWith_builtin (uC (es:=[]) rfl) (rH (es:=[]) rfl (wpAny_pure (TX B0 hA R1 r1 (show c.PL Z aN _ s1.heap [] [] from rfl) h4 _ _ λv s3 bW x3 R3 r3=>k v s3 bW (x1.trans x3) R3 r3)))⟩)
theorem qdv {k₀:Nat}{i₀:Int}{es:List (Int×D)}{ov iv:Value}(R:c.R Z lk s.heap ads σ)(ro:c.P Z ads σ s.heap (.ref k₀) ov)(ri:c.P Z ads σ s.heap (.int i₀) iv)(ho:σ[k₀]?=some (.dict es))(hh:fC i₀ es=true){Q:Unit->Shared->Prop}{E:Value->Shared->Prop}(k:∀s',Ext Z ads σ s ads (σ.set k₀ (.dict (dictDel i₀ es))) s'->c.R Z lk s'.heap ads (σ.set k₀ (.dict (dictDel i₀ es)))->Q () s'):wpAny (model c.prog c.w) A (PySem.delItem ov iv) Q E s:=by
 refine hide λH gH=>?_;obtain⟨p,hp,rfl⟩:=ro;obtain⟨t,rfl⟩:=ri;obtain⟨kvs,hd,hr,hl,hpp⟩:=R.objs _ _ _ hp ho;refine gH ?_;have hkk:(intKind c.prog c.w).is i₀ (.int i₀ t)=true:=by simp[intKind,Value.isInt]
 have hsz:kvs.length<=sizeLine:=by rw[hr.length];unfold lim at hl;unfold sizeLine;omega
 have hv:(valueAt kvs i₀).isSome=true:=(has_any hr).trans hh;unfold PySem.delItem
 try with_reducible refine wpAny_holding ?_
 refine wpAny_bind (wpAny_sequenceKey hd.typeIs (by decide) ?_);refine wpAny_bind (wpAny_callSpecial?_slot (name:=Str.ofString "__delitem__") hd.typeIs PySem.F.slot_dict_delitem
  (call_meetsIn PySem.F.slot_dict_delitem hd.typeIs PySem.F.entry_dict_delitem (PySem.F.args_dict_delitem_2 _ _) (meets_dict_delitem_pairs (intKind c.prog c.w) p.1 hkk) ⟨kvs,hd,hsz,hv,λh' hmm hs=>?_⟩))
 refine bI (qa7 (tk:=s.toks+1) R hp ho hs hmm hr.del (by unfold dictDel;have:=length_filter_le (λe:Int×D=>!(e.1==i₀)) es;exact aA (aC 0x1f0a1021211 rfl this hl))) λx R'=>?_;exact wpAny_pure (k _ x R')
theorem qeQ {F:aU}{W:Nat}(B0:Base c){x y z:E}{de pe qe:Expr}{p1 p2 p4 p5:Pos}(Sd:oO c C de (ev F x))(Sp:oO c C pe (ev F y))(Sq:oO c C (.Call qe [] [] p4) (ev F z)){fl:Fl}{ρ':Loc}(hf:exs F W [.del x y,.expr z] ρ σ=some (fl,ρ',σ'))(hA:A.units+1000<=9900)(R:c.R Z lk s.heap ads σ)(V:bK c C env ρ Z ads σ s.heap) :
  GX c C A (execs [.Delete [.Subscript de pe p1] p2,.Expr (.Call qe [] [] p4) p5] env) Z lk s ads σ env fl ρ' σ':=by
 intro Q E k;refine iQ hf λf1 gC σ1 he hf=>aZ he λd1 σ2 h1 he=>aZ he λd2 σ3 h2 he=>aJ he λk₀ hk₀ he=>aJ he λi₀ hi₀ he=>aJ he λes hes he=>aJ hes λox ho hox=>d8 he λhh he=>sm3 he λq1 q2 q3=>?_;subst q1;subst q2;subst q3;rw[show d1=_ from kI hk₀]at h1;rw[show d2=_ from uX hi₀]at h2;rw[CK hox]at ho;refine iQ hf λf2 oM eY he hf=>aZ he λd3 wZ h3 he=>sm3 he λq1 q2 q3=>?_;subst q1;subst q2;subst q3;cases hf;refine wpAny_execs_cons (wpAny_Delete (wpAny_deleteEach_cons (wpAny_delete_Subscript ?_)));refine Sd A Z lk s ads ρ σ env _ σ2 h1 hA R V _ _ λov s1 aN x1 R1 r1=>?_;refine Sp A Z lk s1 aN ρ σ2 env _ σ3 h2 hA R1 (V.ext x1) _ _ λiv s2 bT x2 R2 r2=>?_;refine qdv R2 (x2.rep r1) r2 ho hh λs3 x3 R3=>?_;refine wpAny_deleteEach_nil ?_;have x:=(x1.trans x2).trans x3;have V3:=V.ext x;exact wpAny_execs_cons (wpAny_Expr_any (Sq A Z lk s3 bT ρ _ env d3 _ h3 hA R3 V3 _ _ λv s4 jD x4 R4 r4=>wpAny_execs_nil (k .next s4 jD (V.toY (x.trans x4)) R4 (V3.ext x4) rfl)) (by unfold interactive;rw[V.kind];rfl) rfl)
end
structure uU (fs:List Addr) (e:Addr) (cls:Value) (h h':Heap):Prop where
 kept:∀b o,b≠e->h.get? b=some o->∃o',h'.get? b=some o'/\o'.data=o.data/\(b∉fs->o'=o)
 exc:∃oe vs tb otb tvs,h'.get? e=some oe/\oe.cls=cls/\oe.data=.fields vs/\vs[1]?=some (.ref tb)/\h.get? tb=none/\tb≠e/\h'.get? tb=some otb/\otb.data=.fields tvs/\3<tvs.size
section
variable {M:Model}{A:Around}{E:Value->Shared->Prop}{s:Shared}{base:Heap}{env:Env}{outer:List Env}
theorem uU.flight {fs:List Addr}{e:Addr}{cls:Value}{h:Heap}{Q:Unit->Shared->Prop}(x:uU fs e cls h s.heap)(k:∀h',uU fs e cls h h'->Q () {s with heap:=h'}):wpAny M A (setFlight (.ref e) none) Q E s:=by
 obtain⟨oe,vs,tb,otb,tvs,h1,h2,h3,h4,h5,h6,h7,h8,h9⟩:=x.exc;refine wpAny_setFlight_none h1 h3 h4 h7 h8 h9 (k _ ?_);have hd:=Obj.data_mapFields h8 (·.setIfInBounds 3 Value.none);refine⟨λb o hb ho=>?_,oe,vs,tb,_,_,(Heap.get?_update_other _ _ h6).trans h1,h2,h3,h4,h5,h6,Heap.get?_update_self _ h7 (Obj.isFreed_of_fields hd),hd,by simpa using h9⟩
 (first|refine cQ (x.kept b o hb ho) λo' e' r=>?_|refine aF (x.kept b o hb ho) λo' e' r=>?_|refine fD (x.kept b o hb ho) λo' e' r=>?_)
 exact⟨o',(Heap.get?_update_other _ _ (λq=>by rw[<-q,h5]at ho;cases ho)).trans e',r⟩
theorem qgL {L e:Addr}{oe:Obj}{vs:Array Value}{Q:Unit->Shared->Prop}(hfr:A.frames=some (env::outer))(hl:s.heap.FunFrames base (env::outer))(hf:env.frame=some L)(he:s.heap.get? e=some oe)(hd:oe.data=.fields vs)(h1:vs[1]?=some .none)(k:∀h',uU ((env::outer).filterMap (·.frame)) e oe.cls s.heap h'->Q () {s with heap:=h'}):wpAny M A (noteFrame (.ref e) env) Q E s:=by
 have hsz:1<vs.size:=(Array.getElem?_eq_some_iff.mp h1).1;have hene:e∉(env::outer).filterMap (·.frame):=λhm=>by
  obtain⟨_,o,ho,hnf⟩:=hl.mem hm;rw[he]at ho;injection ho with ho;subst ho;exact hnf vs hd
 unfold noteFrame;rw[hf];refine wpAny_bind (wpAny_field he hd h1 ?_);rw[if_neg (show ¬((Value.none != Value.none)=true) by decide)];refine wpAny_bind (wpAny_frameOf_fun hfr hl hf λh₁ hs₁=>?_);refine wpAny_bind (wpAny_entryPlaceOf λpl hpl=>?_);unfold EntryCells.newEntry newFields;refine wpAny_bind (wpAny_newObj_type ?_ (hpl.sizeOk5 _ _ _ _ _));have he₁:h₁.get? e=some oe:=(hs₁.2.1 e hene).trans he;have he₂:=Heap.get?_push_of_some (h:=h₁) {cls:=.type "traceback",dict:=none,data:=.fields ([Value.none,.ref L,.none,rawInt L,.none]++(if pl.isEmpty then replicate 6 Value.none else pl)).toArray} he₁;refine wpAny_setField he₂ hd hsz (k _ ?_);have hTe:h₁.objs.size≠e:=Nat.ne_of_gt (Heap.lt_size he₁);have hd₃:=Obj.data_mapFields hd (·.setIfInBounds 1 (Value.ref h₁.objs.size));have he₃:=Heap.get?_update_self (Obj.mapFields (·.setIfInBounds 1 (Value.ref h₁.objs.size))) he₂ (Obj.isFreed_of_fields hd₃);have hT₃:=(Heap.get?_update_other (h₁.push {cls:=.type "traceback",dict:=none,data:=.fields ([Value.none,.ref L,.none,rawInt L,.none]++(if pl.isEmpty then replicate 6 Value.none else pl)).toArray})
  (Obj.mapFields (·.setIfInBounds 1 (Value.ref h₁.objs.size))) (Ne.symm hTe)).trans (Heap.get?_push_size h₁ rfl)
 refine⟨λb o hb ho=>?_,_,_,h₁.objs.size,_,_,he₃,Obj.cls_mapFields ..,hd₃,by simp[hsz],?_,hTe,hT₃,rfl,by simp only[size_toArray,length_append,length_cons,length_nil] <;> exact ltN (aK 0x380fffff08aaaaaa1 rfl)⟩
 ·obtain⟨sl,q⟩:=hs₁.2.2 b o ho;refine⟨_,(Heap.get?_update_other _ _ (λz=>hb z.symm)).trans (Heap.get?_push_of_some _ q),rfl,λhn=>?_⟩;have:=hs₁.2.1 b hn;rw[q,ho]at this;exact Option.some.inj this
 ·refine Heap.get?_none_of_le ?_;rw[hs₁.1];exact le_refl _
end
theorem qjW:isSubtype (.type "StopIteration") (.type "BaseException")=pure true:=by rw[isSubtype_type];kernel_rfl
theorem qjY:isSubtype (.type ((Manifest.find? "StopIteration").elim "type" λx=>x.metatype)) (.type "tuple")=pure false:=by rw[isSubtype_type];kernel_rfl
theorem qjX:isSubtype (.type "StopIteration") (.type "StopIteration")=pure true:=by rw[isSubtype_type];kernel_rfl
theorem qc6:bootBuiltins "StopIteration" = some (.type "StopIteration"):=by kernel_rfl
theorem qc8 {M:Model}{A:Around}{E:Value->Shared->Prop}{s:Shared}{pos:Pos}{mw it:Addr}{Q:Value->Shared->Prop}(hm:s.heap.get? mw=some {cls:=.type "method-wrapper",data:=.fields #[.builtin "list_iterator.__next__",.ref it]})
  (h:wpAny M A (call (.ref mw) []) Q E s):wpAny M A (callWith pos (.ref mw) [] [] []) Q E s:=by
 unfold callWith;refine wpAny_bind (wpAny_holding (rH (es:=[]) (env:=default) (pos:=pos) rfl ?_));show wpAny _ _ (spliced []) _ _ _;refine wpAny_pure (wpAny_bind (wpAny_standAt ?_));dsimp only[List.any_nil,Bool.or_false];refine wpAny_bind (m:=keeperOf (.ref mw)) ?_;unfold keeperOf;refine wpAny_bind (wpAny_load hm ?_);dsimp only[show (Value.type "method-wrapper" != Value.type "method")=true by decide,show (Value.type "method-wrapper" == Value.type "builtin_function_or_method" || Value.type "method-wrapper" == Value.type "method-wrapper")=true by decide,if_true];refine wpAny_pure ?_;exact wpAny_bind (wpAny_mono h (λr s₂ hr=>wpAny_bind (wpAny_holding (wpAny_point (wpAny_pure hr)))) λ_ _ x=>x)
section
variable {c:bJ}{A:Around}{Z:List Addr}{lk:Nat->Nat}{s:Shared}{ads:aY}{σ σ':Store}{n:Nat}{C cW:SC}{env:Env}{ρ:Loc}{W:Addr->Prop}{h:Heap}
theorem qaP {e:Addr}{j l m:Nat}{p:Addr×Addr}{h2 h3:Heap}{tk:Nat}(R:c.R Z lk s.heap ads σ)(V:bK c C env ρ Z ads σ s.heap)(hp:ads[j]?=some p)(hj:σ[j]?=some (.iter l m))(hx:Heap.ExtBut p.1 s.heap h2)(hi:Heap.Has h2 p.1)(he:s.heap.get? e=none){oe:Obj}(hoe:h2.get? e=some oe)(hfz:¬Fz oe){cls:Value}(N:uU (C.fr.filterMap (·.frame)) e cls h2 h3) :
  Ext Z ads σ s ads (σ.set j .dead) {s with heap:=h3,toks:=tk}/\c.R Z lk h3 ads (σ.set j .dead)/\bK c C env ρ Z ads (σ.set j .dead) h3:=by
 have hown:=Rel.owned_set (o':=.dead) hp hj rfl;refine cL (R.objs _ _ _ hp hj) λq hq hit hpp _=>?_;have gB:∀b,b=p.1->bH ads σ b:=λb hb=>⟨j,p,_,hp,hj,rfl,.inl hb⟩;have hne:∀b o,s.heap.get? b=some o->b≠e:=λb o q z=>by rw[z,he]at q;cases q
 have R2:c.R Z lk h2 ads (σ.set j .dead):=R.put hp hj rfl (λb x h1 _ q=>hx b x h1 q) ⟨hi,hpp▸hi⟩ trivial;have heo:¬bH ads (σ.set j .dead) e:=λq=>R.fresh_ww he (.inr (hown e q));have YG:∀b,b∈C.fr.filterMap (·.frame)->∃o,s.heap.get? b=some o/\qX o/\h2.get? b=some o:=λb hb=>by
  refine aF (V.frs.2 b hb) λo ho hd=>?_;exact⟨o,ho,hd,hx b o (λq=>V.frn b hb (gB b q)) ho⟩
 have hbase:∀b,b∈C.fr.filterMap (·.frame)->c.h₀.get? b=none:=λb hb=>(V.frs.1.mem hb).1;have hso:∀b o,b≠e->h2.get? b=some o->∃o',h3.get? b=some o'/\SO o o':=λb o hb ho=>by
  refine bM (N.kept b o hb ho) λo' e' hd hn=>?_;refine⟨o',e',hd,λhnd=>hn λhm=>?_⟩;refine bM (YG b hm) λo2 _ qh7 e2=>?_;obtain⟨es,ep,z⟩:=qh7;rw[ho]at e2;cases e2;exact hnd es ep z
 have hhas:∀b,Heap.Has h2 b->Heap.Has h3 b:=λb ⟨o,ho⟩=>by
  by_cases hb:b=e
  ·refine VV (N.exc) λoe _ _ _ _ h1 _=>?_;exact⟨oe,hb▸h1⟩
  ·refine aF (N.kept b o hb ho) λo' e' _=>?_;exact⟨o',e'⟩
 have R3:c.R Z lk h3 ads (σ.set j .dead):=by
  refine R2.quiet (λb=>b∈C.fr.filterMap (·.frame)\/b=e) (λb o hb ho=>?_) (λb hb=>?_)
  ·refine bM (N.kept b o (λq=>hb (.inr q)) ho) λo' e' _ hn=>?_;rw[e',hn λq=>hb (.inl q)]
  ·rcases hb with hb|rfl
   ·refine bM (YG b hb) λo ho qh8 XJ=>?_;obtain⟨es,ep,z⟩:=qh8;refine⟨λq=>V.frn b hb (hown b q),hbase b hb,λo' e' hf=>?_,.inr (hhas b ⟨o,XJ⟩)⟩;rw[XJ]at e';cases e';exact hf.nd es ep z
   ·exact⟨heo,R.fresh_base he,λo' e' hf=>by rw[hoe]at e';cases e';exact hfz hf,.inr (hhas _ ⟨_,hoe⟩)⟩
 have hk3:∀b o,¬bH ads σ b->s.heap.get? b=some o->∃o',h3.get? b=some o'/\SO o o':=λb o hb ho=>hso b o (hne b o ho) (hx b o (λq=>hb (gB b q)) ho);have x:Ext Z ads σ s ads (σ.set j .dead) {s with heap:=h3,toks:=tk} :=
  ⟨⟨[],by simp⟩,hk3,λb q=>.inl (hown b q),λb ⟨o,ho⟩=>hhas b ((Classical.em (b=p.1)).elim (λq=>q▸hi) (λq=>⟨o,hx b o q ho⟩)),⟨_,_,rfl⟩⟩
 exact⟨x,R3,V.ext x⟩
theorem qjd {F:aU}{W:Nat}(B0:Base c)(hco:C.comp=false){i:Nat}{nm:Str}(hs:oR C i nm){f x y z:E}{fe fi de pe qe:Expr}{q1 q2 q3 q4 q5 q6 q7 q8 p1 p2 p4 p5:Pos}(S1:bL c n C (.Subscript fe fi q1) (ev F f))(Sd:oO c C de (ev F x))(Sp:oO c C pe (ev F y))(Sq:oO c C (.Call qe [] [] p4) (ev F z))(hstop:C.names.lookup (Str.ofString "StopIteration")=some .globalImplicit) (iU:c.gl (Str.ofString "StopIteration")=none)
  (hw:∀env:Env,env.scope.names=C.names->env.scope.kind=.function->swappedStores [.Name nm q2] (.Call (.Subscript fe fi q1) [] [] q3) env=pure none) :
  iK c n C (.Try [.Assign [.Name nm q2] (.Call (.Subscript fe fi q1) [] [] q3) q4,.Break q5] [.ExceptHandler (some (.Name "StopIteration" q6)) none [.Delete [.Subscript de pe p1] p2,.Expr (.Call qe [] [] p4) p5] q7] [] [] q8) (ex F W (.tryNext i f [.del x y,.expr z])):=by
 intro A Z lk s ads ρ σ env fl ρ' σ' hf hA R V Q E k;refine aZ hf λd1 σ1 h1 hf=>?_;refine iQ hf λj0 od σ2 hn hf=>aJ hn λk₀ hk₀ hn=>aJ hn λj hk0 hn=>aJ hk0 λoa hk0 hoa=>aZ hn λl m hj hn=>aJ hj λob hj hob=>aJ hn λxs hxs hn=>?_;rw[show d1=_ from kI hk₀]at h1;rw[qgP hoa]at hk0;rw[NK hob]at hj;refine wpAny_Try_except (wpAny_execs_cons (wpAny_Assign_stores ?_ rfl (hw env V.names V.kind)));refine Call_ (S1 A Z lk s ads ρ σ env (.ref k₀) σ1 h1 hA R V _ _ λov s1 aN x1 R1 r1=>?_);have V1:=V.ext x1;refine aF (r1) λp hp qhx=>?_;subst qhx;refine bM (R1.objs _ _ _ hp hk0) λq hq YS hpp=>?_;refine cL (R1.objs _ _ _ hq hj) λr hr hit Z1 _=>?_;refine c7 (jU R1 (show c.P Z aN σ1 s1.heap (.ref l) (.ref r.1) from⟨r,hr,rfl⟩) hxs) λla vs hla hpl hrl hlim=>?_;cases hla;refine qc8 YS (NX.call_next YS hit ?_);refine hide λH kk=>?_;cases hd:xs[m]? with
 | some d =>
  rw[show xs[(l,m).2]?=some d from hd]at hn;refine sm3 hn λz1 z2 z3=>?_;subst z2;subst z3;subst z1;cases hf;refine kk ?_;refine aF (hrl.get hd) λv hv rv=>?_;refine NX.tree_item hit (PlainList.isList hpl) (by simpa using hv) λh' hit' hsb=>?_;have hk':∀b o,b≠q.1->s1.heap.get? b=some o->h'.get? b=some o:=λb o hb e=>(hsb.2 b hb).trans e;have hhas:Heap.Has h' q.1:=aF (hit') λo e _=>⟨o,e⟩;have hown:=Rel.owned_set (o':=.iter l (m+1)) hq hj rfl;have gB:∀b,b=q.1->bH aN σ1 b:=λb hb=>⟨j,q,_,hq,hj,rfl,.inl hb⟩;have R2:c.R Z lk h' aN (σ1.set j (.iter l (m+1))):=R1.put hq hj rfl (λb x h1 _ e=>hk' b x h1 e) ⟨hhas,Z1▸hhas⟩ ⟨r,hr,hit',Z1,λz=>by omega⟩;have x2:Ext Z aN σ1 s1 aN (σ1.set j (.iter l (m+1))) {s1 with heap:=h'} :=
   ⟨⟨[],by simp⟩,λb o hb e=>SO.of (hk' b o (λq=>hb (gB b q)) e),λb e=>.inl (hown b e),λb ⟨o,e⟩=>(Classical.em (b=q.1)).elim (λq=>by subst q;exact hhas) (λq=>⟨o,hk' b o q e⟩),⟨_,s1.toks,rfl⟩⟩
  have V2:=V1.ext x2;show wpAny _ A (assignAll v ((assignEach [.Name nm q2] env).map (·.2))) _ _ _;show wpAny _ A (assign (.Name nm q2) env v) _ _ _;refine wpAny_assign_Name (EY R2 V2 hs (x2.rep rv) λs3 x3 R3 V3=>?_);refine wpAny_execs_cons (wpAny_Break ?_);exact k .brk s3 aN (((V.toY x1).trans (V1.toY x2)).trans x3) R3 V3 rfl
 | none =>
  have hnone:=hd;rw[show xs[(l,m).2]?=none from hd]at hn;refine sm3 hn λz1 z2 z3=>?_;subst z2;subst z3;subst z1;have hlen:=hrl.length;refine kk ?_;refine NX.tree_end hA.handled hit (PlainList.isList hpl) (by
   rw[List.getElem?_eq_none_iff]at hnone;simp;exact aA (aC 0x1f0a1021211 rfl (aQ hlen) hnone)) λh2 e t he hx2 hi2 hoe=>?_
  refine hide λH gH=>?_;refine dH (V1.hd hco) λouter hfr=>?_;have gB:∀b,b=q.1->bH aN σ1 b:=λb hb=>⟨j,q,_,hq,hj,rfl,.inl hb⟩;have hff:FF h2 c.h₀ C.fr:=pR V1.frs λa ha=>gW.same λo e=>hx2 a o (λz=>V1.frn a ha (gB a z)) e;obtain⟨_,⟨L,_,hL,_⟩,_⟩:h2.FunFrames c.h₀ (env::outer):=hfr▸hff.1;refine gH ?_;have hfz:¬Fz {cls:=.type "StopIteration",data:=.fields #[.ref t,.none,.none,.none,.bool false,.none]}:=λz=>by
   rcases z with ⟨xs,n,z⟩|⟨z,_⟩
   ·cases z
   ·exact absurd (show Value.type "StopIteration" = Value.type "range" from z) (by decide)
  refine qgL (base:=c.h₀) (hA.frames.trans (by rw[hfr])) (hfr▸hff.1) hL hoe rfl rfl λh3 N3=>?_;refine N3.flight (s:={s1 with heap:=h3}) λh4 N4=>?_;refine wpAny_handleBy_builtin (T:="StopIteration") (X:="StopIteration") (b:=true) qjW qjY qjX ?_;rw[<-hfr]at N4;refine cQ (qaP (tk:=s1.toks) R1 V1 hq hj hx2 hi2 he hoe hfz N4) λx4 R4 V4=>?_;refine qav B0 R4 V4 hstop iU qc6 (by decide) (by decide) ⟨rfl,?_,?_⟩
  ·refine W0 (N4.exc) λoe _ _ _ _ h1 h2 _=>?_;exact⟨oe,h1,h2⟩
  ·rw[if_pos rfl];refine N4.flight (s:={s1 with heap:=h4}) λh5 N5=>?_;refine cQ (qaP (tk:=s1.toks) R1 V1 hq hj hx2 hi2 he hoe hfz N5) λx5 R5 V5=>?_;exact qeQ B0 (p1:=p1) (p2:=p2) (p4:=p4) (p5:=p5) Sd Sp Sq hf (by simp;exact Nat.le_of_add_le_add_right (b:=1000) (R8 hA.units (le_refl _))) R5 V5 _ _ λf s6 qcJ x6 R6 V6 hfl=>k f s6 qcJ (((V.toY x1).trans (V1.toY x5)).trans x6) R6 V6 hfl
end
noncomputable def uP (c:bJ)(fn:Fn)(fd:FuncData)(ps:List Str):Prop :=
 ∀(args:List D) (ρ:Loc) (vals:List Value) (A:Around) (Z:List Addr) (lk:Nat->Nat) (s:Shared) (ads:aY) (σ:Store),oX fn args=some ρ->c.R Z lk s.heap ads σ->c.PL Z ads σ s.heap args vals ->
  ∀(Q:List (Str×Value)->Shared->Prop) (E:Value->Shared->Prop),(∀s' ws ds,(∀b o,s.heap.get? b=some o->s'.heap.get? b=some o)->(∃h tk,s'={s with heap:=h,toks:=tk})->c.PL Z ads σ s'.heap ds ws->ρ=ds.map some++replicate (fn.ns-ps.length) .none->ds.length=ps.length->Q (ps.zip ws) s') ->
   wpAny (model c.prog c.w) A (bindArgs fd ⟨vals,[]⟩) Q E s
structure fU (c:bJ) (P:gY) (fn:Fn) (fa:Addr) (fd:FuncData) (body:List Stmt) (ps:List Str) (slots:List (Nat×Str)):Prop where
 obj:∃o,c.h₀.get? fa=some o/\o.data=.func fd
 code:c.h₀.CodeRec fd.code fd.qualname
 bd:fd.body=.stmts body
 clo:fd.closure=[]
 co:fd.scope.isCoroutine=false
 gen:fd.scope.isGenerator=false
 kind:fd.scope.kind=.function
 glob:fd.globals=mainGlobals
 bu:fd.builtins=builtinsNs
 nodup:(fd.scope.names.map (·.1)).Nodup
 pnd:ps.Nodup
 pk:∀x∈ps,fd.scope.names.lookup x=some .local\/fd.scope.names.lookup x=some .cell
 sl:∀i x,slots.lookup i=some x->i<ps.length->ps[i]?=some x
 bind:uP c fn fd ps
 sim:∀n fr,mH c n (bD P n)->dJ c n ⟨fd.scope.names,slots,fr,false⟩ body (exs ⟨P.globs,bD P n⟩ P.W fn.body)
section
variable {kindOf:Str->Option NameKind}
theorem TF:∀{ps:List Str} {ws:List Value} {m:Str->Option Value} {x:Str},x∉ps->bindL kindOf (ps.zip ws) m x=m x
 | [],_,_,_,_=>rfl
 | p::ps,[],_,_,_=>rfl
 | p::ps,w::ws,m,x,h=>by
  show bindL kindOf (ps.zip ws) _ x=_;rw[TF (λq=>h (mem_cons_of_mem _ q))];split
  ·exact if_neg (λq:x=p=>h (by rw[q];exact mem_cons_self))
  ·rfl
theorem T8:∀{ps:List Str} {ws:List Value} {m:Str->Option Value} {x:Str},x∉ps->bindC kindOf (ps.zip ws) m x=m x
 | [],_,_,_,_=>rfl
 | p::ps,[],_,_,_=>rfl
 | p::ps,w::ws,m,x,h=>by
  show bindC kindOf (ps.zip ws) _ x=_;rw[T8 (λq=>h (mem_cons_of_mem _ q))];split
  ·rfl
  ·exact if_neg (λq:x=p=>h (by rw[q];exact mem_cons_self))
theorem T9:∀{ps:List Str} {ws:List Value} {m:Str->Option Value} {i:Nat} {x:Str} {v:Value},ps.Nodup->ps[i]?=some x->ws[i]?=some v->kindOf x=some .local->bindL kindOf (ps.zip ws) m x=some v
 | [],_,_,i,_,_,_,h,_,_=>by simp at h
 | p::ps,[],_,i,_,_,_,_,h,_=>by simp at h
 | p::ps,w::ws,m,i,x,v,hn,h1,h2,hk=>by
  show bindL kindOf (ps.zip ws) _ x=_;cases i with
  | zero =>
   simp at h1 h2;subst h1 h2;rw[TF (nodup_cons.mp hn).1,if_pos hk,if_pos rfl]
  | succ i=>simp at h1 h2;exact T9 (nodup_cons.mp hn).2 h1 h2 hk
theorem T7:∀{ps:List Str} {ws:List Value} {m:Str->Option Value} {i:Nat} {x:Str} {v:Value},ps.Nodup->ps[i]?=some x->ws[i]?=some v->kindOf x≠some .local->bindC kindOf (ps.zip ws) m x=some v
 | [],_,_,i,_,_,_,h,_,_=>by simp at h
 | p::ps,[],_,i,_,_,_,_,h,_=>by simp at h
 | p::ps,w::ws,m,i,x,v,hn,h1,h2,hk=>by
  show bindC kindOf (ps.zip ws) _ x=_;cases i with
  | zero =>
   simp at h1 h2;subst h1 h2;rw[T8 (nodup_cons.mp hn).1,if_neg hk,if_pos rfl]
  | succ i=>simp at h1 h2;exact T7 (nodup_cons.mp hn).2 h1 h2 hk
end
theorem HN:∀{names:List (Str×NameKind)} {m:Nat},(names.map (·.1)).Nodup->((cellsFrom m names []).map (·.1)).Nodup
 | [],_,_=>nodup_nil
 | (x,k)::r,m,h=>by
  obtain⟨h1,h2⟩:=nodup_cons.mp h;unfold cellsFrom;split
  ·rw[pL,map_append];refine nodup_append.mpr ⟨HN h2,by simp,λa ha b hb=>?_⟩;simp at hb;subst hb;intro q;refine aF (mem_map.mp ha) λqh9 hy qhA=>?_;obtain⟨y,ad⟩:=qh9;subst qhA;exact h1 (q▸mem_map.mpr ⟨_,vG hy,rfl⟩)
  ·exact HN h2
section
variable {c:bJ}{P:gY}{n:Nat}
theorem qda {fn:Fn}{fa:Addr}{fd:FuncData}{body:List Stmt}{ps:List Str}{slots:List (Nat×Str)}(K:fU c P fn fa fd body ps slots){A:Around}{Z:List Addr}{lk:Nat->Nat}{s s₁:Shared}{ads:aY}{σ:Store}{ρ:Loc}{ds:List D}{ws:List Value}{fr:List Env}(R:c.R Z lk s.heap ads σ)(hr:c.PL Z ads σ s.heap ds ws)(zT:ρ=ds.map some++replicate (fn.ns-ps.length) .none)(hl:ds.length=ps.length)(hff:FF s.heap c.h₀ fr)(hfn:∀a,a∈fr.filterMap (·.frame)->¬bH ads σ a)(env:Env)(he:env=callEnvC fd s.heap.objs.size fa)(x:InCallC s env.locals (bindL env.kindOf (ps.zip ws) λ_=>none) env.cells (bindC env.kindOf (ps.zip ws) λ_=>none) s₁) :
  bK c ⟨fd.scope.names,slots,env::fr,false⟩ env ρ Z ads σ s₁.heap/\c.R Z lk s₁.heap ads σ:=by
 have hk:=x.toInCall.keep;have R1:c.R Z lk s₁.heap ads σ:=R.grow hk;have Y4:env.locals=s.heap.objs.size:=by rw[he];rfl
 have hcs:env.cells=cellsFrom (s.heap.objs.size+1) fd.scope.names []:=by rw[he];rfl
 have hko:∀y,env.kindOf y=fd.scope.names.lookup y:=λy=>by rw[he];rfl
 have hnd:(env.cells.map (·.1)).Nodup:=by rw[hcs];exact HN K.nodup
 have hfresh:∀y a,(y,a)∈env.cells->s.heap.get? a=none:=λy a h=>Heap.get?_none_of_le (Nat.le_of_lt (Y4▸x.above y a h));have rM:s.heap.get? env.locals=none:=by rw[Y4];exact bU _
 have hget:∀i y d,slots.lookup i=some y->ρ[i]?=some (some d)->ps[i]?=some y/\∃v,ws[i]?=some v/\c.P Z ads σ s₁.heap d v:=λi y d h1 h2=>by
  have hi:i<ds.length:=by
   rcases lt_or_ge i ds.length with q|q
   ·exact q
   ·rw[zT,getElem?_append_right (by simpa using q)]at h2;rw[List.getElem?_replicate]at h2;split at h2 <;> cases h2
  rw[zT,getElem?_append_left (by simpa using hi),getElem?_map]at h2;refine aF (Option.map_eq_some_iff.mp h2) λd' h3 h4=>?_;cases h4;refine aF (hr.get h3) λv h5 h6=>?_;exact⟨K.sl i y h1 (hl▸hi),v,h5,Rep.mono (Sub.refl _) (λb o _ _ e=>hk b o e) (λ_ _ _ w=>w) _ _ h6⟩
 have hcell:∀y a,(y,a)∈env.cells->env.cells.lookup y=some a:=λy a h=>z9 hnd h;have hns:=x.toInCall.ns;refine⟨⟨by rw[he];exact K.kind,by rw[he];rfl,by rw[he];exact K.glob,by rw[he];exact K.bu,⟨_,hns,λi y d h1 h2 h3=>?_⟩,λy hy=>?_,λi y d a h1 h2 h3 h4=>?_,x.apart,⟨λq=>R.fresh_ww rM (.inr q),R.fresh_base rM⟩,λy a h=>⟨λq=>R.fresh_ww (hfresh y a h) (.inr q),R.fresh_base (hfresh y a h),_,x.cell y a (hcell y a h)⟩,?_,?_,λ_=>⟨fr,rfl⟩⟩,R1⟩
 ·obtain⟨h4,v,h5,h6⟩:=hget i y d h1 h3;exact⟨v,T9 K.pnd h4 h5 ((hko y).trans h2),h6⟩
 ·obtain⟨a,ha⟩:=wD (m:=s.heap.objs.size+1) (mem_of_lookup hy);rw[<-hcs]at ha;exact⟨a,_,hcell y a ha,x.cell y a (hcell y a ha)⟩
 ·obtain⟨h5,v,h6,h7⟩:=hget i y d h1 h3;have:=x.cell y a h4;rw[T7 K.pnd h5 h6 (by rw[hko y];rw[h2];exact λq=>by cases q)]at this;exact⟨v,this,h7⟩
 ·have hd:∃o,s₁.heap.get? env.locals=some o/\qX o:=by refine fY (hns) λo es ep h1 h2 _=>?_;exact⟨o,h1,es,ep,h2⟩
  have zL:env.frame=some env.locals:=by rw[he];rfl
  have hrest:=pR hff λa _=>gW.same λo e=>hk a o e;have hkm:env.scope.kind≠.module:=by rw[he];show fd.scope.kind≠_;rw[K.kind];exact λq=>by cases q
  refine⟨⟨hkm,⟨env.locals,hd.choose,zL,R.fresh_base rM,hd.choose_spec.1,λvs q=>?_⟩,hrest.1⟩,λa ha=>?_⟩
  ·obtain⟨_,es,ep,z⟩:=hd.choose_spec;rw[z]at q;cases q
  ·rw[filterMap_cons,zL]at ha;rcases mem_cons.mp ha with rfl|ha
   ·exact hd
   ·exact hrest.2 a ha
 ·intro a ha;have zL:env.frame=some env.locals:=by rw[he];rfl
  rw[filterMap_cons,zL]at ha;rcases mem_cons.mp ha with rfl|ha
  ·exact λq=>R.fresh_ww rM (.inr q)
  ·exact hfn a ha
theorem qeB (B0:Base c)(hP:∀f fa,c.X.fv f=some fa->∃fn fd body ps slots,P.fns f=some fn/\fU c P fn fa fd body ps slots)(ih:mH c n (bD P n)):mH c (n+1) (bD P (n+1)):=by
 intro f args σ d σ' hf fa hfa A Z lk s ads vals fr hA hff hfn R hr Rz k;refine VV (hP f fa hfa) λfn fd body ps slots qeY K=>?_;refine aJ hf λfn2 YF hf=>?_;cases YF.symm.trans qeY;refine aJ hf λρ hb hf=>iQ hf λfl ρ' σ2 hex hf=>?_;have hfl:(fl=.ret d\/(fl=.next/\d=.none))/\σ2=σ':=by
  cases fl
  case ret=>exact eG hf λe1 e2=>⟨.inl (congrArg Fl.ret e1),e2⟩
  case next=>exact eG hf λe1 e2=>⟨.inr ⟨rfl,e1.symm⟩,e2⟩
  all_goals exact bO hf
 obtain⟨hfl,hσ⟩:=hfl;rw[hσ]at hex;clear hf YF hσ;refine aF (K.obj) λo ho hod=>?_;have hcode:s.heap.CodeRec fd.code fd.qualname:=by
  refine rF (K.code) λc' o' vs' t' h1 h2 h3=>?_;exact⟨c',o',vs',t',h1,R.keep _ _ h2,h3⟩
 have YB:=hA.depth;have hun:=hA.units;refine codeAny_call_function (by unfold recursionLimit;exact ltN (aB 0x03e8913e7988f1a4b0aa1 rfl YB)) (R.keep _ _ ho) hod K.co K.gen K.bd hcode ?_;rw[K.clo];refine K.bind args ρ vals A.in1 Z lk s ads σ hb R hr _ _ λs1 ws ds hk1 hs1 hr1 zT hlen=>?_;have R1:c.R Z lk s1.heap ads σ:=R.grow hk1;have qeX:FF s1.heap c.h₀ fr:=pR hff λa _=>gW.same λo e=>hk1 a o e;refine wpAny_newFunctionEnv_cells K.kind (λx hx=>?_) λenv he s2 x2=>?_
 ·have hm:x.1∈ps:=(List.of_mem_zip hx).1;rcases K.pk x.1 hm with q|q
  ·exact .inl q
  ·refine .inr ⟨q,?_⟩;obtain⟨a,ha⟩:=wD (m:=s1.heap.objs.size+1) (mem_of_lookup q);obtain⟨b,hb⟩:=BJ ha;rw[hb];rfl
 ·obtain⟨V2,R2⟩:=qda K (A:=A) R1 hr1 zT hlen qeX hfn env he x2;refine⟨(B0.nolimit.keeps R.keep).keeps λb o e=>x2.toInCall.keep b o (hk1 b o e),codeAny_func ?_⟩;refine K.sim n (env::fr) ih (A.deeper env) Z lk s2 ads ρ σ env fl ρ' σ' hex ⟨by show A.depth+1+4*n+10<=999;exact aA (aB 0xa814bf0aaaf3e79a13e7988f1a4b0aa1 rfl YB),by rw[Around.deeper_units,Nat.add_right_comm A.units 3];exact le_trans (Nat.add_le_add_left (by decide:1003<=1050) (A.units+100*n)) hun,hA.handled,by show A.frames.map (env::·)=_;rw[hA.frames];rfl⟩ R2 V2 _ _ λfv s3 bW x3 R3 V3 YH=>?_;have hFr:∀b,dY env b->s.heap.get? b=none:=λb hb=>by
   have h1:s1.heap.get? b=none:=by
    rcases hb with rfl|⟨y,hy⟩
    ·rw[he];exact bU _
    ·refine Heap.get?_none_of_le (Nat.le_of_lt ?_);have:=x2.above y b (mem_of_lookup hy);rw[he]at this;exact this
   cases e:s.heap.get? b with
   | none=>rfl
   | some o=>rw[hk1 b o e]at h1;cases h1
  have hk2:∀b o,s.heap.get? b=some o->s2.heap.get? b=some o:=λb o e=>x2.toInCall.keep b o (hk1 b o e);have X:Ext Z ads σ s bW σ' s3:=by
   refine⟨x3.pre,λb o hn e=>x3.kept b o hn (λq=>by rw[hFr b q]at e;cases e) (hk2 b o e),λb e=>?_,λb ⟨o,e⟩=>x3.has b ⟨o,hk2 b o e⟩,?_⟩
   ·rcases x3.own b e with q|q
    ·exact .inl q
    ·refine .inr ?_;cases e':s.heap.get? b with
     | none=>rfl
     | some o=>rw[hk2 b o e']at q;cases q
   ·refine fD (x3.rest) λh tk e3=>?_;refine fD (hs1) λh1 tk1 e1=>?_;refine fD (x2.toInCall.same) λh2 tk2 e2=>?_;exact⟨h,tk,by rw[e3,e2,e1]⟩
  rcases hfl with rfl|⟨rfl,rfl⟩
  ·refine aF (YH) λv qhB rv=>?_;subst qhB;exact k v s3 bW X R3 rv
  ·cases YH;exact k .none s3 bW X R3 rfl
theorem X8 (B0:Base c)(hP:∀f fa,c.X.fv f=some fa->∃fn fd body ps slots,P.fns f=some fn/\fU c P fn fa fd body ps slots):∀n,mH c n (bD P n)
 | 0=>λf args σ d σ' hf=>bO hf
 | n+1=>qeB B0 hP (X8 B0 hP n)
end
section
variable {c:bJ}{fn:Fn}{fd:FuncData}{ps:List Str}
theorem lH (hs:fn.star=false)(hd:fn.dn=0)(hnp:0<fn.np)(hps:ps.length=fn.np)(h:∀vals:List Value,vals.length=fn.np->bindArgs fd ⟨vals,[]⟩=pure (ps.zip vals)):uP c fn fd ps:=by
 intro args ρ vals A Z lk s ads σ hb R hr Q E k;unfold oX at hb;simp only[hs,hd,false_eq_true,if_false]at hb;have key:args.length=fn.np/\ρ=args.map some++replicate (fn.ns-fn.np) .none:=by
  by_cases h1:args.length>lim
  ·rw[if_pos h1]at hb;split at hb
   ·rename_i q;simp at q;omega
   ·cases hb
  ·rw[if_neg h1,if_neg (show ¬(args.length<fn.np/\fn.np<=args.length+0) by exact λU=>(aB 0x080a111f0a1 rfl U.1 U.2))]at hb;split at hb
   ·rename_i q;cases hb;exact⟨q,rfl⟩
   ·cases hb
 refine bI (key) λh1 h2=>?_;rw[h vals (by rw[hr.length,h1])];refine wpAny_pure (k s vals args (λ_ _ e=>e) ⟨s.heap,s.toks,rfl⟩ hr ?_ (by rw[h1,hps]));rw[h2,hps]
theorem TJ (hs:fn.star=true)(hd:fn.dn=0)(hnp:0<fn.np)(hps:ps.length=fn.np+1)(h:∀vals:List Value,fn.np<=vals.length->bindArgs fd ⟨vals,[]⟩=(newTuple (vals.drop fn.np) >>= λt=>pure (ps.zip (vals.take fn.np++[t])))):uP c fn fd ps:=by
 intro args ρ vals A Z lk s ads σ hb R hr Q E k;unfold oX at hb;simp only[hs,hd,if_true]at hb;have key:args.length<=lim/\fn.np<=args.length/\ρ=(args.take fn.np++[D.tup (args.drop fn.np)]).map some++replicate (fn.ns-(fn.np+1)) .none:=by
  by_cases h1:args.length>lim
  ·rw[if_pos h1]at hb;split at hb
   ·rename_i q;simp at q;omega
   ·cases hb
  ·rw[if_neg h1,if_neg (show ¬(args.length<fn.np/\fn.np<=args.length+0) by exact λU=>(aB 0x080a111f0a1 rfl U.1 U.2))]at hb;split at hb
   ·rename_i q;cases hb;exact⟨Nat.le_of_not_lt h1,q,rfl⟩
   ·cases hb
 refine cQ (key) λh0 h1 h2=>?_;have hlen:=hr.length;rw[h vals (aA (aC 0x1f0a1211021 rfl (aW hlen) h1))];have hdr:=hr.drop fn.np;have YL:(args.drop fn.np).length<=lim:=by rw[length_drop];exact aA (aC 0x1f0a1211021 rfl h0 (eV _ _))
 refine wpAny_bind ?_;unfold newTuple;refine wpAny_newObj_type ?_ ?_
 ·have hk:∀b o,s.heap.get? b=some o->(s.heap.push {cls:=.type "tuple",data:=.seq (vals.drop fn.np).toArray}).get? b=some o:=λb o e=>Heap.get?_push_of_some _ e;refine wpAny_pure (k _ (vals.take fn.np++[.ref s.heap.objs.size]) (args.take fn.np++[.tup (args.drop fn.np)]) hk ⟨_,s.toks,rfl⟩ ?_ ?_ ?_)
  ·exact aX.append (aX.mono (Sub.refl _) (λb o _ _ e=>hk b o e) (λ_ _ _ w=>w) _ _ (hr.take _)) (aX.one (BV R hdr YL))
  ·rw[h2,hps]
  ·simp[hps];exact min_eq_left key.2.1
 ·exact jQ YL hdr.length
theorem qcZ {T:Addr}{o:Obj}{m:Nat}(B0:Base c)(hs:fn.star=false)(hd:fn.dn=1)(hnp:fn.np=2)(hps:ps.length=2)(hT:fd.defaults=.ref T)(ho:c.h₀.get? T=some o)(hod:o.data=.seq #[.none] m)(h1:∀v,∃k:Option (Array Value)->Sem (List (Str×Value)),bindArgs fd ⟨[v],[]⟩=seqItems? fd.defaults >>= k/\k (some #[.none])=pure (ps.zip [v,.none]))(h2:∀v u,∃k:Option (Array Value)->Sem (List (Str×Value)),bindArgs fd ⟨[v,u],[]⟩=seqItems? fd.defaults >>= k/\k (some #[.none])=pure (ps.zip [v,u])):uP c fn fd ps:=by
 intro args ρ vals A Z lk s ads σ hb R hr Q E k;have hTs:=R.keep _ _ ho;unfold oX at hb;simp only[hs,hd,hnp,false_eq_true,if_false]at hb
 match args,hr with
 | [],hr =>
  simp[lim]at hb
 | [a],hr =>
  refine aF (NT hr) λv qhy rv=>?_;subst qhy;simp[lim]at hb;refine aF (h1 v) λk1 e1 e2=>?_;rw[e1,hT];refine wpAny_bind (wpAny_seqItems hTs hod ?_);rw[e2];refine wpAny_pure (k s [v,.none] [a,.none] (λ_ _ e=>e) ⟨s.heap,s.toks,rfl⟩ ⟨v,_,rfl,rv,.none,[],rfl,rfl,rfl⟩ ?_ (by simp[hps]));rw[<-hb,hps];rfl
 | [a,b],hr =>
  refine cY (qb2 hr) λv u qhz rv ru=>?_;subst qhz;simp[lim]at hb;refine aF (h2 v u) λk1 e1 e2=>?_;rw[e1,hT];refine wpAny_bind (wpAny_seqItems hTs hod ?_);rw[e2];refine wpAny_pure (k s [v,u] [a,b] (λ_ _ e=>e) ⟨s.heap,s.toks,rfl⟩ hr ?_ (by simp[hps]));rw[<-hb,hps];rfl
 | a::b::d::r,hr =>
  exfalso;by_cases h1:(a::b::d::r).length>lim
  ·rw[if_pos h1]at hb;simp at hb
  ·rw[if_neg h1,if_neg (by simp)]at hb;simp at hb
end
theorem rU {α:Type}:∀{l:List (Nat×α)} {i:Nat} {x:α},l.lookup i=some x->(i,x)∈l
 | (j,y)::r,i,x,h=>by
  rw[lookup_cons]at h;cases hb:i==j with
  | true=>rw[hb]at h;cases h;rw[beq_iff_eq.mp hb];exact mem_cons_self
  | false=>rw[hb]at h;exact mem_cons_of_mem _ (rU h)
theorem qaw {α:Type}:∀{l:List (Nat×α)} {i:Nat} {x:α},(l.map (·.1)).Nodup->(i,x)∈l->l.lookup i=some x
 | (j,y)::r,i,x,hn,h=>by
  refine bI (nodup_cons.mp hn) λh1 h2=>?_;rw[lookup_cons];rcases mem_cons.mp h with e|h'
  ·cases e;simp
  ·have:(i==j)=false:=by
    rw[beq_eq_false_iff_ne];intro q;exact h1 (mem_map.mpr ⟨_,h',q⟩)
   rw[this];exact qaw h2 h'
theorem qbF {α:Type}:∀{l:List (Nat×α)} {i j:Nat} {x:α},(l.map (·.2)).Nodup->(i,x)∈l->(j,x)∈l->i=j
 | (k,y)::r,i,j,x,hn,h1,h2=>by
  refine bI (nodup_cons.mp hn) λn1 n2=>?_;rcases mem_cons.mp h1 with e|h1 <;> rcases mem_cons.mp h2 with e'|h2
  ·cases e;cases e';rfl
  ·cases e;exact absurd (mem_map.mpr ⟨_,h2,rfl⟩) n1
  ·cases e';exact absurd (mem_map.mpr ⟨_,h1,rfl⟩) n1
  ·exact qbF n2 h1 h2
noncomputable def qj9 (l:List (Nat×Str)):Bool:=decide (l.map (·.1)).Nodup&&decide (l.map (·.2)).Nodup
theorem qjJ {C:SC}{i:Nat}{x:Str}(ht:qj9 C.slots=true)(hs:C.slots.lookup i=some x)(hk:C.names.lookup x=some .local\/C.names.lookup x=some .cell):oR C i x:=by
 refine bI (and_eq_true_iff.mp ht) λh1 h2=>?_;refine⟨hs,hk,λj y e=>?_⟩;by_cases hj:j=i
 ·subst hj;rw[hs]at e;cases e;exact .inl ⟨rfl,rfl⟩
 ·exact .inr ⟨hj,λq=>by subst q;exact hj (qbF (of_decide_eq_true h2) (rU e) (rU hs))⟩
noncomputable def rE (C:SC)(scope:Scope):SC:=⟨scope.names.map λ(p:Str×NameKind)=>if p.2==.free then(p.1,NameKind.cell) else p,C.slots.filter λp=>scope.names.any λq=>q.1==p.2&&q.2==.free,C.fr,true⟩
noncomputable def xU (C:SC)(scope:Scope):Bool:=(scope.kind==.function)&&decide (scope.names.map (·.1)).Nodup&&(scope.names.all λp=>!(p.2==.free)||C.names.lookup p.1==some .cell)&&decide (C.slots.map (·.1)).Nodup
theorem U8 {C:SC}{scope:Scope}(h:xU C scope=true):sX C scope (rE C scope):=by
 unfold xU at h;simp only[and_eq_true,decide_eq_true_eq,all_eq_true,beq_iff_eq]at h;obtain⟨⟨⟨h1,h2⟩,h3⟩,h4⟩:=h;refine⟨h1,h2,λx hx=>?_,rfl,rfl,rfl,λi x e=>?_⟩
 ·have:=h3 _ hx;simpa using this
 ·have hm:=rU e;refine bI (mem_filter.mp hm) λm1 m2=>?_;refine⟨qaw h4 m1,?_⟩;refine aF (any_eq_true.mp m2) λq q1 q2=>?_;simp only[and_eq_true,beq_iff_eq]at q2;obtain⟨a,b⟩:=q;obtain⟨rfl,rfl⟩:=q2;exact q1
noncomputable def rB (C:SC)(t:Nat)(x:Str):SC:=⟨C.names,(t,x)::C.slots,C.fr,C.comp⟩
noncomputable def vA (scope:Scope)(C:SC)(t:Nat)(x:Str):Bool:=(scope.names.any λq=>q.1==x&&(q.2==.local||q.2==.cell))&&(C.names.lookup x==some .local||C.names.lookup x==some .cell)&&(C.slots.all λp=>!(p.2==x))&&C.slots.all λp=>!(p.1==t)
theorem tB {scope:Scope}{C:SC}{t:Nat}{x:Str}(h:vA scope C t x=true):lD (ownNames scope) C (rB C t x) t x/\∀y,C.slots.lookup t≠some y:=by
 unfold vA at h;simp only[and_eq_true,or_eq_true,all_eq_true,beq_iff_eq,any_eq_true]at h;obtain⟨⟨⟨⟨⟨a,b⟩,h1,rfl,h2⟩,h3⟩,h4⟩,h5⟩:=h;refine⟨⟨?_,rfl,rfl,rfl,rfl,h3,λj y e q=>?_⟩,λy e=>?_⟩
 ·rcases h2 with h2|h2
  ·dsimp only at h2;subst h2;exact .inl h1
  ·dsimp only at h2;subst h2;exact .inr h1
 ·have:=h4 _ (rU e);simp[q]at this
 ·have:=h5 _ (rU e);simp at this
theorem qj5 {C:SC}{elt:Expr}{cs:List Comprehension}{scope:Scope}{p np:Pos}{nm:Str}{line:Nat}(h:C.names.lookup nm=some .cell):∀env:Env,env.scope.names=C.names->swapsWith (.ListComp elt cs scope p) (some (.Name nm np)) line env=pure false:=by
 intro env he;show (pure (env.blockKind==.function&&env.kindOf nm==some .local&&np.line==p.line&&!(scope.names.any λ(n,k)=>n==nm&&(k==.local||k==.cell))):Sem Bool)=pure false;have:env.kindOf nm=some .cell:=by unfold Env.kindOf;rw[he,h]
 rw[this,show ((some NameKind.cell:Option NameKind)==some .local)=false from rfl];simp
theorem qj6 {C:SC}{elt:Expr}{cs:List Comprehension}{scope:Scope}{p np:Pos}{nm:Str}{line:Nat}(h:C.names.lookup nm=some .local)(h2:(np.line==p.line&&!(scope.names.any λ(n,k)=>n==nm&&(k==.local||k==.cell)))=true) :
  ∀env:Env,env.scope.names=C.names->env.scope.kind=.function->swapsWith (.ListComp elt cs scope p) (some (.Name nm np)) line env=pure true:=by
 intro env he hk;show (pure (env.blockKind==.function&&env.kindOf nm==some .local&&np.line==p.line&&!(scope.names.any λ(n,k)=>n==nm&&(k==.local||k==.cell))):Sem Bool)=pure true;have h1:env.kindOf nm=some .local:=by unfold Env.kindOf;rw[he,h]
 have h3:env.blockKind=.function:=by unfold Env.blockKind;rw[hk];rfl
 rw[h1,h3];refine bI (and_eq_true_iff.mp h2) λa b=>?_;rw[a,b];rfl
section
variable {c:bJ}{n:Nat}{C:SC}{F:aU}{S:Str->Prop}
theorem qeC {scope:Scope}{C₂:SC}{t:Nat}{x:Str}{px:Pos}{it:It}{iter:Expr}{ifs:List E}{cC:List Expr}{gs:List G}{cs:List Comprehension}(h:vA scope C t x=true)(hI:nP c n C iter (kJ F it))(hC:lG c n (rB C t x) cC (gJ F ifs))(hf:∀env v,foldedSetIterable iter env v=pure v)(hG:lE c n F (ownNames scope) (rB C t x) gs cs C₂):lE c n F (ownNames scope) C (.mk [t] false it ifs::gs) (⟨.Name x px,iter,cC,0⟩::cs) C₂ :=
 .cons (tB h).1 (tB h).2 hI hC hf hG
theorem qjt (hF:fB F.F){scope:Scope}{gZ:E}{elt:Expr}{cs:List Comprehension}{pos:Pos}{m:Bool}{t:Nat}{x:Str}{px:Pos}{it:It}{iter:Expr}{ifs:List E}{cC:List Expr}{gs:List G}{C₂:SC}(hK:xU C scope=true)(hb:vA scope (rE C scope) t x=true)(hf:∀env v,foldedSetIterable iter env v=pure v)(hna:firstAsync (⟨.Name x px,iter,cC,0⟩::cs)=false)(hI:nP c n C iter (kJ F it))(hC:lG c n (rB (rE C scope) t x) cC (gJ F ifs))(hG:lE c n F (ownNames scope) (rB (rE C scope) t x) gs cs C₂)(hE:bL c n C₂ elt (ev F gZ)) :
  bL c n C (.ListComp elt (⟨.Name x px,iter,cC,0⟩::cs) scope pos) (ev F (.comp m gZ (.mk [t] false it ifs::gs))) :=
 qjs hF (U8 hK) hI hf (tB hb).1 (tB hb).2 hC hG hE hna
theorem qi3 (hF:fB F.F){W:Nat}{i:Nat}{nm:Str}{np:Pos}{scope:Scope}{gZ:E}{elt:Expr}{cs:List Comprehension}{cpos pos:Pos}{m:Bool}{t:Nat}{x:Str}{px:Pos}{it:It}{iter:Expr}{ifs:List E}{cC:List Expr}{gs:List G}{C₂:SC}(hs:oR C i nm)(hK:xU C scope=true)(hb:vA scope (rE C scope) t x=true)(hf:∀env v,foldedSetIterable iter env v=pure v)(hna:firstAsync (⟨.Name x px,iter,cC,0⟩::cs)=false)(hsw:∀env:Env,env.scope.names=C.names->env.scope.kind=.function->swapsWith (.ListComp elt (⟨.Name x px,iter,cC,0⟩::cs) scope cpos) (some (.Name nm np)) pos.line env=pure true)(hI:nP c n C iter (kJ F it))(hC:lG c n (rB (rE C scope) t x) cC (gJ F ifs))(hG:lE c n F (ownNames scope) (rB (rE C scope) t x) gs cs C₂)(hE:bL c n C₂ elt (ev F gZ)) :
  iK c n C (.Assign [.Name nm np] (.ListComp elt (⟨.Name x px,iter,cC,0⟩::cs) scope cpos) pos) (ex F W (.assign (.name i) (.comp m gZ (.mk [t] false it ifs::gs)))) :=
 qi2 hF hs (U8 hK) hI hf (tB hb).1 (tB hb).2 hC hG hE hna hsw
end
theorem RP {α:Type}{p:α->Prop}:∀x∈([]:List α),p x:=λx h=>absurd h not_mem_nil
theorem dG {α:Type}{p:α->Prop}{a:α}{l:List α}(h:p a)(k:∀x∈l,p x):∀x∈a::l,p x:=λx hx=>(mem_cons.mp hx).elim (λe=>e▸h) (k x)
theorem qam {α:Type}{l:List (Nat×α)}{Q:Nat->α->Prop}(h:∀p∈l,Q p.1 p.2):∀f a,l.lookup f=some a->Q f a:=by
 intro f a e
 induction l with
 | nil=>cases e
 | cons p l ih =>
  rw[lookup_cons]at e;split at e
  ·rename_i hf;cases e;rw[eq_of_beq hf];exact h _ mem_cons_self
  ·exact ih (λq hq=>h q (mem_cons_of_mem _ hq)) e
theorem qb7 {α:Type}{n:Nat}{P:List α->Prop}(h:∀a l,n<=l.length->P (a::l)):∀l,n+1<=l.length->P l:=λl e=>by
 cases l with
 | nil=>cases e
 | cons a l=>exact h a l (Nat.le_of_succ_le_succ e)
theorem qb8 {α:Type}{P:List α->Prop}(h:∀a r,P (a::r)):∀l,1<=l.length->P l:=qb7 λa l _=>h a l
theorem qkl {α:Type}{P:List α->Prop}(h:∀a b r,P (a::b::r)):∀l,2<=l.length->P l:=qb7 λa=>qb8 (P:=λl=>P (a::l)) (h a)
theorem qkk {α:Type}{P:List α->Prop}(h:P []):∀l,l.length=0->P l:=λl e=>by rw[List.eq_nil_of_length_eq_zero e];exact h
theorem qb6 {α:Type}{n:Nat}{P:List α->Prop}(h:∀a l,l.length=n->P (a::l)):∀l,l.length=n+1->P l:=λl e=>by
 cases l with
 | nil=>cases e
 | cons a l=>exact h a l (Nat.succ.inj e)
theorem vals1 {α:Type}{P:List α->Prop}(h:∀a,P [a]):∀l,l.length=1->P l:=qb6 λa=>qkk (P:=λl=>P (a::l)) (h a)
theorem vals2 {α:Type}{P:List α->Prop}(h:∀a b,P [a,b]):∀l,l.length=2->P l:=qb6 λa=>vals1 (P:=λl=>P (a::l)) (h a)
theorem jJ {c:bJ}{P:gY}{fn:Fn}{fa:Addr}{fd:FuncData}{body:List Stmt}{ps:List Str}{slots:List (Nat×Str)}(obj:∃o,c.h₀.get? fa=some o/\o.data=.func fd)(code:c.h₀.CodeRec fd.code fd.qualname)(bd:fd.body=.stmts body)(clo:fd.closure=[])(co:fd.scope.isCoroutine=false)(gen:fd.scope.isGenerator=false)(kind:fd.scope.kind=.function)(glob:fd.globals=mainGlobals)(bu:fd.builtins=builtinsNs)(nd:decide (fd.scope.names.map (·.1)).Nodup=true)(pn:decide ps.Nodup=true)(pk:(ps.all λx=>fd.scope.names.lookup x==some .local||fd.scope.names.lookup x==some .cell)=true)(sl:(slots.all λp=>decide (ps.length<=p.1)||ps[p.1]?==some p.2)=true)(bind:uP c fn fd ps)(sim:∀n fr,mH c n (bD P n)->dJ c n ⟨fd.scope.names,slots,fr,false⟩ body (exs ⟨P.globs,bD P n⟩ P.W fn.body)):fU c P fn fa fd body ps slots :=
 ⟨obj,code,bd,clo,co,gen,kind,glob,bu,of_decide_eq_true nd,of_decide_eq_true pn,λx hx=>by
  have:=all_eq_true.mp pk x hx;simpa[or_eq_true] using this,λi x h hi=>by
  have:=all_eq_true.mp sl _ (rU h);simp only[or_eq_true,decide_eq_true_eq,beq_iff_eq]at this;rcases this with q|q
  ·omega
  ·exact q,bind,sim⟩
mutual
noncomputable def N7:S->Bool
 | .ret _=>false
 | .expr _=>true
 | .assign _ _=>true
 | .bad=>true
 | .ife _ a b=>qK a&&qK b
 | _=>false
noncomputable def qK:List S->Bool
 | []=>true
 | x::xs=>N7 x&&qK xs
end
mutual
theorem qgM {X:aU}{W:Nat}:∀(x:S) {ρ ρ':Loc} {σ σ':Store} {fl:Fl},N7 x=true->ex X W x ρ σ=some (fl,ρ',σ')->fl=.next
 | .expr e=>λh he=>aJ he λ_ _ he=>sm3 he λq _ _=>q.symm
 | .assign t e=>λh he=>aJ he λ_ _ he=>aJ he λ_ _ he=>sm3 he λq _ _=>q.symm
 | .bad=>λh he=>bO he
 | .ife c a b=>λh he=>aZ he λt σ1 _ he=>by
  have h:=and_eq_true_iff.mp (show (qK a&&qK b)=true from h);cases t with
  | true=>exact BX a h.1 he
  | false=>exact BX b h.2 he
 | .ret _=>λh _=>Bool.noConfusion h
 | .assign2 _ _ _=>λh _=>Bool.noConfusion h
 | .aug _ _ _ _=>λh _=>Bool.noConfusion h
 | .ifNone _ _ _=>λh _=>Bool.noConfusion h
 | .whil _ _ _=>λh _=>Bool.noConfusion h
 | .fore _ _ _=>λh _=>Bool.noConfusion h
 | .brk=>λh _=>Bool.noConfusion h
 | .cont=>λh _=>Bool.noConfusion h
 | .pass=>λh _=>Bool.noConfusion h
 | .del _ _=>λh _=>Bool.noConfusion h
 | .tryPlain _=>λh _=>Bool.noConfusion h
 | .tryNext _ _ _=>λh _=>Bool.noConfusion h
 | .freeze _=>λh _=>Bool.noConfusion h
theorem BX {X:aU}{W:Nat}:∀(xs:List S) {ρ ρ':Loc} {σ σ':Store} {fl:Fl},qK xs=true->exs X W xs ρ σ=some (fl,ρ',σ')->fl=.next
 | [],ρ,ρ',σ,σ',fl,h,he=>sm3 he λq _ _=>q.symm
 | x::xs,ρ,ρ',σ,σ',fl,h,he=>by
  have h:=and_eq_true_iff.mp (show (N7 x&&qK xs)=true from h);rcases WR he with ⟨gC,σ1,h1,h2⟩|⟨h1,hne⟩
  ·exact BX xs h.2 h2
  ·exact qgM x h.1 h1
end
theorem qaQ {P:gY}{n f:Nat}{fn:Fn}{l:List D}{σ σ':Store}{d:D}(hf:P.fns f=some fn)(hn:qK fn.body=true)(h:bD P n f l σ=some (d,σ')):d=.none:=by
 cases n with
 | zero=>exact bO h
 | succ n =>
  refine aJ h λfn2 hf2 h=>aJ h λρ hb h=>iQ h λfl gC σ1 e h=>?_;cases hf2.symm.trans hf;cases BX _ hn e;exact eG h λq _=>q.symm
end Internal
end
section
open PySem PySem.W PyProof.Rows PySem.SeqAt
namespace Internal
theorem qj7 {C:SC}{o1 i1 o2 i2 v1 v2:Expr}{p1 p2 p q:Pos}{x y:Nat}(hv:([v1,v2].any fun|.Starred ..=>true|_=>false)=false):∀env:Env,env.scope.names=C.names->env.scope.kind=.function->swappedStores [.Tuple [.Subscript o1 i1 p1,.Subscript o2 i2 p2] x p] (.Tuple [v1,v2] y q) env=pure none:=by
 intro env _ hk;show (if (false||env.blockKind != .function)=true then pure none else if ([v1,v2].any fun|.Starred ..=>true|_=>false)=true then pure none else pure none)=(pure none:Sem (Option (List Str)));rw[hv];split <;> rfl
section
variable {c:bJ}{n:Nat}{C:SC}
theorem qjq {F:aU}{i:Nat}{xs:List E}{es:List Expr}{id:Str}{np pos:Pos}(B0:Base c)(FO:mH c n F.F)(SL:jT c n C es (evs F xs))(hns:j4 es=true)(hs:C.slots.lookup i=some id)(hk:C.names.lookup id=some .local\/C.names.lookup id=some .cell)(hd:(id==("__debug__":Str))=false) :
  bL c n C (.Call (.Name id np) es [] pos) (ev F (.callv (.var i) xs)) :=
 λA Z lk s ads ρ σ env d σ' hf hA R V=>aZ hf λd0 lB h0 hf=>aJ h0 λd1 h1 h0=>eG h0 λe1 e2=>aZ hf λl σ1 h2 hf=>aJ hf λf h3 h4 Q E k=>by
  subst e1;subst e2;rw[show d1=_ from qcQ h3]at h1;refine wpAny_Call_NameR (wpAny_Name (HJ V hs hk (zG h1) rfl λv r=>?_) hd);refine aF r λfa hfa hv=>?_;subst hv;exact xR B0 R (B0.fnK f fa hfa) hns (SL A Z lk s ads ρ σ env l σ1 pos h2 hA R V _ _ λvs s1 aN x1 R1 r1 =>
   ⟨λa o e=>R1.keep a o (B0.K a o e),wpAny_call (FO f l σ1 d σ' h4 fa hfa A Z lk s1 aN vs C.fr hA.toF (V.ext x1).frs (V.ext x1).frn R1 r1 _ λv s2 bT x2 R2 r2=>k v s2 bT (x1.trans x2) R2 r2)⟩)
end
end Internal
end
section
open PySem PySem.W PyProof.Rows
namespace Internal
namespace P05
noncomputable def bad:Stmt:=.Pass ⟨0,0,0,0⟩
noncomputable def stm (p:Program)(i:Nat):Stmt:=p.main.body.getD i bad
noncomputable def inC (s:Stmt)(j:Nat):Stmt:=match s with
 | .ClassDef _ _ _ b _ _ _ _ _ _ _=>b.getD j bad
 | _=>bad
noncomputable def fO (s:Stmt)(q:Str)(df md:Value)(code:Addr):Obj:=match s with
 | .FunctionDef n a b _ _ _ sc _ _ _=>{cls:=.type "function",data:=.func {name:=n,qualname:=q,params:=a,body:=.stmts b,scope:=sc,globals:=3,closure:=[],defaults:=df,kwdefaults:=.none,pyModule:=md,code:=.ref code}}
 | _=>{cls:=.none}
noncomputable def cO (n q file:Str)(t line na fl r u:Nat)(m:Bool):Obj:={cls:=.type "code",data:=.fields #[.str n t,.str q (t+1),.str file (t+2),.int line 0,.int na 0,.int 0 0,.int 0 0,.int fl 0,.ref r,.bool true,.int 181 0,.ref (r+1),.none,
 bif m then .ref (r+2) else .none,bif m then .ref (r+3) else .none,.ref (bif m then r+4 else r+2),.int u 0,.int line 0,.str file (u+1)]}
noncomputable def dE (P:Params)(e:Str×Nat×Value):DictEntry:=⟨PyData.keyHash P e.1,.str e.1 e.2.1,e.2.2⟩
noncomputable def dO (P:Params)(es:List (Str×Nat×Value))(n:Nat):Obj:={cls:=.type "dict",data:=.dict (es.map (dE P)).toArray n}
noncomputable def mdS:Value:=.str "cpy313.statistics" 194
noncomputable def BR:Value:=.str "cpy313.graphlib" 230
noncomputable def mdL:Value:=.str "law_dn0070_05" 412
noncomputable def file:Str:="/claim/cut.py"
noncomputable def g3a:List (Str×Nat×Value):=[("__name__",165,mdL),("__doc__",166,.none),("__package__",167,.none),("__loader__",168,.builtin "__main__.__loader__#opaque"),("__spec__",169,.none),("__annotations__",170,.ref 6),("__builtins__",171,.ref 4),("__file__",173,.str file 172),("__cached__",174,.none)]
noncomputable def g3b:List (Str×Nat×Value):=[("_wall",193,.ref 21),("StatisticsError",213,.ref 31),("median_low",221,.ref 41),("median_high",229,.ref 48),("_NODE_OUT",234,.int (-1) 233),("_NODE_DONE",237,.int (-2) 236),("_NodeInfo",274,.ref 67),("CycleError",292,.ref 82)]
noncomputable def g3c:List (Str×Nat×Value):=[("TopologicalSorter",411,.ref 164),("_law_orders",419,.ref 173),("_law_can_be_done",425,.ref 178),("_law_better",431,.ref 183),("law",437,.ref 188)]
noncomputable def g3:List (Str×Nat×Value):=g3a++(g3b++g3c)
noncomputable def k41 (p:Program):Frag:=[(40,cO "median_low" "median_low" file 214 7 1 3 35 219 true),(41,fO (stm p 3) "median_low" .none mdS 40),
 (47,cO "median_high" "median_high" file 222 16 1 3 42 227 true),(48,fO (stm p 4) "median_high" .none mdS 47)]
noncomputable def k62 (p:Program):Frag:=[(62,cO "__init__" "_NodeInfo.__init__" file 254 28 2 3 57 259 true),(63,fO (inC (stm p 8) 1) "_NodeInfo.__init__" .none BR 62)]
noncomputable def d66:List (Str×Nat×Value):=[("__module__",245,BR),("__firstlineno__",249,.int 25 248),("__slots__",253,.ref 56),("__init__",261,.ref 63),("__static_attributes__",265,.ref 64),("node",267,.ref 68),("npredecessors",269,.ref 69),("successors",271,.ref 70),("__doc__",272,.none)]
noncomputable def k67:Frag:=[(67,{cls:=.type "type",data:=.cls {name:="_NodeInfo",bases:=[.type "object"],mro:=[.ref 67,.type "object"],ns:=66,qualname:="_NodeInfo",hasDict:=false,slotNames:=["node", "npredecessors", "successors"]},slots:=#[none,none,some (.str "_NodeInfo" 238),some (.str "_NodeInfo" 246),some (.builtin "object.__new__"),some (.bool false)]})]
noncomputable def sO (n:Str)(t:Nat)(i:Int):Obj:={cls:=.type "member_descriptor",data:=.fields #[.str n t,.ref 67,.builtin "proto.slot",.builtin "proto.slot#set",.int i 0]}
noncomputable def k68:Frag:=[(68,sO "node" 266 2),(69,sO "npredecessors" 268 1),(70,sO "successors" 270 0),(93,{cls:=.type "tuple",data:=.seq #[.none]})]
noncomputable def mO (n q:Str)(p:Program)(i t line na fl r u:Nat)(m:Bool)(df:Value):Frag :=
 [(bif m then r+5 else r+3,cO n q file t line na fl r u m),(bif m then r+6 else r+4,fO (inC (stm p 10) i) q df BR (bif m then r+5 else r+3))]
noncomputable def qfy (p:Program):Frag:=mO "__init__" "TopologicalSorter.__init__" p 0 305 36 2 3 94 312 true (.ref 93)
noncomputable def qfz (p:Program):Frag:=mO "_get_nodeinfo" "TopologicalSorter._get_nodeinfo" p 1 315 45 2 3 101 321 true .none
noncomputable def qfA (p:Program):Frag:=mO "add" "TopologicalSorter.add" p 2 324 50 2 7 108 333 true .none
noncomputable def qfB (p:Program):Frag:=mO "prepare" "TopologicalSorter.prepare" p 3 336 59 1 3 115 339 false .none
noncomputable def qfC (p:Program):Frag:=mO "get_ready" "TopologicalSorter.get_ready" p 4 342 67 1 3 120 349 true .none
noncomputable def qfD (p:Program):Frag:=mO "is_active" "TopologicalSorter.is_active" p 5 352 78 1 3 127 356 true .none
noncomputable def qfE (p:Program):Frag:=mO "done" "TopologicalSorter.done" p 7 366 86 1 7 141 377 true .none
noncomputable def qfF (p:Program):Frag:=mO "_find_cycle" "TopologicalSorter._find_cycle" p 8 380 109 1 3 148 390 true .none
noncomputable def qdr:List (Str×Nat×Value):=[("__module__",300,BR),("__firstlineno__",304,.int 34 303),("__init__",314,.ref 100),("_get_nodeinfo",323,.ref 107),("add",335,.ref 114),("prepare",341,.ref 119),("get_ready",351,.ref 126),("is_active",358,.ref 133)]
noncomputable def qds:List (Str×Nat×Value):=[("__bool__",365,.ref 140),("done",379,.ref 147),("_find_cycle",392,.ref 154),("static_order",399,.ref 161),("__static_attributes__",404,.ref 162),("__dict__",406,.ref 165),("__weakref__",408,.ref 166),("__doc__",409,.none)]
noncomputable def qfG:Frag:=[(164,{cls:=.type "type",data:=.cls {name:="TopologicalSorter",bases:=[.type "object"],mro:=[.ref 164,.type "object"],ns:=163,qualname:="TopologicalSorter" },slots:=#[none,none,some (.str "TopologicalSorter" 293),some (.str "TopologicalSorter" 301),some (.builtin "object.__new__"),some (.bool true)]})]
noncomputable def lO (n:Str)(p:Program)(i t line na r u:Nat)(m:Bool):Frag :=
 [(bif m then r+5 else r+3,cO n n file t line na 3 r u m),(bif m then r+6 else r+4,fO (stm p i) n .none mdL (bif m then r+5 else r+3))]
noncomputable def kL (p:Program):Frag:=lO "_law_orders" p 12 414 141 1 169 417 false++(lO "_law_can_be_done" p 13 420 145 2 174 423 false++(lO "_law_better" p 14 426 159 2 179 429 false++(lO "law" p 15 432 161 1 184 435 false)))
noncomputable def j7:Program:=PySem.Challenge.pw_dn0070_05
noncomputable def K (P:Params):Frag:=(3,dO P g3 22)::(k41 j7++(k62 j7++((66,dO P d66 5)::(k67++(k68++(qfy j7++(qfz j7++(qfA j7++(qfB j7++(qfC j7++(qfD j7++(qfE j7++(qfF j7++((163,dO P (qdr++qds) 4)::(qfG++kL j7)))))))))))))))
noncomputable def at_:List Addr:=[3,40,41,47,48,62,63,66,67,68,69,70,93,99,100,106,107,113,114,118,119,125,126,132,133,146,147,153,154,163,164,172,173,177,178,182,183,187,188]
theorem atK (P:Params):at_=(K P).map (·.1):=by kernel_rfl
end P05
end Internal
end
section
open PySem PySem.W PyProof.Rows
set_option maxRecDepth 100000
namespace Internal
namespace P05
noncomputable def qv:Program:=view j7 [0,2,3,4,6,7,8,9,10,12,13,14,15]
noncomputable def lo:List Str:=["_NodeInfo"]
noncomputable def Xt (s:Shared):Bool:=xlAt qv [] s&&recOk (RowW.records PySem.Challenge.rw_dn0070_05.row.toRowW) s
noncomputable def lhs (w:World):=(openEnds treeTable j7 w 3024).map (λs=>(openSeen qv lo (importedModules j7.main.body) Xt true s,at_.map s.heap.get?))
noncomputable def rhs (w:World):=some (openGood qv lo,(K w.params).map λp=>some p.2)
set_option maxHeartbeats 8000000 in
theorem left (w:World):lhs w=rhs w:=by kernel_rfl
noncomputable def hk:Hook:=kHook K at_ atK
theorem qkc {d:DefRec}{kwd:List (Str×Expr)}(h1:defOf qv PySem.Challenge.rw_dn0070_05.row.name=some (d,kwd))(h2:PySem.Challenge.rw_dn0070_05.row.prog.theDef PySem.Challenge.rw_dn0070_05.row.name=some (d.params,d.body,d.scope))(h3:kwWritten? d.params.kwonlyargs d.params.kw_defaults=some kwd)(walk:WalkO qv lo (XL qv []) hk.says PySem.Challenge.rw_dn0070_05.row.toRowW d kwd λf vs=>call f vs):PySem.Challenge.rw_dn0070_05.Holds:=by
 w_on
 refine holds_law (by kernel_rfl) λsaid=>?_;refine PySem.W.holds_open (q:=qv) (loose:=lo) (Xt:=Xt) (XP:=XL qv []) (Yf:=hk.obs) (Ya:=hk.val) (YP:=hk.says) (N:=3024) left hk.of hk.keeps (λs e=>xl_of s (and_eq_true_iff.mp e).1) XL.keeps h1 h2 h3 (λs e=>recFacts_of (and_eq_true_iff.mp e).2) (by rfl) (by first|assumption|decide +kernel) (by decide +kernel) ⟨rfl,rfl,rfl,rfl,rfl,by decide +kernel⟩ ?hw walk
 case hw=>w_witness2
end P05
end Internal
end
section
open PySem
namespace Internal
namespace SG
noncomputable def f_median_low:Fn:=⟨1,0,false,2,[.assign (.name 0) (.bi .sorted [.var 0]),.assign (.name 1) (.bi .len [.var 0]),.ife (.cmp .Eq (.var 1) (.int 0)) [.bad] [],.ife (.cmp .Eq (.bin .Mod (.var 1) (.int 2)) (.int 1)) [.ret (.idx (.var 0) (.bin .FloorDiv (.var 1) (.int 2)))] [.ret (.idx (.var 0) (.bin .Sub (.bin .FloorDiv (.var 1) (.int 2)) (.int 1)))]]⟩
noncomputable def f_median_high:Fn:=⟨1,0,false,2,[.assign (.name 0) (.bi .sorted [.var 0]),.assign (.name 1) (.bi .len [.var 0]),.ife (.cmp .Eq (.var 1) (.int 0)) [.bad] [],.ret (.idx (.var 0) (.bin .FloorDiv (.var 1) (.int 2)))]⟩
noncomputable def f_init_NodeInfo:Fn:=⟨2,0,false,2,[.assign (.attr (.var 0) 4) (.var 1),.assign (.attr (.var 0) 5) (.int 0),.assign (.attr (.var 0) 6) (.list true [])]⟩
noncomputable def f_init_TopologicalSorter:Fn:=⟨2,1,false,4,[.assign (.attr (.var 0) 0) (.dict0),.assign (.attr (.var 0) 1) (E.none),.assign (.attr (.var 0) 2) (.int 0),.assign (.attr (.var 0) 3) (.int 0),.ife (.cmp .IsNot (.var 1) (E.none)) [.bad] []]⟩
noncomputable def f_get_nodeinfo:Fn:=⟨2,0,false,3,[.ifNone 2 (.bmeth (.attr (.var 0) 0) .get [.var 1]) [.assign2 (.sub (.attr (.var 0) 0) (.var 1)) (.name 2) (.new 1 [.var 1])],.ret (.var 2)]⟩
noncomputable def f_add:Fn:=⟨2,0,true,6,[.ife (.cmp .IsNot (.attr (.var 0) 1) (E.none)) [.bad] [],.assign (.name 3) (.umeth (.var 0) 3 [.var 1]),.aug (.var 3) 5 .Add (.bi .len [.var 2]),.fore (.name 4) (.var 2) [.assign (.name 5) (.umeth (.var 0) 3 [.var 4]),.expr (.bmeth (.attr (.var 5) 6) .append [.var 1])]]⟩
noncomputable def f_prepare:Fn:=⟨1,0,false,3,[.ife (.cmp .IsNot (.attr (.var 0) 1) (E.none)) [.bad] [],.assign (.attr (.var 0) 1) (.comp true (.attr (.var 2) 4) [.mk [2] false (.vals (.attr (.var 0) 0)) [.cmp .Eq (.attr (.var 2) 5) (.int 0)]]),.assign (.name 1) (.umeth (.var 0) 9 []),.ife (.var 1) [.bad] []]⟩
noncomputable def f_get_ready:Fn:=⟨1,0,false,4,[.ife (.cmp .Is (.attr (.var 0) 1) (E.none)) [.bad] [],.assign (.name 1) (.bi .tuple [.attr (.var 0) 1]),.assign (.name 2) (.attr (.var 0) 0),.fore (.name 3) (.var 1) [.assign (.attr (.idx (.var 2) (.var 3)) 5) (.glob 0)],.expr (.bmeth (.attr (.var 0) 1) .clear []),.aug (.var 0) 2 .Add (.bi .len [.var 1]),.ret (.var 1)]⟩
noncomputable def J1:Fn:=⟨1,0,false,1,[.ife (.cmp .Is (.attr (.var 0) 1) (E.none)) [.bad] [],.ret (.or (.cmp .Lt (.attr (.var 0) 3) (.attr (.var 0) 2)) (.bi .bool [.attr (.var 0) 1]))]⟩
noncomputable def f_done:Fn:=⟨1,0,true,8,[.ife (.cmp .Is (.attr (.var 0) 1) (E.none)) [.bad] [],.assign (.name 2) (.attr (.var 0) 0),.fore (.name 3) (.var 1) [.ifNone 4 (.bmeth (.var 2) .get [.var 3]) [.bad],.assign (.name 5) (.attr (.var 4) 5),.ife (.cmp .NotEq (.var 5) (.glob 0)) [.ife (.cmp .GtE (.var 5) (.int 0)) [.bad] [.ife (.cmp .Eq (.var 5) (.glob 1)) [.bad] [.bad]]] [],.assign (.attr (.var 4) 5) (.glob 1),.fore (.name 6) (.attr (.var 4) 6) [.assign (.name 7) (.idx (.var 2) (.var 6)),.aug (.var 7) 5 .Sub (.int 1),.ife (.cmp .Eq (.attr (.var 7) 5) (.int 0)) [.expr (.bmeth (.attr (.var 0) 1) .append [.var 6])] []],.aug (.var 0) 3 .Add (.int 1)]]⟩
noncomputable def f_find_cycle:Fn:=⟨1,0,false,7,[.assign (.name 1) (.attr (.var 0) 0),.assign (.name 2) (.list true []),.assign (.name 3) (.list true []),.assign (.name 4) (.bi .set []),.assign (.name 5) (.dict0),.fore (.name 6) (.var 1) [.ife (.cmp .In (.var 6) (.var 4)) [.cont] [],.whil (.bool true) [.ife (.cmp .In (.var 6) (.var 4)) [.ife (.cmp .In (.var 6) (.var 5)) [.bad] []] [.expr (.bmeth (.var 4) .add [.var 6]),.expr (.bmeth (.var 3) .append [.nextOf (.bi .iter [.attr (.idx (.var 1) (.var 6)) 6])]),.assign (.sub (.var 5) (.var 6)) (.bi .len [.var 2]),.expr (.bmeth (.var 2) .append [.var 6])],.whil (.var 2) [.tryNext 6 (.idx (.var 3) (.neg (.int 1))) [.del (.var 5) (.bmeth (.var 2) .pop []),.expr (.bmeth (.var 3) .pop [])]] [.brk]] []],.ret (E.none)]⟩
end SG
end Internal
end
section
open PySem
namespace Internal
namespace P05
open SG
noncomputable def J2:Fn:=⟨1,0,false,4,[.ife (.cmp .Eq (.var 0) (.list false [])) [.ret (.list false [.list false []])] [],.ret (.comp false (.bin .Add (.list false [.var 1]) (.var 3)) [.mk [1] false (.e (.var 0)) [],.mk [3] false (.e (.call 20 [.comp false (.var 2) [.mk [2] false (.e (.var 0)) [.cmp .NotEq (.var 2) (.var 1)]]])) []])]⟩
noncomputable def yV:Fn:=⟨2,0,false,10,[.assign (.name 2) (.new 0 []),.fore (.name 3) (.bi .range [.bi .len [.var 0]]) [.expr (.umeth (.var 2) 4 [.var 3,.star (.idx (.var 0) (.var 3))])],.expr (.umeth (.var 2) 5 []),.assign (.name 4) (.var 1),.assign (.name 5) (.bi .list [.umeth (.var 2) 6 []]),.assign (.name 6) (.comp false (.var 7) [.mk [7] false (.e (.var 5)) [.cmp .In (.var 7) (.var 4)]]),.whil (.cmp .NotEq (.var 6) (.list false [])) [.expr (.umeth (.var 2) 8 [.star (.var 6)]),.assign (.name 4) (.comp false (.var 8) [.mk [8] false (.e (.var 4)) [.cmp .NotIn (.var 8) (.var 6)]]),.expr (.bmeth (.var 5) .extend [.umeth (.var 2) 6 []]),.assign (.name 6) (.comp false (.var 9) [.mk [9] false (.e (.var 5)) [.cmp .In (.var 9) (.var 4)]])] [],.ret (.cmp .Eq (.var 4) (.list false []))]⟩
noncomputable def yU:Fn:=⟨2,0,false,3,[.ret (.and (.cmp .NotEq (.var 0) (.var 1)) (.cmp .Eq (.comp false (.var 2) [.mk [2] false (.e (.bi .range [.int 4])) [.cmp .Gt (.idx (.var 0) (.var 2)) (.idx (.var 1) (.var 2))]]) (.list false [])))]⟩
noncomputable def rJ:Fn:=⟨1,0,false,59,[.assign (.name 1) (.comp false (.comp true (.bin .BitXor (.var 30) (.var 31)) [.mk [31] false (.e (.bi .range [.int 4])) []]) [.mk [30] false (.e (.bi .range [.int 4])) []]),.assign (.name 2) (.comp false (.comp true (.bin .BitXor (.bin .BitXor (.var 32) (.int 3)) (.var 33)) [.mk [33] false (.e (.bi .range [.int 4])) []]) [.mk [32] false (.e (.bi .range [.int 4])) []]),.fore (.name 3) (.slice (.var 0) .none (some (.int 4))) [.assign (.tup [(.name 4),(.name 5)]) (.bi .divmod [.ite (.cmp .GtE (.var 3) (.int 0)) (.bin .Mult (.int 2) (.var 3)) (.bin .Sub (.bin .Mult (.neg (.int 2)) (.var 3)) (.int 1)),.int 8]),.assign (.name 6) (.idx (.bin .Add (.var 1) (.var 2)) (.var 5)),.assign (.name 7) (.bin .Mod (.var 4) (.int 3)),.assign (.tup [(.sub (.var 6) (.var 7)),(.sub (.var 6) (.bin .Add (.var 7) (.int 1)))]) (.tup [.idx (.var 6) (.bin .Add (.var 7) (.int 1)),.idx (.var 6) (.var 7)])],.assign (.name 8) (.list true []),.assign (.name 9) (.list true []),.fore (.name 10) (.call 20 [.list false [.int 0,.int 1,.int 2,.int 3]]) [.assign (.name 11) (.comp false (.bmeth (.idx (.var 1) (.var 34)) .index [.idx (.var 10) (.var 34)]) [.mk [34] false (.e (.bi .range [.int 4])) []]),.assign (.name 12) (.comp false (.bmeth (.idx (.var 2) (.var 35)) .index [.bmeth (.var 10) .index [.var 35]]) [.mk [35] false (.e (.bi .range [.int 4])) []]),.ife (.cmp .Eq (.comp false (.var 36) [.mk [36] false (.e (.bi .range [.int 4])) [],.mk [37] false (.e (.slice (.idx (.var 1) (.var 36)) .none (some (.idx (.var 11) (.var 36))))) [.cmp .Lt (.bmeth (.idx (.var 2) (.var 37)) .index [.var 36]) (.idx (.var 12) (.var 37))]]) (.list false [])) [.expr (.bmeth (.var 8) .append [.var 10]),.expr (.bmeth (.var 9) .append [.var 11])] []],.freeze 8,.freeze 9,.assign (.name 13) (.list true []),.fore (.name 14) (.var 9) [.fore (.name 15) (.var 9) [.ife (.and (.call 27 [.var 14,.var 15]) (.cmp .Eq (.comp false (.var 38) [.mk [38] false (.e (.var 9)) [.and (.call 27 [.var 14,.var 38]) (.call 27 [.var 38,.var 15])]]) (.list false []))) [.assign (.name 16) (.comp false (.tup [.var 39,.idx (.var 14) (.var 39)]) [.mk [39] false (.e (.bi .range [.int 4])) [.cmp .NotEq (.idx (.var 14) (.var 39)) (.idx (.var 15) (.var 39))]]),.ife (.cmp .NotIn (.var 16) (.var 13)) [.expr (.bmeth (.var 13) .append [.var 16])] []] []]],.freeze 13,.assign (.name 17) (.bi .range [.bi .len [.var 13]]),.assign (.name 18) (.comp false (.comp false (.var 41) [.mk [41] false (.e (.var 17)) [.cmp .Gt (.idx (.var 40) (.idx (.idx (.idx (.var 13) (.var 41)) (.int 0)) (.int 0))) (.idx (.idx (.idx (.var 13) (.var 41)) (.int 0)) (.int 1))]]) [.mk [40] false (.e (.var 9)) []]),.assign (.name 19) (.list true []),.assign (.name 20) (.list false [.list false []]),.fore (.name 7) (.var 17) [.expr (.bmeth (.var 19) .append [.comp false (.var 42) [.mk [42] false (.e (.var 17)) [.and (.cmp .NotEq (.var 42) (.var 7)) (.cmp .Eq (.comp false (.var 43) [.mk [43] false (.e (.var 18)) [.and (.cmp .In (.var 7) (.var 43)) (.cmp .NotIn (.var 42) (.var 43))]]) (.list false []))]]]),.assign (.name 20) (.bin .Add (.var 20) (.comp false (.bin .Add (.var 44) (.list false [.var 7])) [.mk [44] false (.e (.var 20)) []]))],.freeze 19,.ife (.cmp .NotEq (.bi .sorted [.comp false (.var 45) [.mk [45] false (.e (.var 20)) [.call 26 [.var 19,.var 45]]]]) (.bi .sorted [.var 18])) [.ret (.bool false)] [],.assign (.name 21) (.comp false (.bin .Mod (.var 46) (.bi .len [.var 8])) [.mk [46] false (.e (.bin .Add (.var 0) (.list false [.int 1,.int 3,.int 7]))) []]),.fore (.tup [(.name 22),(.name 23),(.name 24)]) (.tup [.tup [.glob 2,.glob 3,.int 1],.tup [.glob 3,.glob 2,.int 0]]) [.assign (.name 25) (.comp false (.var 47) [.mk [47] false (.e (.var 17)) [.cmp .GtE (.bin .Mult (.int 2) (.bi .sum [.comp false (.bmeth (.idx (.var 18) (.var 48)) .count [.var 47]) [.mk [48] false (.e (.var 21)) []]])) (.bin .Add (.bi .len [.var 21]) (.var 24))]]),.assign (.name 26) (.comp false (.var 49) [.mk [49] false (.e (.var 17)) [.cmp .Eq (.callv (.var 22) [.comp false (.bmeth (.idx (.var 18) (.var 50)) .count [.var 49]) [.mk [50] false (.e (.var 21)) []]]) (.int 1)]]),.assign (.name 27) (.comp false (.idx (.idx (.var 1) (.var 51)) (.bin .FloorDiv (.bin .Add (.callv (.var 22) [.comp false (.bin .Sub (.bin .Mult (.int 7) (.idx (.idx (.var 9) (.var 52)) (.var 51))) (.int 11)) [.mk [52] false (.e (.var 21)) []]]) (.int 11)) (.int 7))) [.mk [51] false (.e (.bi .range [.int 4])) []]),.ife (.or (.cmp .NotEq (.var 26) (.var 25)) (.cmp .NotEq (.var 27) (.idx (.var 8) (.bmeth (.var 18) .index [.var 25])))) [.ret (.bool false)] [],.assign (.name 28) (.comp false (.comp false (.bin .Sub (.bin .Mult (.int 7) (.bmeth (.idx (.var 2) (.var 53)) .index [.bmeth (.idx (.var 8) (.var 54)) .index [.var 53]])) (.int 11)) [.mk [54] false (.e (.var 21)) []]) [.mk [53] false (.e (.bi .range [.int 4])) []]),.assign (.name 29) (.comp false (.idx (.idx (.var 2) (.var 55)) (.bin .FloorDiv (.bin .Add (.callv (.var 23) [.idx (.var 28) (.var 55)]) (.int 11)) (.int 7))) [.mk [55] false (.e (.bi .range [.int 4])) []]),.ife (.cmp .NotEq (.comp false (.bmeth (.var 27) .index [.var 56]) [.mk [56] false (.e (.bi .range [.int 4])) []]) (.var 29)) [.ret (.bool false)] [],.ife (.cmp .NotEq (.var 28) (.comp false (.comp false (.bin .Sub (.bin .Mult (.int 7) (.bmeth (.idx (.var 2) (.var 57)) .index [.bmeth (.idx (.var 8) (.var 58)) .index [.var 57]])) (.int 11)) [.mk [58] false (.e (.var 21)) []]) [.mk [57] false (.e (.bi .range [.int 4])) []])) [.ret (.bool false)] []],.ret (.bool true)]⟩
noncomputable def qev:List (Nat×Fn):=[(0,f_median_low),(1,f_median_high),(3,f_get_nodeinfo),(4,f_add),(5,f_prepare),(6,f_get_ready),(7,J1),(8,f_done),(9,f_find_cycle),(20,J2),(26,yV),(27,yU),(40,rJ),(1000,f_init_TopologicalSorter),(1001,f_init_NodeInfo)]
noncomputable def fns (k:Nat):Option Fn:=qev.lookup k
noncomputable def globs (k:Nat):Option D:=[(0,D.int (-1)),(1,D.int (-2)),(2,D.fn 0),(3,D.fn 1)].lookup k
noncomputable def P:gY:=⟨fns,globs,1000⟩
end P05
end Internal
end
section
open PySem PySem.W PyProof.Rows PySem.SeqAt PySem.MeetsSeq
set_option maxRecDepth 100000
namespace Internal
namespace P05
noncomputable def J5:List (Nat×Addr):=[(0,41),(1,48),(3,107),(4,114),(5,119),(6,126),(7,133),(8,147),(9,154),(20,173),(26,178),(27,183),(40,188),(1000,100),(1001,63)]
noncomputable def fv (k:Nat):Option Addr:=J5.lookup k
noncomputable def ca:Nat->Addr
 | 0=>164
 | _=>67
noncomputable def an:Nat->Str
 | 0=>"_node2info"
 | 1=>"_ready_nodes"
 | 2=>"_npassedout"
 | 3=>"_nfinished"
 | 4=>"node"
 | 5=>"npredecessors"
 | 6=>"successors"
 | _=>""
noncomputable def X:Txt:=⟨fv,ca,an⟩
noncomputable def qdM (K:Frag)(a:Addr):Array DictEntry:=match K.lookup a with
 | some o=>(match o.data with
  | .dict es _=>es
  | _=>#[])
 | none=>#[]
noncomputable def gl (P:Params)(x:Str):Option Value:=nsFind (qdM (K P) 3) x
noncomputable abbrev cc (w:World)(h:Heap):bJ:=⟨PySem.Challenge.rw_dn0070_05.row.prog,w,h,X,gl w.params,K w.params⟩
section
variable {w:World}{h:Heap}
theorem XD (KX:(K w.params).In h):h.Ns mainGlobals (gl w.params):=by
 refine⟨_,_,_,KX 3 _ rfl,rfl,?_,λ_=>rfl⟩;intro e he;have he':e∈g3.map (dE w.params):=mem_toArray.mp he;obtain⟨x,_,rfl⟩:=mem_map.mp he';exact⟨_,_,rfl⟩
theorem base (KX:(K w.params).In h)(hb:∃mb,h.Ns builtinsNs mb/\∀x:Str,x≠"__name__"->mb x=bootBuiltins x) (hn:h.NoLimit) (hm:Heap.Has h sysModules):Base (cc w h) where
 g:=XD KX
 b:=hb
 nolimit:=hn
 mods:=hm
 K:=KX
 fnK:=qam (l:=J5) (dG rfl (dG rfl (dG rfl (dG rfl (dG rfl (dG rfl (dG rfl (dG rfl (dG rfl (dG rfl (dG rfl (dG rfl (dG rfl (dG rfl (dG rfl RP)))))))))))))))
 clK:=λi hi=>by
  match i,hi with
  | 0,_=>rfl
  | 1,_=>rfl
theorem cls:mF (cc w h) where
 inj:=by
  intro a b ha hb e;have:∀a<7,∀b<7,an a=an b->a=b:=by decide
  exact this a ha b hb e
 get:=λi hi=>by match i,hi with
  | 0,_=>rfl
  | 1,_=>rfl
 set:=λi hi=>by match i,hi with
  | 0,_=>exact⟨rfl,rfl⟩
  | 1,_=>exact⟨rfl,rfl⟩
 hd:=rfl
 isC:=rfl
 at0:=λa ha=>by match a,ha with
  | 0,_=>rfl
  | 1,_=>rfl
  | 2,_=>rfl
  | 3,_=>rfl
 slot:=λi hi=>by match i,hi with
  | 0,_=>exact⟨_,rfl,rfl,rfl,rfl,rfl⟩
  | 1,_=>exact⟨_,rfl,rfl,rfl,rfl,rfl⟩
  | 2,_=>exact⟨_,rfl,rfl,rfl,rfl,rfl⟩
 make:=λi hi=>by match i,hi with
  | 0,_=>exact⟨rfl,_,rfl,rfl,rfl⟩
  | 1,_=>exact⟨rfl,_,rfl,rfl,rfl⟩
theorem uA (nm:Str)(h:(List.range 4).all (λa=>an a != nm)=true):∀a,a<4->an a≠nm:=λa ha q=>by
 have:=all_eq_true.mp h a (mem_range.mpr ha);rw[q]at this;simp at this
theorem m3:pH (cc w h) 3 "_get_nodeinfo" 107:=⟨rfl,rfl,rfl,rfl,rfl,rfl,rfl,uA _ (by decide)⟩
theorem m4:pH (cc w h) 4 "add" 114:=⟨rfl,rfl,rfl,rfl,rfl,rfl,rfl,uA _ (by decide)⟩
theorem m5:pH (cc w h) 5 "prepare" 119:=⟨rfl,rfl,rfl,rfl,rfl,rfl,rfl,uA _ (by decide)⟩
theorem m6:pH (cc w h) 6 "get_ready" 126:=⟨rfl,rfl,rfl,rfl,rfl,rfl,rfl,uA _ (by decide)⟩
theorem m8:pH (cc w h) 8 "done" 147:=⟨rfl,rfl,rfl,rfl,rfl,rfl,rfl,uA _ (by decide)⟩
theorem m9:pH (cc w h) 9 "_find_cycle" 154:=⟨rfl,rfl,rfl,rfl,rfl,rfl,rfl,uA _ (by decide)⟩
end
end P05
end Internal
end
section
open PySem PySem.W PyProof.Rows PySem.SeqAt PySem.MeetsSeq
set_option maxRecDepth 100000
namespace Internal
theorem qfp {c:bJ}:∀(A:Around) Z lk s ads σ i j iv jv r,c.R Z lk s.heap ads σ->binOp .Add (.int i) (.int j)=some r->c.P Z ads σ s.heap (.int i) iv->c.P Z ads σ s.heap (.int j) jv->Yields c A (inplaceOp .Add iv jv) Z lk s ads σ r σ:=λA Z lk s ads σ i j iv jv r R h a b=>qfo A Z lk s ads σ i j iv jv r R h a b
theorem qfr {c:bJ}:∀(A:Around) Z lk s ads σ i j iv jv r,c.R Z lk s.heap ads σ->binOp .Sub (.int i) (.int j)=some r->c.P Z ads σ s.heap (.int i) iv->c.P Z ads σ s.heap (.int j) jv->Yields c A (inplaceOp .Sub iv jv) Z lk s ads σ r σ:=λA Z lk s ads σ i j iv jv r R h a b=>qfq A Z lk s ads σ i j iv jv r R h a b
namespace P05
open SG
noncomputable def WX:FuncData:=PySem.Calls.docDef "" {posonlyargs:=[],args:=[],vararg:=none,kwonlyargs:=[],kw_defaults:=[],kwarg:=none,defaults:=[]} [] {kind:=.function,names:=[],isGenerator:=false,isCoroutine:=false} .none .none .none
noncomputable def bA (K:Frag)(a:Addr):FuncData:=match K.lookup a with
 | some o=>(match o.data with
  | .func fd=>fd
  | _=>WX)
 | none=>WX
noncomputable def dC (fd:FuncData):List Stmt:=match fd.body with
 | .stmts b=>b
 | _=>[]
theorem qfm (n i:Nat)(hi:i<2)(l:List D)(σ:Store)(d:D)(σ':Store)(h:bD P n (1000+i) l σ=some (d,σ')):d=.none:=by
 match i,hi with
 | 0,_=>exact qaQ (f:=1000) (fn:=f_init_TopologicalSorter) rfl rfl h
 | 1,_=>exact qaQ (f:=1001) (fn:=f_init_NodeInfo) rfl rfl h
end P05
end Internal
end
section
open PySem PySem.W PyProof.Rows PySem.SeqAt PySem.MeetsSeq
set_option maxRecDepth 100000
namespace Internal
namespace P05
open SG
section
variable {w:World}{h:Heap}
noncomputable def Q3:List (Nat×Str):=[(0, "data"),(1, "n")]
noncomputable def Q4:List (Nat×Str):=[(0, "data"),(1, "n")]
noncomputable def QB:List (Nat×Str):=[(0, "self"),(1, "node"),(2, "result")]
noncomputable def QC:List (Nat×Str):=[(0, "self"),(1, "node"),(2, "predecessors"),(3, "nodeinfo"),(4, "pred"),(5, "pred_info")]
noncomputable def QF:List (Nat×Str):=[(0, "self"),(1, "cycle")]
noncomputable def QG:List (Nat×Str):=[(0, "self"),(1, "result"),(2, "n2i"),(3, "node")]
noncomputable def QH:List (Nat×Str):=[(0, "self")]
noncomputable def QJ:List (Nat×Str):=[(0, "self"),(1, "nodes"),(2, "n2i"),(3, "node"),(4, "nodeinfo"),(5, "stat"),(6, "successor"),(7, "successor_info")]
noncomputable def QK:List (Nat×Str):=[(0, "self"),(1, "n2i"),(2, "stack"),(3, "itstack"),(4, "seen"),(5, "node2stacki"),(6, "node")]
noncomputable def Q7:List (Nat×Str):=[(0, "row")]
noncomputable def Q8:List (Nat×Str):=[(0, "needs"),(1, "chosen"),(2, "sorter"),(3, "one"),(4, "left"),(5, "waiting"),(6, "now")]
noncomputable def Q9:List (Nat×Str):=[(0, "p"),(1, "q")]
noncomputable def QD:List (Nat×Str):=[(0, "script"),(1, "guests"),(2, "hosts"),(3, "x"),(4, "rest"),(5, "who"),(6, "row"),(7, "k"),(8, "ways"),(9, "seats"),(10, "way"),(11, "seat"),(12, "held"),(13, "rings"),(14, "p"),(15, "q"),(16, "ring"),(17, "every"),(18, "gone"),(19, "needs"),(20, "sets"),(21, "hands"),(22, "middle"),(23, "other"),(24, "more"),(25, "due"),(26, "voted"),(27, "told"),(28, "liked"),(29, "back")]
noncomputable def Q5:List (Nat×Str):=[(0, "self"),(1, "graph"),(2, "node"),(3, "predecessors")]
noncomputable def Q6:List (Nat×Str):=[(0, "self"),(1, "node")]
set_option maxHeartbeats 0 in
theorem jP (B0:Base (cc w h))(n:Nat)(fr:List Env)(ih:mH (cc w h) n (bD P n)):(dJ (cc w h) n ⟨(bA (K w.params) 41).scope.names,Q3,fr,false⟩ (dC (bA (K w.params) 41)) (exs ⟨P.globs,bD P n⟩ P.W f_median_low.body))/\(dJ (cc w h) n ⟨(bA (K w.params) 48).scope.names,Q4,fr,false⟩ (dC (bA (K w.params) 48)) (exs ⟨P.globs,bD P n⟩ P.W f_median_high.body))/\(dJ (cc w h) n ⟨(bA (K w.params) 107).scope.names,QB,fr,false⟩ (dC (bA (K w.params) 107)) (exs ⟨P.globs,bD P n⟩ P.W f_get_nodeinfo.body))/\(dJ (cc w h) n ⟨(bA (K w.params) 114).scope.names,QC,fr,false⟩ (dC (bA (K w.params) 114)) (exs ⟨P.globs,bD P n⟩ P.W f_add.body))/\(dJ (cc w h) n ⟨(bA (K w.params) 119).scope.names,QF,fr,false⟩ (dC (bA (K w.params) 119)) (exs ⟨P.globs,bD P n⟩ P.W f_prepare.body))/\(dJ (cc w h) n ⟨(bA (K w.params) 126).scope.names,QG,fr,false⟩ (dC (bA (K w.params) 126)) (exs ⟨P.globs,bD P n⟩ P.W f_get_ready.body))/\(dJ (cc w h) n ⟨(bA (K w.params) 133).scope.names,QH,fr,false⟩ (dC (bA (K w.params) 133)) (exs ⟨P.globs,bD P n⟩ P.W J1.body))/\(dJ (cc w h) n ⟨(bA (K w.params) 147).scope.names,QJ,fr,false⟩ (dC (bA (K w.params) 147)) (exs ⟨P.globs,bD P n⟩ P.W f_done.body))/\(dJ (cc w h) n ⟨(bA (K w.params) 154).scope.names,QK,fr,false⟩ (dC (bA (K w.params) 154)) (exs ⟨P.globs,bD P n⟩ P.W f_find_cycle.body))/\(dJ (cc w h) n ⟨(bA (K w.params) 173).scope.names,Q7,fr,false⟩ (dC (bA (K w.params) 173)) (exs ⟨P.globs,bD P n⟩ P.W J2.body))/\(dJ (cc w h) n ⟨(bA (K w.params) 178).scope.names,Q8,fr,false⟩ (dC (bA (K w.params) 178)) (exs ⟨P.globs,bD P n⟩ P.W yV.body))/\(dJ (cc w h) n ⟨(bA (K w.params) 183).scope.names,Q9,fr,false⟩ (dC (bA (K w.params) 183)) (exs ⟨P.globs,bD P n⟩ P.W yU.body))/\(dJ (cc w h) n ⟨(bA (K w.params) 188).scope.names,QD,fr,false⟩ (dC (bA (K w.params) 188)) (exs ⟨P.globs,bD P n⟩ P.W rJ.body))/\(dJ (cc w h) n ⟨(bA (K w.params) 100).scope.names,Q5,fr,false⟩ (dC (bA (K w.params) 100)) (exs ⟨P.globs,bD P n⟩ P.W f_init_TopologicalSorter.body))/\(dJ (cc w h) n ⟨(bA (K w.params) 63).scope.names,Q6,fr,false⟩ (dC (bA (K w.params) 63)) (exs ⟨P.globs,bD P n⟩ P.W f_init_NodeInfo.body)):=by
 have hF:fB (bD P n):=qan P n;have CO:=cls (w:=w) (h:=h);have FN:=qfm n;refine⟨?_,?_,?_,?_,?_,?_,?_,?_,?_,?_,?_,?_,?_,?_,?_⟩
 all_goals (first|unfold Q3|unfold Q4|unfold QB|unfold QC|unfold QF|unfold QG|unfold QH|unfold QJ|unfold QK|unfold Q7|unfold Q8|unfold Q9|unfold QD|unfold Q5|unfold Q6)
 all_goals (conv in dC _=>whnf)
 all_goals (conv in(bA _ _).scope.names=>whnf)
 all_goals (conv in(Fn.body _)=>whnf)
 all_goals repeat' (first
    | with_reducible exact qiZ
    | with_reducible exact qiT
    | with_reducible exact qiI
    | with_reducible exact qiV
    | with_reducible exact qi5
    | with_reducible exact qi6
    | with_reducible exact qi7
    | with_reducible exact qkO
    | with_reducible exact qjx
    | with_reducible exact qjD
    | with_reducible exact qjo
    | with_reducible exact qju
    | with_reducible exact lE.nil
    | with_reducible apply qiY
    | with_reducible refine qiX ?_ ?_
    | with_reducible refine qi8 ?_ ?_
    | with_reducible refine qjc ?_
    | with_reducible refine qjb B0 ?_ ?_ ?_
    | with_reducible refine qja ?_ ?_ ?_
    | with_reducible refine qje ?_ ?_ ?_
    | with_reducible refine qi9 B0 hF ?_ ?_ ?_ ?_
    | with_reducible refine qjd B0 ?_ ?_ ?_ ?_ ?_ ?_ ?_ ?_ ?_
    | with_reducible refine qkP ?_
    | ((with_reducible apply qi3 hF);case hsw=>exact qj6 rfl rfl)
    | with_reducible refine qi0 ?_ ?_ ?_ ?_ ?_
    | with_reducible refine qi1 ?_ ?_ ?_ ?_ ?_
    | with_reducible refine qi4 B0 CO ?_ ?_ ?_ ?_
    | with_reducible refine qiK ?_
    | with_reducible refine qiJ B0 CO ?_ ?_
    | with_reducible refine qiL ?_ ?_
    | with_reducible refine qiM ?_ ?_ ?_
    | with_reducible refine qiN ?_ ?_ ?_ ?_
    | with_reducible apply qjJ
    | with_reducible refine qjg B0 ?_ ?_ ?_
    | with_reducible refine qkQ ?_
    | with_reducible refine qjf ?_ ?_
    | with_reducible refine qjh ?_ ?_
    | with_reducible refine qji ?_ ?_
    | with_reducible refine qjH ?_ ?_ ?_
    | with_reducible refine qiP ?_ ?_ ?_
    | with_reducible refine qiO B0 ?_ ?_ ?_
    | ((with_reducible apply qjv B0);(case hg=>rfl);(case hv=>rfl);(case hr=>first|exact λ_ _ _=>⟨_,rfl⟩|exact λ_ _ _=>⟨_,rfl,rfl⟩))
    | with_reducible refine qjm ?_ ?_
    | with_reducible refine qjA ?_
    | with_reducible refine qkS ?_
    | with_reducible refine qjj ?_ ?_
    | with_reducible refine qjE ?_ ?_
    | with_reducible refine qjy ?_ ?_ ?_
    | with_reducible refine qjr B0 ?_ ?_ ?_
    | with_reducible refine qjz ?_
    | with_reducible refine qjG ?_
    | with_reducible refine qjF ?_ ?_ ?_
    | with_reducible refine qjw ?_ ?_ ?_
    | with_reducible refine qiW ?_
    | with_reducible apply qjp B0 ih
    | with_reducible refine qjq B0 ih ?_ ?_ ?_ ?_ ?_
    | with_reducible refine qjl B0 ?_ ?_ ?_ ?_ ?_ ?_ ?_
    | ((with_reducible refine qjB B0 CO ?lt ih ?fn ?_ ?_ ?_ ?_ ?_);(case lt=>decide);case fn=>exact FN _ (by decide))
    | with_reducible refine qjn B0 ?_ ?_ ?_ ?_ ?_ ?_ ?_
    | with_reducible refine sU B0 CO m3 ih ?_ ?_ ?_ ?_ ?_ ?_
    | ((with_reducible refine sU B0 CO m4 ih ?_ ?_ ?ns ?_ ?_ ?_);case ns=>rfl)
    | with_reducible refine sU B0 CO m5 ih ?_ ?_ ?_ ?_ ?_ ?_
    | with_reducible refine sU B0 CO m6 ih ?_ ?_ ?_ ?_ ?_ ?_
    | with_reducible refine sU B0 CO m7 ih ?_ ?_ ?_ ?_ ?_ ?_
    | ((with_reducible refine sU B0 CO m8 ih ?_ ?_ ?ns ?_ ?_ ?_);case ns=>rfl)
    | with_reducible refine sU B0 CO m9 ih ?_ ?_ ?_ ?_ ?_ ?_
    | with_reducible refine qbA B0 CO m4 ih ?_ ?_ ?_ ?_
    | with_reducible refine qbA B0 CO m8 ih ?_ ?_ ?_ ?_
    | with_reducible refine qjk B0 CO ?_ ?_ ?_
    | with_reducible refine qjC ?_ ?_
    | with_reducible apply qjt hF
    | with_reducible refine qkR hF B0 ?_ ?_ ?_ ?_ ?_ ?_ ?_ ?_ ?_ ?_ ?_ ?_ ?_ ?_ ?_
    | with_reducible apply qeC
    | with_reducible refine qiH ?_ ?_
    | (with_reducible refine qiR B0 ?_ ?_ ?_)
    | with_reducible refine qiQ ?_
    | with_reducible refine qiU ?_ ?_
    | with_reducible refine qiS ?_ ?_ ?_ ?_
    | with_reducible refine qiG ?_
    | with_reducible refine qiF ?_ ?_
    | rfl
    | exact .inl rfl
    | exact .inr rfl
    | decide
    | (intros;rfl)
    | exact qj5 rfl
    | exact qj7 rfl
    | exact qfp
    | exact qfr
    | (intro a b s p;exact⟨(by intro q;injection q),(by intro q;injection q)⟩)
    | (intro a b d s p q;injection q))
end
section
variable {w:World}{h:Heap}
theorem qef (KX:(K w.params).In h)(B0:Base (cc w h)):fU (cc w h) P f_median_low 41 (bA (K w.params) 41) (dC (bA (K w.params) 41)) ["data"] Q3:=by
 refine jJ ⟨_,KX 41 _ rfl,rfl⟩ ?code ?bd ?clo ?co ?gen ?kind ?glob ?bu ?nd ?pn ?pk ?sl ?bind λn fr ih=>(jP B0 n fr ih).1
 case bind =>
  refine lH rfl rfl (by decide) rfl (λvals hv=>?_)
  revert hv;revert vals
  refine vals1 (λv0=>?_)
  conv in bA _ _=>whnf
  rfl
 case code=>exact⟨40,_,_,_,rfl,KX 40 _ rfl,rfl,rfl⟩
 case pn=>rfl
 case sl=>rfl
 case bd=>rfl
 all_goals (conv in bA _ _=>whnf)
 all_goals rfl
theorem qeg (KX:(K w.params).In h)(B0:Base (cc w h)):fU (cc w h) P f_median_high 48 (bA (K w.params) 48) (dC (bA (K w.params) 48)) ["data"] Q4:=by
 refine jJ ⟨_,KX 48 _ rfl,rfl⟩ ?code ?bd ?clo ?co ?gen ?kind ?glob ?bu ?nd ?pn ?pk ?sl ?bind λn fr ih=>(jP B0 n fr ih).2.1
 case bind =>
  refine lH rfl rfl (by decide) rfl (λvals hv=>?_)
  revert hv;revert vals
  refine vals1 (λv0=>?_)
  conv in bA _ _=>whnf
  rfl
 case code=>exact⟨47,_,_,_,rfl,KX 47 _ rfl,rfl,rfl⟩
 case pn=>rfl
 case sl=>rfl
 case bd=>rfl
 all_goals (conv in bA _ _=>whnf)
 all_goals rfl
theorem qem (KX:(K w.params).In h)(B0:Base (cc w h)):fU (cc w h) P f_get_nodeinfo 107 (bA (K w.params) 107) (dC (bA (K w.params) 107)) ["self", "node"] QB:=by
 refine jJ ⟨_,KX 107 _ rfl,rfl⟩ ?code ?bd ?clo ?co ?gen ?kind ?glob ?bu ?nd ?pn ?pk ?sl ?bind λn fr ih=>(jP B0 n fr ih).2.2.1
 case bind =>
  refine lH rfl rfl (by decide) rfl (λvals hv=>?_)
  revert hv;revert vals
  refine vals2 (λv0 v1=>?_)
  conv in bA _ _=>whnf
  rfl
 case code=>exact⟨106,_,_,_,rfl,KX 106 _ rfl,rfl,rfl⟩
 case pn=>rfl
 case sl=>rfl
 case bd=>rfl
 all_goals (conv in bA _ _=>whnf)
 all_goals rfl
theorem qen (KX:(K w.params).In h)(B0:Base (cc w h)):fU (cc w h) P f_add 114 (bA (K w.params) 114) (dC (bA (K w.params) 114)) ["self", "node", "predecessors"] QC:=by
 refine jJ ⟨_,KX 114 _ rfl,rfl⟩ ?code ?bd ?clo ?co ?gen ?kind ?glob ?bu ?nd ?pn ?pk ?sl ?bind λn fr ih=>(jP B0 n fr ih).2.2.2.1
 case bind =>
  refine TJ rfl rfl (by decide) rfl (λvals hv=>?_)
  revert hv;revert vals
  refine qkl (λv0 v1 r=>?_)
  conv in bA _ _=>whnf
  cases r with
  | nil=>rfl
  | cons a r=>rfl
 case code=>exact⟨113,_,_,_,rfl,KX 113 _ rfl,rfl,rfl⟩
 case pn=>rfl
 case sl=>rfl
 case bd=>rfl
 all_goals (conv in bA _ _=>whnf)
 all_goals rfl
theorem qep (KX:(K w.params).In h)(B0:Base (cc w h)):fU (cc w h) P f_prepare 119 (bA (K w.params) 119) (dC (bA (K w.params) 119)) ["self"] QF:=by
 refine jJ ⟨_,KX 119 _ rfl,rfl⟩ ?code ?bd ?clo ?co ?gen ?kind ?glob ?bu ?nd ?pn ?pk ?sl ?bind λn fr ih=>(jP B0 n fr ih).2.2.2.2.1
 case bind =>
  refine lH rfl rfl (by decide) rfl (λvals hv=>?_)
  revert hv;revert vals
  refine vals1 (λv0=>?_)
  conv in bA _ _=>whnf
  rfl
 case code=>exact⟨118,_,_,_,rfl,KX 118 _ rfl,rfl,rfl⟩
 case pn=>rfl
 case sl=>rfl
 case bd=>rfl
 all_goals (conv in bA _ _=>whnf)
 all_goals rfl
theorem qeq (KX:(K w.params).In h)(B0:Base (cc w h)):fU (cc w h) P f_get_ready 126 (bA (K w.params) 126) (dC (bA (K w.params) 126)) ["self"] QG:=by
 refine jJ ⟨_,KX 126 _ rfl,rfl⟩ ?code ?bd ?clo ?co ?gen ?kind ?glob ?bu ?nd ?pn ?pk ?sl ?bind λn fr ih=>(jP B0 n fr ih).2.2.2.2.2.1
 case bind =>
  refine lH rfl rfl (by decide) rfl (λvals hv=>?_)
  revert hv;revert vals
  refine vals1 (λv0=>?_)
  conv in bA _ _=>whnf
  rfl
 case code=>exact⟨125,_,_,_,rfl,KX 125 _ rfl,rfl,rfl⟩
 case pn=>rfl
 case sl=>rfl
 case bd=>rfl
 all_goals (conv in bA _ _=>whnf)
 all_goals rfl
theorem qer (KX:(K w.params).In h)(B0:Base (cc w h)):fU (cc w h) P J1 133 (bA (K w.params) 133) (dC (bA (K w.params) 133)) ["self"] QH:=by
 refine jJ ⟨_,KX 133 _ rfl,rfl⟩ ?code ?bd ?clo ?co ?gen ?kind ?glob ?bu ?nd ?pn ?pk ?sl ?bind λn fr ih=>(jP B0 n fr ih).2.2.2.2.2.2.1
 case bind =>
  refine lH rfl rfl (by decide) rfl (λvals hv=>?_)
  revert hv;revert vals
  refine vals1 (λv0=>?_)
  conv in bA _ _=>whnf
  rfl
 case code=>exact⟨132,_,_,_,rfl,KX 132 _ rfl,rfl,rfl⟩
 case pn=>rfl
 case sl=>rfl
 case bd=>rfl
 all_goals (conv in bA _ _=>whnf)
 all_goals rfl
theorem qes (KX:(K w.params).In h)(B0:Base (cc w h)):fU (cc w h) P f_done 147 (bA (K w.params) 147) (dC (bA (K w.params) 147)) ["self", "nodes"] QJ:=by
 refine jJ ⟨_,KX 147 _ rfl,rfl⟩ ?code ?bd ?clo ?co ?gen ?kind ?glob ?bu ?nd ?pn ?pk ?sl ?bind λn fr ih=>(jP B0 n fr ih).2.2.2.2.2.2.2.1
 case bind =>
  refine TJ rfl rfl (by decide) rfl (λvals hv=>?_)
  revert hv;revert vals
  refine qb8 (λv0 r=>?_)
  conv in bA _ _=>whnf
  cases r with
  | nil=>rfl
  | cons a r=>rfl
 case code=>exact⟨146,_,_,_,rfl,KX 146 _ rfl,rfl,rfl⟩
 case pn=>rfl
 case sl=>rfl
 case bd=>rfl
 all_goals (conv in bA _ _=>whnf)
 all_goals rfl
theorem qet (KX:(K w.params).In h)(B0:Base (cc w h)):fU (cc w h) P f_find_cycle 154 (bA (K w.params) 154) (dC (bA (K w.params) 154)) ["self"] QK:=by
 refine jJ ⟨_,KX 154 _ rfl,rfl⟩ ?code ?bd ?clo ?co ?gen ?kind ?glob ?bu ?nd ?pn ?pk ?sl ?bind λn fr ih=>(jP B0 n fr ih).2.2.2.2.2.2.2.2.1
 case bind =>
  refine lH rfl rfl (by decide) rfl (λvals hv=>?_)
  revert hv;revert vals
  refine vals1 (λv0=>?_)
  conv in bA _ _=>whnf
  rfl
 case code=>exact⟨153,_,_,_,rfl,KX 153 _ rfl,rfl,rfl⟩
 case pn=>rfl
 case sl=>rfl
 case bd=>rfl
 all_goals (conv in bA _ _=>whnf)
 all_goals rfl
theorem qej (KX:(K w.params).In h)(B0:Base (cc w h)):fU (cc w h) P J2 173 (bA (K w.params) 173) (dC (bA (K w.params) 173)) ["row"] Q7:=by
 refine jJ ⟨_,KX 173 _ rfl,rfl⟩ ?code ?bd ?clo ?co ?gen ?kind ?glob ?bu ?nd ?pn ?pk ?sl ?bind λn fr ih=>(jP B0 n fr ih).2.2.2.2.2.2.2.2.2.1
 case bind =>
  refine lH rfl rfl (by decide) rfl (λvals hv=>?_)
  revert hv;revert vals
  refine vals1 (λv0=>?_)
  conv in bA _ _=>whnf
  rfl
 case code=>exact⟨172,_,_,_,rfl,KX 172 _ rfl,rfl,rfl⟩
 case pn=>rfl
 case sl=>rfl
 case bd=>rfl
 all_goals (conv in bA _ _=>whnf)
 all_goals rfl
theorem qek (KX:(K w.params).In h)(B0:Base (cc w h)):fU (cc w h) P yV 178 (bA (K w.params) 178) (dC (bA (K w.params) 178)) ["needs", "chosen"] Q8:=by
 refine jJ ⟨_,KX 178 _ rfl,rfl⟩ ?code ?bd ?clo ?co ?gen ?kind ?glob ?bu ?nd ?pn ?pk ?sl ?bind λn fr ih=>(jP B0 n fr ih).2.2.2.2.2.2.2.2.2.2.1
 case bind =>
  refine lH rfl rfl (by decide) rfl (λvals hv=>?_)
  revert hv;revert vals
  refine vals2 (λv0 v1=>?_)
  conv in bA _ _=>whnf
  rfl
 case code=>exact⟨177,_,_,_,rfl,KX 177 _ rfl,rfl,rfl⟩
 case pn=>rfl
 case sl=>rfl
 case bd=>rfl
 all_goals (conv in bA _ _=>whnf)
 all_goals rfl
theorem qel (KX:(K w.params).In h)(B0:Base (cc w h)):fU (cc w h) P yU 183 (bA (K w.params) 183) (dC (bA (K w.params) 183)) ["p", "q"] Q9:=by
 refine jJ ⟨_,KX 183 _ rfl,rfl⟩ ?code ?bd ?clo ?co ?gen ?kind ?glob ?bu ?nd ?pn ?pk ?sl ?bind λn fr ih=>(jP B0 n fr ih).2.2.2.2.2.2.2.2.2.2.2.1
 case bind =>
  refine lH rfl rfl (by decide) rfl (λvals hv=>?_)
  revert hv;revert vals
  refine vals2 (λv0 v1=>?_)
  conv in bA _ _=>whnf
  rfl
 case code=>exact⟨182,_,_,_,rfl,KX 182 _ rfl,rfl,rfl⟩
 case pn=>rfl
 case sl=>rfl
 case bd=>rfl
 all_goals (conv in bA _ _=>whnf)
 all_goals rfl
theorem qeo (KX:(K w.params).In h)(B0:Base (cc w h)):fU (cc w h) P rJ 188 (bA (K w.params) 188) (dC (bA (K w.params) 188)) ["script"] QD:=by
 refine jJ ⟨_,KX 188 _ rfl,rfl⟩ ?code ?bd ?clo ?co ?gen ?kind ?glob ?bu ?nd ?pn ?pk ?sl ?bind λn fr ih=>(jP B0 n fr ih).2.2.2.2.2.2.2.2.2.2.2.2.1
 case bind =>
  refine lH rfl rfl (by decide) rfl (λvals hv=>?_)
  revert hv;revert vals
  refine vals1 (λv0=>?_)
  conv in bA _ _=>whnf
  rfl
 case code=>exact⟨187,_,_,_,rfl,KX 187 _ rfl,rfl,rfl⟩
 case pn=>rfl
 case sl=>rfl
 case bd=>rfl
 all_goals (conv in bA _ _=>whnf)
 all_goals rfl
theorem qeh (KX:(K w.params).In h)(B0:Base (cc w h)):fU (cc w h) P f_init_TopologicalSorter 100 (bA (K w.params) 100) (dC (bA (K w.params) 100)) ["self", "graph"] Q5:=by
 refine jJ ⟨_,KX 100 _ rfl,rfl⟩ ?code ?bd ?clo ?co ?gen ?kind ?glob ?bu ?nd ?pn ?pk ?sl ?bind λn fr ih=>(jP B0 n fr ih).2.2.2.2.2.2.2.2.2.2.2.2.2.1
 case bind =>
  refine qcZ (T:=93) (m:=0) B0 rfl rfl rfl rfl rfl (KX 93 _ rfl) rfl (λv=>?_) (λv u=>?_)
  ·conv in bA _ _=>whnf
   exact⟨_,rfl,rfl⟩
  ·conv in bA _ _=>whnf
   exact⟨_,rfl,rfl⟩
 case code=>exact⟨99,_,_,_,rfl,KX 99 _ rfl,rfl,rfl⟩
 case pn=>rfl
 case sl=>rfl
 case bd=>rfl
 all_goals (conv in bA _ _=>whnf)
 all_goals rfl
theorem qei (KX:(K w.params).In h)(B0:Base (cc w h)):fU (cc w h) P f_init_NodeInfo 63 (bA (K w.params) 63) (dC (bA (K w.params) 63)) ["self", "node"] Q6:=by
 refine jJ ⟨_,KX 63 _ rfl,rfl⟩ ?code ?bd ?clo ?co ?gen ?kind ?glob ?bu ?nd ?pn ?pk ?sl ?bind λn fr ih=>(jP B0 n fr ih).2.2.2.2.2.2.2.2.2.2.2.2.2.2
 case bind =>
  refine lH rfl rfl (by decide) rfl (λvals hv=>?_)
  revert hv;revert vals
  refine vals2 (λv0 v1=>?_)
  conv in bA _ _=>whnf
  rfl
 case code=>exact⟨62,_,_,_,rfl,KX 62 _ rfl,rfl,rfl⟩
 case pn=>rfl
 case sl=>rfl
 case bd=>rfl
 all_goals (conv in bA _ _=>whnf)
 all_goals rfl
end
section
variable {w:World}{h:Heap}
theorem qcL (KX:(K w.params).In h)(B0:Base (cc w h)):∀f fa,(cc w h).X.fv f=some fa->∃fn fd body ps slots,P.fns f=some fn/\fU (cc w h) P fn fa fd body ps slots:=qam (l:=J5) (dG ⟨_,_,_,_,_,rfl,qef KX B0⟩ (dG ⟨_,_,_,_,_,rfl,qeg KX B0⟩ (dG ⟨_,_,_,_,_,rfl,qem KX B0⟩ (dG ⟨_,_,_,_,_,rfl,qen KX B0⟩ (dG ⟨_,_,_,_,_,rfl,qep KX B0⟩ (dG ⟨_,_,_,_,_,rfl,qeq KX B0⟩ (dG ⟨_,_,_,_,_,rfl,qer KX B0⟩ (dG ⟨_,_,_,_,_,rfl,qes KX B0⟩ (dG ⟨_,_,_,_,_,rfl,qet KX B0⟩ (dG ⟨_,_,_,_,_,rfl,qej KX B0⟩ (dG ⟨_,_,_,_,_,rfl,qek KX B0⟩ (dG ⟨_,_,_,_,_,rfl,qel KX B0⟩ (dG ⟨_,_,_,_,_,rfl,qeo KX B0⟩ (dG ⟨_,_,_,_,_,rfl,qeh KX B0⟩ (dG ⟨_,_,_,_,_,rfl,qei KX B0⟩ RP)))))))))))))))
theorem qis (KX:(K w.params).In h)(hb:∃mb,h.Ns builtinsNs mb/\∀x:Str,x≠"__name__"->mb x=bootBuiltins x) (hn:h.NoLimit) (hm:Heap.Has h sysModules) {s:Shared} (hs:s.heap=h) {l:Addr} {vs:List Value} {xs:List Int} (hl:h.PlainList l vs.toArray) (hv:IntsAre vs xs) (hx:xs.length<=lim)
  {σ':Store} (JP:bD P 30 40 [.list (xs.map .int)] []=some (.bool true,σ')) {Q:Value->Shared->Prop} {E:Value->Shared->Prop}
  (k:∀s',(∀b o,h.get? b=some o->s'.heap.get? b=some o)->(∃h' tk,s'={s with heap:=h',toks:=tk})->Q (.bool true) s') :
  wpAny (model PySem.Challenge.rw_dn0070_05.row.prog w) callerA (call (.ref 188) [.ref l]) Q E s:=by
 subst hs;have B0:Base (cc w s.heap):=base KX hb hn hm;have FO:=X8 B0 (qcL KX B0) 30;have R:(cc w s.heap).R [] (λ_=>0) s.heap [] [] :=
  {len:=rfl,keep:=λb o e=>e,objs:=λk p o a=>by simp at a,apart:=λk k' p p' o o' a=>by simp at a,new:=λk p a=>by simp at a,zlt:=λa ha=>by simp at ha,alt:=λk p o a=>by simp at a,zown:=λa ha=>by simp at ha}
 have hnw:¬WW [] [] [] l:=by
  rintro(q|⟨k,p,o,a,_⟩)
  ·simp at q
  ·simp at a
 have hlen:vs.length=xs.length:=hv.length;refine wpAny_call (FO 40 [.list (xs.map .int)] [] (.bool true) σ' JP 188 rfl callerA [] (λ_=>0) s [] [.ref l] [] ⟨by decide,by decide,rfl,rfl⟩ ⟨trivial,λa ha=>by simp at ha⟩ (λa ha=>by simp at ha) R ?_ _ λv s' aG x R' r=>?_)
 ·exact⟨_,[],rfl,⟨l,vs,rfl,hl,hnw,by simpa using hx,qbf hv⟩,rfl⟩
 ·cases r;exact k s' R'.keep x.rest
end
theorem holds (JP:∀xs:List Int,xs.length<=63->∃σ',bD P 30 40 [.list (xs.map .int)] []=some (.bool true,σ')):PySem.Challenge.rw_dn0070_05.Holds:=by
 refine qkc rfl rfl rfl ?_;intro w s₀ s₁ mg mb G Y fa o pm cd doc dV kV ho hd hcd hD hmg hg args vals as hpre hlay hrd hwl hlo;have KX:=kIn_of Y;have T:=G.T;clear hd hcd hD
 wrow_args hpre hlay hrd hwl hlo
 rename_i xs hs hlay0 hL1 hr1 hl2 b1 b2 l vs b3 hL ra w1 r0 hI hr hlen htr;have hfa:fa=188:=by
  have e:mg (Str.ofString "law")=some (.ref fa):=hmg;obtain⟨o1,es1,ep1,g1,d1,_,f1⟩:=T.g;obtain⟨o2,es2,ep2,g2,d2,_,f2⟩:=XD KX;rw[g1]at g2;cases g2;rw[d1]at d2;cases d2;have:gl w.params (Str.ofString "law")=some (.ref fa):=(f2 _).symm.trans ((f1 _).trans e);have q:gl w.params (Str.ofString "law")=some (.ref 188):=rfl;rw[q]at this
  injection this with this
  injection this with this
  exact this.symm
 subst hfa;have hpl:s₁.heap.PlainList l vs.toArray:=by
  obtain⟨o',e',hc',n',hd'⟩:=hL;have w1':Well w.params s₁.heap (.ref l) (.list (ofPys (xs.map PyData.int))):=w1;cases w1' with
  | list hg _ =>
   rw[hg]at e';cases e';cases hd';exact⟨_,hg⟩
 obtain⟨σ',hl⟩:=JP xs (by omega);refine qis KX ⟨mb,T.b,T.builtins⟩ T.nolimit ?_ rfl hpl hI (by unfold lim;omega) hl λs' hk hs'=>?_
 ·obtain⟨mm,⟨o,_,_,e,_⟩,_⟩:=(T.seer (by decide +kernel)).mods;exact⟨o,e⟩
 ·obtain⟨h',tk,rfl⟩:=hs';refine GoodW.toG ⟨.inl ⟨_,.bool true,[],rfl,λ_=>rfl,.bool _,?_,λ_=>⟨nodup_nil,λa ha=>by simp at ha⟩⟩,hk,rfl,hg⟩;refine postW_of (r:=PySem.Challenge.rw_dn0070_05.row.toRowW) (X:=true) ?_ ?_ rfl
  ·first|rfl|decide|simp[WShape.has]
  ·show WTm.value _ (.eq .res (.lit (.bool true))) _=_;simp[WTm.value,PySem.W.same]
end P05
end Internal
end
section
open PySem
set_option maxRecDepth 100000
namespace Internal
theorem bnd {α β:Type}{x:Option α}{f:α->Option β}{a:α}{r:Option β}(h:x=some a)(k:f a=r):x.bind f=r:=by rw[h];exact k
section
variable {X:aU}{W:Nat}{r r' r1 r2:Loc}{s s1 s2 s3 s4 σ σ':Store}{k c a i j:Nat}{x y d:D}
theorem j8 {v:D}{as:List (Nat×D)}(h:σ[k]?=some (.inst c as))(ok:attrOk c a as.length=true)(hs:σ.set k (.inst c (fG a v as))=σ'):setAttr σ (.ref k) a v=some σ' :=
 bnd (a:=k) rfl (bnd (a:=(c,as)) (bnd h rfl) ((if_pos ok).trans (congrArg some hs)))
theorem eO {as:List (Nat×D)}(h:σ[k]?=some (.inst c as))(ha:as.lookup a=some d):getAttr σ (.ref k) a=some d:=bnd (a:=k) rfl (bnd (a:=(c,as)) (bnd h rfl) ha)
theorem rQ {as:List (Nat×D)}(h:σ[k]?=some (.inst 0 as)):o7 σ (.ref k)=true:=by
 show (((σ[k]?).bind wI).bind _).isSome=true;rw[h];rfl
theorem CP {l l':List D}{f:List D->Option (D×List D)}(h:σ[k]?=some (.list l))(hf:f l=some (d,l'))(hs:σ.set k (.list l')=σ'):lX σ (.ref k) f=some (d,σ') :=
 bnd (a:=k) rfl (bnd (a:=l) (bnd h rfl) (bnd hf (congrArg (λx=>some (d,x)) hs)))
theorem pJ {l:List D}(h:σ[k]?=some (.list l))(hw:l.length<1000)(hs:σ.set k (.list (l++[d]))=σ'):bmeth .append σ (.ref k) [d]=some (.none,σ'):=CP h (if_pos (by unfold lim;omega)) hs
theorem qec {l l':List D}(h:σ[k]?=some (.list l))(hl:l.length+l'.length<1000)(hs:σ.set k (.list (l++l'))=σ'):bmeth .extend σ (.ref k) [.tup l']=some (.none,σ'):=by
 show lX σ (.ref k) _=_;exact CP h (if_pos (by unfold lim;omega)) hs
theorem pop_at {l:List D}(h:σ[k]?=some (.list l))(hl:l.getLast?=some d)(hs:σ.set k (.list l.dropLast)=σ'):bmeth .pop σ (.ref k) []=some (d,σ'):=CP h (bnd hl rfl) hs
theorem qde {l:List D}(h:σ[k]?=some (.list l))(hs:σ.set k (.list [])=σ'):bmeth .clear σ (.ref k) []=some (.none,σ'):=CP h rfl hs
theorem qfH {l:List D}(h:σ[k]?=some (.list l))(hl:l.getLast?=some d):getItem σ (.ref k) (.int (-1))=some d:=bnd (a:=-1) rfl (bnd (f:=K7 (-1)) h hl)
theorem J9 {i:Int}{es:List (Int×D)}(h:σ[k]?=some (.dict es))(hd:(dictGet i es).getD .none=d):bmeth .get σ (.ref k) [.int i]=some (d,σ):=by
 show ((σ[k]?).bind CJ).bind _=_;rw[h,<-hd];rfl
theorem item_at {i:Int}{o:O}(h:σ[k]?=some o)(hd:K7 i o=some d):getItem σ (.ref k) (.int i)=some d:=bnd (a:=i) rfl (bnd h hd)
theorem CX {i:Int}{o o':O}{v:D}(h:σ[k]?=some o)(hp:CW i v o=some o')(hs:σ.set k o'=σ'):setItem σ (.ref k) (.int i) v=some σ' :=
 bnd (a:=k) rfl (bnd (a:=i) rfl (bnd h (bnd hp (congrArg some hs))))
theorem kZ {l:List D}(h:σ[k]?=some (.list l)):(asList σ (.ref k)).isSome=true:=congrArg isSome (bnd (f:=j5) h rfl)
theorem PB {l:List (Int×D)}(h:σ[k]?=some (.dict l)):(xK σ (.ref k)).isSome=true:=congrArg isSome (bnd (f:=CJ) h rfl)
theorem qig {l:List Int}(h:σ[k]?=some (.set l)):wL .add σ (.ref k)=true:=congrArg isSome (bnd (a:=k) (f:=λk=>(σ[k]?).bind uF) rfl (bnd (f:=uF) h rfl))
theorem qcE {i:Int}{es:List Int}(h:σ[k]?=some (.set es))(hl:es.length<1000)(hc:es.contains i=false)(hs:σ.set k (.set (es++[i]))=σ'):bmeth .add σ (.ref k) [.int i]=some (.none,σ'):=by
 show ((σ[k]?).bind uF).bind _=_;rw[h];show (if es.length<1000 then some (D.none,σ.set k (.set (if es.contains i then es else es++[i]))) else .none)=_;rw[if_pos hl,hc];exact congrArg (λx=>some (D.none,x)) hs
theorem qfP {l:List D}(h:σ[k]?=some (.list l)):mQ .len σ [.ref k]=some (.int l.length,σ):=bnd (a:=l) (bnd (f:=j5) h rfl) rfl
theorem qfw {l:List D}(h:σ[k]?=some (.list l)):mQ .iter σ [.ref k]=some (.ref σ.length,σ++[.iter k 0]):=by
 show ((σ[k]?).bind qM).bind _=_;rw[h];rfl
theorem qgD {l m:Nat}{xs:List D}(h1:σ[k]?=some (.next j))(h2:σ[j]?=some (.iter l m))(h3:σ[l]?=some (.list xs))(h4:xs[m]?=some d)(hs:σ.set j (.iter l (m+1))=σ'):BW σ (.ref k)=some (j,some d,σ') :=
 bnd (a:=k) rfl (bnd (a:=j) (bnd h1 rfl) (bnd (a:=(l,m)) (bnd h2 rfl) (bnd (a:=xs) (bnd (f:=j5) h3 rfl) (by
  show (match xs[m]? with|some d=>some (j,some d,σ.set j (.iter l (m+1)))|.none=>some (j,.none,σ.set j .dead))=_;rw[h4,<-hs]))))
theorem qgC {l m:Nat}{xs:List D}(h1:σ[k]?=some (.next j))(h2:σ[j]?=some (.iter l m))(h3:σ[l]?=some (.list xs))(h4:xs[m]?=.none)(hs:σ.set j .dead=σ'):BW σ (.ref k)=some (j,.none,σ') :=
 bnd (a:=k) rfl (bnd (a:=j) (bnd h1 rfl) (bnd (a:=(l,m)) (bnd h2 rfl) (bnd (a:=xs) (bnd (f:=j5) h3 rfl) (by
  show (match xs[m]? with|some d=>some (j,some d,σ.set j (.iter l (m+1)))|.none=>some (j,.none,σ.set j .dead))=_;rw[h4,<-hs]))))
theorem aO (h:r[i]?=some (some d)):ev X (.var i) r s=some (d,s):=bnd (bnd (f:=id) h rfl) rfl
theorem gA {o:E}{m:BM}{args:List E}{l:List D}{q:D×Store}(h1:ev X o r s=some (d,s1))(h2:wL m s1 d=true)(h3:evs X args r s1=some (l,s2))(h4:bmeth m s2 d l=some q):ev X (.bmeth o m args) r s=some q:=bnd h1 (by
 show (bif wL m s1 d then(evs X args r s1).bind λq=>bmeth m q.2 d q.1 else .none)=_;rw[h2];exact bnd h3 h4)
theorem gG {o:E}(h:ev X o r s=some (x,s1))(h2:getAttr s1 x a=some d):ev X (.attr o a) r s=some (d,s1):=bnd h (bnd h2 rfl)
theorem rG {o:E}{f:Nat}{args:List E}{l:List D}{q:D×Store}(h1:ev X o r s=some (x,s1))(h2:o7 s1 x=true)(h3:evs X args r s1=some (l,s2))(h4:X.F f (x::l) s2=some q):ev X (.umeth o f args) r s=some q:=bnd h1 (by
 show (bif o7 s1 x then(evs X args r s1).bind λq=>X.F f (x::q.1) q.2 else .none)=_;rw[h2];exact bnd h3 h4)
theorem WL {args:List E}{l:List D}{d0:D}(h1:evs X args r s=some (l,s1))(h2:X.F (1000+c) (.ref s1.length::l) (s1++[.inst c []])=some (d0,s2)):ev X (.new c args) r s=some (.ref s1.length,s2):=bnd h1 (bnd h2 rfl)
theorem I8 {f:Nat}{args:List E}{l:List D}{q:Option (D×Store)}(h1:evs X args r s=some (l,s1))(h2:X.F f l s1=q):ev X (.call f args) r s=q:=bnd h1 h2
theorem eF {o i:E}(h1:ev X o r s=some (x,s1))(h2:ev X i r s1=some (y,s2))(h3:getItem s2 x y=some d):ev X (.idx o i) r s=some (d,s2):=bnd h1 (bnd h2 (bnd h3 rfl))
theorem cR {o i:E}{op:CmpOp}{b:Bool}(h1:ev X o r s=some (x,s1))(h2:ev X i r s1=some (y,s2))(h3:cmpOp s2 op x y=some b):ev X (.cmp op o i) r s=some (.bool b,s2):=bnd h1 (bnd h2 (bnd h3 rfl))
theorem fZ {o i:E}{op:Operator}(h1:ev X o r s=some (x,s1))(h2:ev X i r s1=some (y,s2))(h3:binOp op x y=some d):ev X (.bin op o i) r s=some (d,s2):=bnd h1 (bnd h2 (bnd h3 rfl))
theorem lL {b:B}{args:List E}{l:List D}{q:D×Store}(h1:evs X args r s=some (l,s1))(h2:mQ b s1 l=some q):ev X (.bi b args) r s=some q:=bnd h1 h2
theorem dW {e:E}(h:ev X e r s=some (x,s1))(hs:∀q,e≠.star q):evs X [e] r s=some ([x],s1):=by
 cases e <;> first|exact bnd h rfl|exact absurd rfl (hs _)
theorem qdY {e:E}{l:Nat}(h:ev X e r s=some (.ref k,s1))(h2:s1[k]?=some (.iter l 0)):ev X (.nextOf e) r s=some (.ref s1.length,s1++[.next k]) :=
 bnd h (bnd (a:=k) rfl (bnd (a:=(l,0)) (bnd h2 rfl) rfl))
theorem qR {e:E}{b:Bool}(h:ev X e r s=some (.bool b,s1)):test X e r s=some (b,s1):=bnd h rfl
theorem aP {z:S}{zs:List S}{R:Option (Fl×Loc×Store)}(h:ex X W z r s=some (.next,r',s'))(k:exs X W zs r' s'=R):exs X W (z::zs) r s=R:=bnd h k
theorem qeb {z:S}{zs:List S}(h:ex X W z r s=some (.ret d,r',s')):exs X W (z::zs) r s=some (.ret d,r',s'):=bnd h rfl
theorem qd9 {z:S}{zs:List S}(h:ex X W z r s=some (.brk,r',s')):exs X W (z::zs) r s=some (.brk,r',s'):=bnd h rfl
theorem qea {z:S}{zs:List S}(h:ex X W z r s=some (.cont,r',s')):exs X W (z::zs) r s=some (.cont,r',s'):=bnd h rfl
theorem oF {e:E}{zs:List S}(h:ev X e r s=some (d,s')):exs X W (.ret e::zs) r s=some (.ret d,r,s'):=bnd (bnd h rfl) rfl
theorem cH {e:E}(h:ev X e r s=some (d,s')):ex X W (.assign (.name i) e) r s=some (.next,r.set i (some d),s'):=bnd h rfl
theorem jH {e:E}(h1:ev X e r s=some (d,s1)):ex X W (.expr e) r s=some (.next,r,s1):=bnd h1 rfl
theorem lN {tg:T}{e:E}(h1:ev X e r s=some (d,s1))(h2:cA X tg d r s1=some (r',s2)):ex X W (.assign tg e) r s=some (.next,r',s2):=bnd h1 (bnd h2 rfl)
theorem qd7 {tg ug:T}{e:E}(h1:ev X e r s=some (d,s1))(h2:cA X tg d r s1=some (r1,s2))(h3:cA X ug d r1 s2=some (r2,s3)):ex X W (.assign2 tg ug e) r s=some (.next,r2,s3):=bnd h1 (bnd h2 (bnd h3 rfl))
theorem xO {o i:E}(h1:ev X o r s=some (x,s1))(h2:ev X i r s1=some (y,s2))(h3:setItem s2 x y d=some s3):cA X (.sub o i) d r s=some (r,s3):=bnd h1 (bnd h2 (bnd h3 rfl))
theorem nR {o:E}(h1:ev X o r s=some (x,s1))(h3:setAttr s1 x a d=some s3):cA X (.attr o a) d r s=some (r,s3):=bnd h1 (bnd h3 rfl)
theorem yQ {o e:E}{op:Operator}{i j:Int}(h1:ev X o r s=some (x,s1))(h2:getAttr s1 x a=some (.int i))(h3:ev X e r s1=some (.int j,s2))(h4:binOp op (.int i) (.int j)=some d)(h5:setAttr s2 x a d=some s3) :
  ex X W (.aug o a op e) r s=some (.next,r,s3):=bnd h1 (bnd h2 (bnd h3 (bnd (a:=i) rfl (bnd (a:=j) rfl (bnd h4 (bnd h5 rfl))))))
theorem jL {e:E}{as bs:List S}{t:Bool}{R:Option (Fl×Loc×Store)}(h:test X e r s=some (t,s'))(k1:t=true->exs X W as r s'=R)(k2:t=false->exs X W bs r s'=R):ex X W (.ife e as bs) r s=R:=by
 refine bnd h ?_;cases t
 ·exact k2 rfl
 ·exact k1 rfl
theorem lU {e:E}{as:List S}(h:ev X e r s=some (.bool false,s1)):ex X W (.ife e as []) r s=some (.next,r,s1):=bnd (a:=(false,s1)) (bnd h rfl) rfl
theorem qfi {x:Nat}{e:E}{as:List S}{R:Option (Fl×Loc×Store)}(h:ev X e r s=some (.none,s1))(k:exs X W as (r.set x (some .none)) s1=R):ex X W (.ifNone x e as) r s=R:=bnd h k
theorem Z4 {x:Nat}{e:E}{as:List S}(h:ev X e r s=some (.ref j,s1)):ex X W (.ifNone x e as) r s=some (.next,r.set x (some (.ref j)),s1):=bnd h rfl
theorem iB {body:Loc->Store->Option (Fl×Loc×Store)}{asg:D->Loc->Store->Option (Loc×Store)}{l:List D}{R:Option (Fl×Loc×Store)}(h1:asg d r s=some (r1,s1))(h2:body r1 s1=some (.next,r2,s2))(h3:forL body asg l r2 s2=R):forL body asg (d::l) r s=R :=
 bnd h1 (bnd h2 h3)
theorem qex {body:Loc->Store->Option (Fl×Loc×Store)}{asg:D->Loc->Store->Option (Loc×Store)}{l:List D}{R:Option (Fl×Loc×Store)}(h1:asg d r s=some (r1,s1))(h2:body r1 s1=some (.cont,r2,s2))(h3:forL body asg l r2 s2=R):forL body asg (d::l) r s=R :=
 bnd h1 (bnd h2 h3)
theorem yZ {t:T}{e:E}{b:List S}{l:List D}{R:Option (Fl×Loc×Store)}(h:ev X e r s=some (.tup l,s'))(k:forL (exs X W b) (cA X t) l r s'=R):ex X W (.fore t e b) r s=R:=bnd h k
theorem yX {t:T}{e:E}{b:List S}{l:List D}{R:Option (Fl×Loc×Store)}(h:ev X e r s=some (.list l,s'))(k:forL (exs X W b) (cA X t) l r s'=R):ex X W (.fore t e b) r s=R:=bnd h k
theorem X6 {t:T}{e:E}{b:List S}{p q:Int}{R:Option (Fl×Loc×Store)}(h:ev X e r s=some (.rng p q,s'))(k:forL (exs X W b) (cA X t) (gU p q) r s'=R):ex X W (.fore t e b) r s=R:=bnd h k
theorem X5 {t:T}{e:E}{b:List S}{o o':O}{l:List D}{fl:Fl}(h:ev X e r s=some (.ref k,s1))(hg:s1[k]?=some o)(hl:KR o=some (l,o'))(hs:s1.set k o'=s2)(hf:forL (exs X W b) (cA X t) l r s2=some (fl,r',s3))(hg':s3[k]?=some o')(hu:G4 o'=some o)(hs':s3.set k o=s4):ex X W (.fore t e b) r s=some (fl,r',s4) :=
 bnd h (bnd (a:=(l,s2)) (bnd (bnd hg hl) (congrArg (λx=>some (l,x)) hs)) (bnd hf (bnd (a:=s4) (bnd (bnd hg' hu) (congrArg some hs')) rfl)))
theorem qd8 {o i:E}{y:Int}{es:List (Int×D)}(h1:ev X o r s=some (.ref k,s1))(h2:ev X i r s1=some (.int y,s2))(h3:s2[k]?=some (.dict es))(h4:fC y es=true)(hs:s2.set k (.dict (dictDel y es))=s3) :
  ex X W (.del o i) r s=some (.next,r,s3) :=
 bnd h1 (bnd h2 (bnd (a:=k) rfl (bnd (a:=y) rfl (bnd (a:=es) (bnd h3 rfl) ((if_pos h4).trans (congrArg (λx=>some (Fl.next,r,x)) hs))))))
theorem yR {l:List D}(h1:r[i]?=some (some (.ref k)))(h2:s[k]?=some (.list l))(h3:s.set k .dead=s'):ex X W (.freeze i) r s=some (.next,r.set i (some (.list l)),s') :=
 bnd (a:=.ref k) (bnd (f:=id) h1 rfl) (bnd (a:=k) rfl (bnd (a:=l) (bnd h2 rfl) (congrArg (λs=>some (Fl.next,r.set i (some (.list l)),s)) h3)))
end
structure nM (P:gY):Prop where
 W:P.W=1000
 f0:P.fns 0=some SG.f_median_low
 f1:P.fns 1=some SG.f_median_high
 f3:P.fns 3=some SG.f_get_nodeinfo
 f4:P.fns 4=some SG.f_add
 f5:P.fns 5=some SG.f_prepare
 f6:P.fns 6=some SG.f_get_ready
 f8:P.fns 8=some SG.f_done
 f9:P.fns 9=some SG.f_find_cycle
 f1000:P.fns 1000=some SG.f_init_TopologicalSorter
 f1001:P.fns 1001=some SG.f_init_NodeInfo
 g0:P.globs 0=some (.int (-1))
 g1:P.globs 1=some (.int (-2))
section
variable {P:gY}{n f:Nat}{args:List D}{s s':Store}{fn:Fn}{r r':Loc}{d:D}
theorem call_of (hW:P.W=1000)(h1:P.fns f=some fn)(h2:oX fn args=some r)(h3:exs ⟨P.globs,bD P n⟩ 1000 fn.body r s=some (.ret d,r',s')):bD P (n+1) f args s=some (d,s'):=bnd h1 (bnd h2 (bnd (hW.symm▸h3) rfl))
theorem vD (hW:P.W=1000)(h1:P.fns f=some fn)(h2:oX fn args=some r)(h3:exs ⟨P.globs,bD P n⟩ 1000 fn.body r s=some (.next,r',s')):bD P (n+1) f args s=some (.none,s'):=bnd h1 (bnd h2 (bnd (hW.symm▸h3) rfl))
end
noncomputable def aV (Y:Nat->Prop)(σ σ':Store):Prop:=σ.length<=σ'.length/\∀j,j<σ.length->¬Y j->σ'[j]?=σ[j]?
section
variable {Y Y':Nat->Prop}{σ σ' nG τ:Store}{k j:Nat}{o x:O}
theorem aV.refl:aV Y σ σ:=⟨le_refl _,λ_ _ _=>rfl⟩
theorem aV.trans (a:aV Y σ σ')(b:aV Y σ' nG):aV Y σ nG:=⟨le_trans a.1 b.1,λj h o=>(b.2 j (lt_of_lt_of_le h a.1) o).trans (a.2 j h o)⟩
theorem aV.mono (a:aV Y σ σ')(h:∀j,Y j->Y' j):aV Y' σ σ':=⟨a.1,λj hj o=>a.2 j hj λz=>o (h j z)⟩
theorem aV.set (h:Y k):aV Y σ (σ.set k o):=⟨by rw[length_set];exact le_refl _,λj _ hj=>getElem?_set_ne λe=>hj (by rw[<-e];exact h)⟩
theorem aV.app:aV Y σ (σ++τ):=⟨by rw[length_append];exact Nat.le_add_right _ _,λj h _=>getElem?_append_left h⟩
theorem aV.at (a:aV Y σ σ')(h:σ[j]?=some x)(ho:¬Y j):σ'[j]?=some x:=(a.2 j (List.getElem?_eq_some_iff.mp h).1 ho).trans h
end
theorem q9 {σ:Store}{k:Nat}{x:O}(h:σ[k]?=some x):k<σ.length:=(List.getElem?_eq_some_iff.mp h).1
theorem cZ {σ:Store}{k:Nat}{x o:O}(h:σ[k]?=some x):(σ.set k o)[k]?=some o:=getElem?_set_self (q9 h)
theorem bB {σ:Store}{k j:Nat}{x o:O}(h:σ[j]?=some x)(hk:k≠j):(σ.set k o)[j]?=some x:=(getElem?_set_ne hk).trans h
theorem eH {σ τ:Store}{j:Nat}{x:O}(h:σ[j]?=some x):(σ++τ)[j]?=some x:=(getElem?_append_left (q9 h)).trans h
theorem jV {σ:Store}{x:O}:(σ++[x])[σ.length]?=some x:=by rw[getElem?_append_right (le_refl _),sub_self];rfl
structure Gr where
 ns:List Int
 np:Int->Int
 su:Int->List Int
noncomputable def upd {α:Type}(f:Int->α)(x:Int)(v:α):Int->α:=λy=>if y=x then v else f y
theorem nD {α:Type}{f:Int->α}{x:Int}{v:α}:upd f x v x=v:=if_pos rfl
theorem lA {α:Type}{f:Int->α}{x y:Int}{v:α}(h:y≠x):upd f x v y=f y:=if_neg h
noncomputable def dct (L:Nat):List Int->Nat->List (Int×D)
 | [],_=>[]
 | x::r,k=>(x,.ref (L+2+2*k))::dct L r (k+1)
theorem vI {L:Nat}{x:Int}:∀{ns:List Int} {k i:Nat},ns.Nodup->ns[i]?=some x->dictGet x (dct L ns k)=some (.ref (L+2+2*(k+i)))
 | y::r,k,0,_,h=>by
  cases h;show (match x==x with|true=>_|false=>_)=_;rw[beq_self_eq_true];rfl
 | y::r,k,i+1,hn,h=>by
  obtain⟨h1,h2⟩:=nodup_cons.mp hn;have hx:(x==y)=false:=beq_eq_false_iff_ne.mpr λe=>h1 (e▸mem_of_getElem? h);show (match x==y with|true=>_|false=>List.lookup x (dct L r (k+1)))=_;rw[hx];refine(vI (k:=k+1) h2 h).trans ?_;rw[show k+1+i=k+(i+1) by exact bG (aA (aB 0x1f0aaff1a0aa1 rfl)) (aA (aB 0xf1a0af1f0aaa1 rfl))]
theorem VJ {L:Nat}{x:Int}:∀{ns:List Int} {k:Nat},x∉ns->dictGet x (dct L ns k)=.none/\(dct L ns k).any (λe=>e.1==x)=false
 | [],_=>λ_=>⟨rfl,rfl⟩
 | y::r,k=>λh=>by
  have hy:x≠y:=λe=>h (e▸mem_cons_self);obtain⟨a,b⟩:=VJ (L:=L) (k:=k+1) (λq=>h (mem_cons_of_mem _ q):x∉r);constructor
  ·show (match x==y with|true=>_|false=>List.lookup x (dct L r (k+1)))=_;rw[beq_eq_false_iff_ne.mpr hy];exact a
  ·show (y==x||(dct L r (k+1)).any _)=false;rw[beq_eq_false_iff_ne.mpr hy.symm,b];rfl
theorem VF {L:Nat}{x:Int}:∀{ns:List Int} {k:Nat},dct L (ns++[x]) k=dct L ns k++[(x,.ref (L+2+2*(k+ns.length)))]
 | [],k=>rfl
 | y::r,k=>by
  show _::dct L (r++[x]) (k+1)=_;rw[VF,length_cons,show k+1+r.length=k+(r.length+1) by exact bG (aA (aB 0x1f0aaff1a0aa1 rfl)) (aA (aB 0xf1a0af1f0aaa1 rfl))];rfl
theorem VH {L:Nat}:∀{ns:List Int} {k:Nat},(dct L ns k).length=ns.length
 | [],_=>rfl
 | y::r,k=>congrArg Nat.succ (VH (ns:=r))
noncomputable def RG (σ:Store)(L i:Nat)(x v:Int)(l:List Int):Prop:=σ[L+2+2*i]?=some (.inst 1 [(4,.int x),(5,.int v),(6,.ref (L+3+2*i))])/\σ[L+3+2*i]?=some (.list (l.map .int))
structure Nodes (σ:Store) (L:Nat) (g:Gr):Prop where
 nd:g.ns.Nodup
 at_:∀(i:Nat) (x:Int),g.ns[i]?=some x->RG σ L i x (g.np x) (g.su x)
 df:∀x,x∉g.ns->g.np x=0/\g.su x=[]
noncomputable def at0 (L:Nat):List (Nat×D):=[(0,.ref (L+1)),(1,.none),(2,.int 0),(3,.int 0)]
structure fJ (σ:Store) (L:Nat) (g:Gr):Prop where
 inst:σ[L]?=some (.inst 0 (at0 L))
 dict:σ[L+1]?=some (.dict (dct L g.ns 0))
 nodes:Nodes σ L g
 len:σ.length=L+2+2*g.ns.length
noncomputable def Gr.touch (g:Gr)(x:Int):Gr:=if x∈g.ns then g else{g with ns:=g.ns++[x]}
noncomputable def Gr.ix (g:Gr)(x:Int):Nat:=g.ns.idxOf x
theorem rP {l:List Int}{x:Int}(h:x∈l):l[l.idxOf x]?=some x:=by
 have:=idxOf_lt_length_of_mem h;rw[getElem?_eq_getElem this,List.getElem_idxOf]
theorem SJ {l:List Int}{x:Int}{i:Nat}(hn:l.Nodup)(h:l[i]?=some x):l.idxOf x=i:=by
 obtain⟨hi,rfl⟩:=List.getElem?_eq_some_iff.mp h;exact hn.idxOf_getElem i hi
theorem QZ {g:Gr}{x:Int}:x∈(g.touch x).ns:=by
 unfold Gr.touch;by_cases h:x∈g.ns
 ·rw[if_pos h];exact h
 ·rw[if_neg h];exact mem_append_right _ (mem_singleton.mpr rfl)
theorem wU {g:Gr}{x:Int}:(g.touch x).np=g.np/\(g.touch x).su=g.su:=by
 unfold Gr.touch;by_cases h:x∈g.ns
 ·rw[if_pos h];exact⟨rfl,rfl⟩
 ·rw[if_neg h];exact⟨rfl,rfl⟩
section
variable {P:gY}(H:nM P){σ:Store}{L:Nat}{g:Gr}{m:Nat}{x:Int}
include H
theorem qfn {i:Int}{s:Store}{k:Nat}(hk:s[k]?=some (.inst 1 [])):bD P (m+1) 1001 [.ref k,.int i] s=some (.none,(s.set k (.inst 1 [(4,.int i),(5,.int 0),(6,.ref s.length)]))++[.list []]):=by
 have hkl:=q9 hk;apply vD H.W (fn:=SG.f_init_NodeInfo) (r:=[some (.ref k),some (.int i)]) H.f1001 rfl;refine aP (r':=[some (.ref k),some (.int i)]) (lN rfl (nR rfl (j8 hk rfl rfl))) ?_;refine aP (r':=[some (.ref k),some (.int i)]) (lN rfl (nR rfl (j8 (cZ hk) rfl (set_set ..)))) ?_;refine aP (r':=[some (.ref k),some (.int i)]) (s':=(s.set k (.inst 1 [(4,.int i),(5,.int 0),(6,.ref s.length)]))++[.list []]) (lN (d:=.ref s.length) (s1:=s.set k (.inst 1 [(4,.int i),(5,.int 0)])++[.list []]) ?_ (nR rfl (j8 (eH (cZ hk)) rfl ?_))) rfl
 ·exact congrArg (λx=>some (D.ref x,s.set k (.inst 1 [(4,.int i),(5,.int 0)])++[O.list []])) length_set
 ·rw[List.set_append_left _ _ (by rw[length_set];exact hkl),set_set];rfl
theorem qgK {as:List (Nat×D)}{i:Nat}(h0:σ[L]?=some (.inst 0 as))(ha:as.lookup 0=some (.ref (L+1)))(h1:σ[L+1]?=some (.dict (dct L g.ns 0)))(hn:g.ns.Nodup)(hi:g.ns[i]?=some x) :
  bD P (m+1) 3 [.ref L,.int x] σ=some (.ref (L+2+2*i),σ):=by
 have hg:=vI (L:=L) (k:=0) hn hi;rw[zero_add]at hg;apply call_of H.W (fn:=SG.f_get_nodeinfo) (r:=[some (.ref L),some (.int x),.none]) H.f3 rfl;exact aP (r':=[some (.ref L),some (.int x),some (.ref (L+2+2*i))]) (Z4 (gA (gG rfl (eO h0 ha)) (PB h1) rfl (J9 h1 (by rw[hg];rfl)))) (oF rfl)
theorem qgJ (B:fJ σ L g)(hx:x∉g.ns)(hl:g.ns.length<1000):∃σ',bD P (m+2) 3 [.ref L,.int x] σ=some (.ref (L+2+2*g.ns.length),σ')/\fJ σ' L {g with ns:=g.ns++[x]}/\aV (L<=·) σ σ':=by
 obtain⟨hg,hany⟩:=VJ (L:=L) (k:=0) hx;have hlen:=B.len;let I:O:=.inst 1 [(4,.int x),(5,.int 0),(6,.ref (L+3+2*g.ns.length))];have hn:ev ⟨P.globs,bD P (m+1)⟩ (.new 1 [.var 1]) [some (.ref L),some (.int x),some .none] σ=some (.ref (L+2+2*g.ns.length),σ++[I,.list []]):=by
  have q:=qfn H (m:=m) (i:=x) (s:=σ++[.inst 1 []]) (k:=σ.length) jV;refine(WL (c:=1) (s1:=σ) rfl q).trans ?_;rw[length_append,set_append_right _ _ (le_refl _),sub_self,append_assoc,hlen,show L+2+2*g.ns.length+[O.inst 1 []].length=L+3+2*g.ns.length by simp only[length_cons,length_nil];exact bG (aA (aB 0xf08a12b280aaaf12b380aaa1 rfl)) (aA (aB 0x12b380aaff08a12b280aaaa1 rfl))];rfl
 have hd:CW x (.ref (L+2+2*g.ns.length)) (.dict (dct L g.ns 0))=some (.dict (dct L (g.ns++[x]) 0)):=by
  show (if (dct L g.ns 0).length<lim then some (O.dict (dictPut x _ (dct L g.ns 0))) else .none)=_;rw[if_pos (by rw[VH];unfold lim;omega),VF,zero_add];unfold dictPut;rw[hany];rfl
 have e0:(σ++[I,.list []])[L]?=some (.inst 0 (at0 L)):=eH B.inst;have e1:(σ++[I,.list []])[L+1]?=some (.dict (dct L g.ns 0)):=eH B.dict;refine⟨(σ++[I,.list []]).set (L+1) (.dict (dct L (g.ns++[x]) 0)),?_,⟨bB e0 (λU=>(aK 0x0f0a1 rfl (aQ U))),cZ e1,⟨?_,λi y hy=>?_,λy hy=>B.nodes.df y λq=>hy (mem_append_left _ q)⟩,?_⟩,aV.app.trans (aV.set (aA (aK 0x0ff0aa1 rfl)))⟩
 ·apply call_of H.W (fn:=SG.f_get_nodeinfo) (r:=[some (.ref L),some (.int x),.none]) H.f3 rfl;refine aP (r':=[some (.ref L),some (.int x),some (.ref (L+2+2*g.ns.length))]) (qfi (gA (gG rfl (eO B.inst rfl)) (PB B.dict) rfl (J9 B.dict (by rw[hg];rfl))) (aP (qd7 hn (xO (gG rfl (eO e0 rfl)) rfl (CX e1 hd rfl)) rfl) rfl)) (oF rfl)
 ·exact nodup_append.mpr ⟨B.nodes.nd,nodup_cons.mpr ⟨not_mem_nil,nodup_nil⟩,λa ha b hb e=>hx (by rw[<-mem_singleton.mp hb,<-e];exact ha)⟩
 ·rcases lt_or_ge i g.ns.length with hi|hi
  ·have hy:(g.ns++[x])[i]?=some y:=hy;rw[getElem?_append_left hi]at hy;obtain⟨a,b⟩:=B.nodes.at_ i y hy;exact⟨bB (eH a) (λU=>(aB 0xf0a12b280aa1 rfl (aW U))),bB (eH b) (λU=>(aB 0xf0a12b380aa1 rfl (aW U)))⟩
  ·have hy:(g.ns++[x])[i]?=some y:=hy;rw[getElem?_append_right hi]at hy;have hi0:i-g.ns.length=0:=by
    rcases Nat.eq_zero_or_pos (i-g.ns.length) with z|z
    ·exact z
    ·rw[List.getElem?_eq_none (by simp only[length_cons,length_nil];exact aA (aK 0xf08af0a10f08a1 rfl z))]at hy;cases hy
   rw[hi0]at hy;cases hy;have hi:i=g.ns.length:=bG (aA (aC 0x1f0a102a110821 rfl (aQ hi0) (aR _ _))) (aA (aB 0x1f0a1011 rfl hi));subst hi;obtain⟨d1,d2⟩:=B.nodes.df x hx;have f1:(σ++[I,.list []])[L+2+2*g.ns.length]?=some I:=by rw[<-hlen,getElem?_append_right (le_refl _),sub_self];rfl
   have f2:(σ++[I,.list []])[L+3+2*g.ns.length]?=some (.list []):=by rw[show L+3+2*g.ns.length=σ.length+1 by exact bG (aA (aC 0x22b381aaff0aa1022b281aa1 rfl (aW hlen))) (aA (aC 0xf2af12b380aaa112b280aa21 rfl (aQ hlen))),getElem?_append_right (by exact aA (aK 0x0ff0aa1 rfl)),Nat.add_sub_cancel_left];rfl
   refine⟨?_,?_⟩
   ·show _=some (O.inst 1 [(4,.int x),(5,.int (g.np x)),(6,_)]);rw[d1];exact bB f1 (λU=>(aB 0xf0a12b280aa1 rfl (aW U)))
   ·show _=some (O.list ((g.su x).map .int));rw[d2];exact bB f2 (λU=>(aB 0xf0a12b380aa1 rfl (aW U)))
 ·rw[length_set,length_append,hlen,length_append];simp only[length_cons,length_nil];exact bG (aA (aB 0xff08aa12b280aaaff08a1a2b280aaa1 rfl)) (aA (aB 0xf08a1a2b280aafff08aa12b280aaaa1 rfl))
theorem qgI (B:fJ σ L g)(hl:g.ns.length<1000):∃σ',bD P (m+2) 3 [.ref L,.int x] σ=some (.ref (L+2+2*(g.touch x).ix x),σ')/\fJ σ' L (g.touch x)/\aV (L<=·) σ σ':=by
 unfold Gr.touch;by_cases h:x∈g.ns
 ·rw[if_pos h];exact⟨σ,qgK H B.inst rfl B.dict B.nodes.nd (rP h),B,aV.refl⟩
 ·rw[if_neg h];have e:Gr.ix {g with ns:=g.ns++[x]} x=g.ns.length:=by
   show (g.ns++[x]).idxOf x=_;rw[List.idxOf_append,if_neg h,List.idxOf_cons_self,zero_add]
  rw[e];exact qgJ H B h hl
end
section
variable {σ σ':Store}{L i:Nat}{g:Gr}{x:Int}
theorem sG {l:List Int}(hn:l.Nodup){i j:Nat}{x y:Int}(hi:l[i]?=some x)(hj:l[j]?=some y):i=j↔x=y:=by
 constructor
 ·rintro rfl;rw[hi]at hj;exact Option.some.inj hj
 ·rintro rfl;rw[<-SJ hn hi,<-SJ hn hj]
theorem Nodes.setNp {v:Int}(h:Nodes σ L g)(hi:g.ns[i]?=some x):Nodes (σ.set (L+2+2*i) (.inst 1 [(4,.int x),(5,.int v),(6,.ref (L+3+2*i))])) L {g with np:=upd g.np x v}:=by
 refine⟨h.nd,λj y hj=>?_,λy hy=>⟨(lA λe=>hy (by rw[e];exact mem_of_getElem? hi)).trans (h.df y hy).1,(h.df y hy).2⟩⟩;obtain⟨a,b⟩:=h.at_ j y hj;by_cases e:i=j
 ·subst e;cases (sG h.nd hi hj).mp rfl;refine⟨?_,bB b (λU=>(aB 0x12b280aa12b380aa1 rfl (aW U)))⟩;show _=some (O.inst 1 [(4,.int x),(5,.int (upd g.np x v x)),(6,_)]);rw[nD];exact cZ a
 ·refine⟨?_,bB b (λU=>(cF e ((aC 0x1f0a202b282aa12b382aa1 rfl (aW U))) (aC 0x1f0a202b382aa12b282aa1 rfl (aQ U))))⟩;show _=some (O.inst 1 [(4,.int y),(5,.int (upd g.np x v y)),(6,_)]);rw[lA λq=>e ((sG h.nd hi hj).mpr q.symm)];exact bB a (λU=>(cF e ((aC 0x1f0a202b282aa12b282aa1 rfl (aW U))) (aC 0x1f0a202b282aa12b282aa1 rfl (aQ U))))
theorem Nodes.setSu {l:List Int}(h:Nodes σ L g)(hi:g.ns[i]?=some x):Nodes (σ.set (L+3+2*i) (.list (l.map .int))) L {g with su:=upd g.su x l}:=by
 refine⟨h.nd,λj y hj=>?_,λy hy=>⟨(h.df y hy).1,(lA λe=>hy (by rw[e];exact mem_of_getElem? hi)).trans (h.df y hy).2⟩⟩;obtain⟨a,b⟩:=h.at_ j y hj;by_cases e:i=j
 ·subst e;cases (sG h.nd hi hj).mp rfl;refine⟨bB a (λU=>(aB 0x12b280aa12b380aa1 rfl (aQ U))),?_⟩;show _=some (O.list ((upd g.su x l x).map .int));rw[nD];exact cZ b
 ·refine⟨bB a (λU=>(cF e ((aC 0x1f0a202b382aa12b282aa1 rfl (aW U))) (aC 0x1f0a202b282aa12b382aa1 rfl (aQ U)))),?_⟩;show _=some (O.list ((upd g.su x l y).map .int));rw[lA λq=>e ((sG h.nd hi hj).mpr q.symm)];exact bB b (λU=>(cF e ((aC 0x1f0a202b382aa12b382aa1 rfl (aW U))) (aC 0x1f0a202b382aa12b382aa1 rfl (aQ U))))
theorem o8 {l:List Int}(hi:l[i]?=some x):i<l.length:=(List.getElem?_eq_some_iff.mp hi).1
theorem Nodes.frm {Y:Nat->Prop}(h:Nodes σ L g)(f:aV Y σ σ')(hY:∀j,L+2<=j->j<L+2+2*g.ns.length->¬Y j):Nodes σ' L g :=
 ⟨h.nd,λi x hi=>⟨f.at (h.at_ i x hi).1 (hY _ (aA (aB 0x280af12b280aaa1 rfl)) (by have:=o8 hi;exact ltN (aC 0x22b280aa12b280aa11f2a2 rfl this))),f.at (h.at_ i x hi).2 (hY _ (aA (aB 0x280af12b380aaa1 rfl)) (by have:=o8 hi;exact ltN (aC 0x22b380aa12b280aa11f2a2 rfl this)))⟩,h.df⟩
theorem fJ.setNp {v:Int}(B:fJ σ L g)(hi:g.ns[i]?=some x):fJ (σ.set (L+2+2*i) (.inst 1 [(4,.int x),(5,.int v),(6,.ref (L+3+2*i))])) L {g with np:=upd g.np x v} :=
 ⟨bB B.inst (λU=>(aB 0x012b280aa1 rfl (aQ U))),bB B.dict (λU=>(aB 0xf0a12b280aa1 rfl (aQ U))),B.nodes.setNp hi,by rw[length_set];exact B.len⟩
theorem fJ.setSu {l:List Int}(B:fJ σ L g)(hi:g.ns[i]?=some x):fJ (σ.set (L+3+2*i) (.list (l.map .int))) L {g with su:=upd g.su x l} :=
 ⟨bB B.inst (λU=>(aB 0x012b380aa1 rfl (aQ U))),bB B.dict (λU=>(aB 0xf0a12b380aa1 rfl (aQ U))),B.nodes.setSu hi,by rw[length_set];exact B.len⟩
end
theorem TG {fn:Fn}{args:List D}(hs:fn.star=true)(hd:fn.dn=0)(h1:args.length<1000)(h2:fn.np<=args.length):oX fn args=some ((args.take fn.np++[D.tup (args.drop fn.np)]).map some++replicate (fn.ns-(fn.np+1)) .none):=by
 have e1:¬args.length>lim:=by unfold lim;omega
 have e2:¬(args.length<fn.np/\fn.np<=args.length+fn.dn):=λU=>(aB 0x0f1a1101 rfl h2 U.1);unfold oX;rw[if_neg e1,if_neg e2,if_pos hs,if_pos h2]
noncomputable def Gr.bump (g:Gr)(x:Int)(k:Nat):Gr:={g with np:=upd g.np x (g.np x+k)}
noncomputable def Gr.link (x:Int)(g:Gr)(p:Int):Gr:={g.touch p with su:=upd g.su p (g.su p++[x])}
noncomputable def Gr.add (g:Gr)(x:Int)(ps:List Int):Gr:=ps.foldl (Gr.link x) ((g.touch x).bump x ps.length)
theorem qbY {g:Gr}{x:Int}:(g.touch x).ns.length<=g.ns.length+1:=by
 unfold Gr.touch;by_cases h:x∈g.ns
 ·rw[if_pos h];exact le_succ _
 ·rw[if_neg h];show (g.ns++[x]).length<=_;rw[length_append];exact le_refl _
theorem wR {g:Gr}{x:Int}:(g.touch x).ns[(g.touch x).ix x]?=some x:=rP QZ
section
variable {P:gY}(H:nM P){σ:Store}{L:Nat}{g:Gr}{m:Nat}{x:Int}
include H
theorem WM (B:fJ σ L g)(hl:g.ns.length<1000){r:Loc}{v:Nat}(h0:r[0]?=some (some (.ref L)))(hv:r[v]?=some (some (.int x))):∃σ',ev ⟨P.globs,bD P (m+2)⟩ (.umeth (.var 0) 3 [.var v]) r σ=some (.ref (L+2+2*(g.touch x).ix x),σ')/\fJ σ' L (g.touch x)/\aV (L<=·) σ σ':=by
 obtain⟨σ',e,B',f⟩:=qgI H (m:=m) (x:=x) B hl;exact⟨σ',rG (X:=⟨P.globs,bD P (m+2)⟩) (aO h0) (rQ B.inst) (dW (aO hv) λ_ q=>nomatch q) e,B',f⟩
noncomputable def qfS:List S:=[.assign (.name 5) (.umeth (.var 0) 3 [.var 4]),.expr (.bmeth (.attr (.var 5) 6) .append [.var 1])]
omit H in
theorem qak {x:Int}:∀{ps:List Int} {g:Gr} {y:Int},((ps.foldl (Gr.link x) g).su y).length<=(g.su y).length+ps.length
 | [],_,_=>le_refl _
 | p::ps,g,y=>by
  have h:=qak (x:=x) (ps:=ps) (g:=g.link x p) (y:=y);have h2:((g.link x p).su y).length<=(g.su y).length+1:=by
   show (upd g.su p (g.su p++[x]) y).length<=_;by_cases e:y=p
   ·rw[e,nD,length_append];exact le_refl _
   ·rw[lA e];exact le_succ _
  rw[foldl_cons,length_cons];exact aA (aL 0x2ff1a0aa113a21f0a31 rfl h2 h)
theorem qaj {t:Option D}:∀(ps:List Int) {σ:Store} {g:Gr} {a b c:Option D},fJ σ L g->g.ns.length+ps.length<1000->(∀y,(g.su y).length+ps.length<1000) ->
  ∃σ' b' c',forL (exs ⟨P.globs,bD P (m+2)⟩ 1000 qfS) (cA ⟨P.globs,bD P (m+2)⟩ (.name 4)) (ps.map .int) [some (.ref L),some (.int x),t,a,b,c] σ=some (.next,[some (.ref L),some (.int x),t,a,b',c'],σ')/\fJ σ' L (ps.foldl (Gr.link x) g)/\aV (L<=·) σ σ'
 | [],σ,g,a,b,c,B,_,_=>⟨σ,b,c,rfl,B,aV.refl⟩
 | p::ps,σ,g,a,b,c,B,hl,hs=>by
  rw[length_cons]at hl;simp only[length_cons]at hs;refine bM (WM H (m:=m) (x:=p) B (ltN (aB 0x03e8913e89ff1a0aa1 rfl hl)) (r:=[some (.ref L),some (.int x),t,a,some (.int p),c]) (v:=4) rfl rfl) λσ1 e1 B1 f1=>?_;obtain⟨n1,n2⟩:=B1.nodes.at_ _ p wR;have dM:(g.touch p).su=g.su:=wU.2;have hsp:=hs p;have B2:=B1.setSu (l:=(g.touch p).su p++[x]) wR;have e2:ev ⟨P.globs,bD P (m+2)⟩ (.bmeth (.attr (.var 5) 6) .append [.var 1]) [some (.ref L),some (.int x),t,a,some (.int p),some (.ref (L+2+2*(g.touch p).ix p))] σ1=some (.none,σ1.set (L+3+2*(g.touch p).ix p) (.list (((g.touch p).su p++[x]).map .int))) :=
   gA (gG rfl (eO n1 rfl)) (kZ n2) rfl (pJ n2 (by rw[length_map,dM];exact ltN (aB 0x03e8913e89ff1a0aa1 rfl hsp)) (by rw[map_append];rfl))
  have hg:({g.touch p with su:=upd (g.touch p).su p ((g.touch p).su p++[x])}:Gr)=g.link x p:=by rw[dM];rfl
  rw[hg]at B2;have htl:=qbY (g:=g) (x:=p);obtain⟨σ3,b',c',e3,B3,f3⟩:=qaj ps (a:=a) (b:=some (.int p)) (c:=some (.ref (L+2+2*(g.touch p).ix p))) B2 (by show (g.touch p).ns.length+_<_;exact ltN (aC 0x10a3e8913e89ff1a2aa1f2a01 rfl htl hl)) λy=>by
   have:=qak (x:=x) (ps:=[p]) (g:=g) (y:=y);have h2:=hs y;simp only[foldl_cons,List.foldl_nil,length_cons,length_nil]at this;exact ltN (aC 0x10a3e891f08a2a013e89ff1a2aa1 rfl h2 this)
  exact⟨σ3,b',c',iB rfl (aP (cH e1) (aP (jH e2) rfl)) e3,B3,(f1.trans (aV.set (aA (aB 0x0f12b380aaa1 rfl)))).trans f3⟩
theorem qcF (B:fJ σ L g){ps:List Int}(hl:g.ns.length+ps.length<900)(hs:∀y,(g.su y).length+ps.length<900):∃σ',bD P (m+3) 4 (.ref L::.int x::ps.map .int) σ=some (.none,σ')/\fJ σ' L (g.add x ps)/\aV (L<=·) σ σ':=by
 refine bM (WM H (m:=m) (x:=x) B (ltN (aB 0x03e8913849f10aa1 rfl hl)) (r:=[some (.ref L),some (.int x),some (.tup (ps.map .int)),.none,.none,.none]) (v:=1) rfl rfl) λσ1 e1 B1 f1=>?_;have B2:=B1.setNp (v:=(g.touch x).np x+ps.length) wR;have dM:(g.touch x).su=g.su:=wU.2;have htl:=qbY (g:=g) (x:=x);refine fY (qaj H (m:=m) (x:=x) (t:=some (.tup (ps.map .int))) ps (a:=some (.ref (L+2+2*(g.touch x).ix x))) (b:=.none) (c:=.none) B2 (by show (g.touch x).ns.length+_<_;exact ltN (aC 0x10a3e8913849f12aa1f2a01 rfl htl hl)) λy=>by
  show ((g.touch x).su y).length+_<_;rw[dM];have:=hs y;exact ltN (aB 0x10a3e8913849f10aa1 rfl this)) λσ3 b' c' e3 B3 f3=>?_
 refine⟨σ3,?_,B3,(f1.trans (aV.set (aA (aB 0x0f12b280aaa1 rfl)))).trans f3⟩;apply vD H.W (fn:=SG.f_add) (r:=[some (.ref L),some (.int x),some (.tup (ps.map .int)),.none,.none,.none]) H.f4 (by
  exact TG rfl rfl (by simp only[length_cons,length_map];exact ltN (aB 0xff0aa3e8913849f01aa1 rfl hl)) (by show 2<=_;simp only[length_cons];exact aA (aK 0x28fff0aaa1 rfl)))
 refine aP (r':=[some (.ref L),some (.int x),some (.tup (ps.map .int)),.none,.none,.none]) (s':=σ) (lU (cR (gG rfl (eO B.inst rfl)) rfl rfl)) ?_;refine aP (cH e1) ?_;refine aP (yQ (op:=.Add) (i:=(g.touch x).np x) (j:=ps.length) rfl (eO (B1.nodes.at_ _ x wR).1 rfl) (lL (dW (e:=.var 2) rfl λ_ q=>nomatch q) ?_) rfl (j8 (B1.nodes.at_ _ x wR).1 rfl rfl)) ?_
 ·show some (D.int ((ps.map D.int).length:Nat),σ1)=_;rw[length_map]
 ·exact aP (yZ rfl e3) rfl
end
noncomputable def g0:Gr:=⟨[],λ_=>0,λ_=>[]⟩
noncomputable def mL (L R:Nat)(p f:Int):List (Nat×D):=[(0,.ref (L+1)),(1,.ref R),(2,.int p),(3,.int f)]
structure Run (σ:Store) (L R:Nat) (g:Gr) (rd:List Int) (p f:Int):Prop where
 inst:σ[L]?=some (.inst 0 (mL L R p f))
 dict:σ[L+1]?=some (.dict (dct L g.ns 0))
 nodes:Nodes σ L g
 ready:σ[R]?=some (.list (rd.map .int))
 hR:L+2+2*g.ns.length<=R
noncomputable def Own (L R n j:Nat):Prop:=j=R\/(L<=j/\j<L+2+2*n)
theorem Run.frm {σ σ':Store}{L R:Nat}{g:Gr}{rd:List Int}{p f:Int}{Y:Nat->Prop}(h:Run σ L R g rd p f)(k:aV Y σ σ')(hY:∀j,Own L R g.ns.length j->¬Y j):Run σ' L R g rd p f :=
 ⟨k.at h.inst (hY _ (.inr (by exact⟨(aA (aK 0x0f0a1 rfl)),(ltN (aB 0x012b280aa1 rfl))⟩))),k.at h.dict (hY _ (.inr (by exact⟨(aA (aK 0x0ff0aa1 rfl)),(ltN (aB 0xf0a12b280aa1 rfl))⟩))),h.nodes.frm k λj h1 h2=>hY _ (.inr (by exact⟨(aA (aB 0x1f0a10281a1 rfl h1)),(ltN (aC 0x212b280aa112b280aaf2a1 rfl h2))⟩)),k.at h.ready (hY _ (.inl rfl)),h.hR⟩
section
variable {P:gY}(H:nM P){σ:Store}{L R:Nat}{g:Gr}{m:Nat}{x:Int}{rd:List Int}{p f:Int}
include H
theorem qgB {r:Loc}:∃σ',ev ⟨P.globs,bD P (m+1)⟩ (.new 0 []) r σ=some (.ref σ.length,σ')/\fJ σ' σ.length g0/\aV (λ_=>False) σ σ':=by
 let L:=σ.length;have a1:(σ++[O.inst 0 [],.dict []])[L]?=some (.inst 0 []):=by rw[getElem?_append_right (le_refl _),sub_self];rfl
 have e1:∀o,(σ++[O.inst 0 [],.dict []]).set L o=σ++[o,.dict []]:=λo=>by rw[set_append_right _ _ (le_refl _),sub_self];rfl
 have a2:∀o,(σ++[o,O.dict []])[L]?=some o:=λo=>by rw[getElem?_append_right (le_refl _),sub_self];rfl
 have e2:∀o o',(σ++[o,O.dict []]).set L o'=σ++[o',.dict []]:=λo o'=>by rw[set_append_right _ _ (le_refl _),sub_self];rfl
 have hi:bD P (m+1) 1000 [.ref L] (σ++[.inst 0 []])=some (.none,σ++[.inst 0 (at0 L),.dict []]):=by
  apply vD H.W (fn:=SG.f_init_TopologicalSorter) (r:=[some (.ref L),some .none,.none,.none]) H.f1000 rfl;refine aP (r':=[some (.ref L),some .none,.none,.none]) (s':=σ++[.inst 0 [(0,.ref (L+1))],.dict []]) (lN (d:=.ref (L+1)) (s1:=σ++[.inst 0 [],.dict []]) ?_ (nR rfl (j8 a1 rfl (e1 _)))) ?_
  ·show some (D.ref (σ++[O.inst 0 []]).length,(σ++[O.inst 0 []])++[O.dict []])=_;rw[length_append,append_assoc];rfl
  refine aP (r':=[some (.ref L),some .none,.none,.none]) (lN rfl (nR rfl (j8 (a2 _) rfl (e2 _ _)))) ?_;refine aP (r':=[some (.ref L),some .none,.none,.none]) (lN rfl (nR rfl (j8 (a2 _) rfl (e2 _ _)))) ?_;refine aP (r':=[some (.ref L),some .none,.none,.none]) (lN rfl (nR rfl (j8 (a2 _) rfl (e2 _ _)))) ?_;exact aP (by exact lU (cR rfl rfl rfl)) rfl
 refine⟨σ++[.inst 0 (at0 L),.dict []],WL (c:=0) (s1:=σ) rfl hi,⟨a2 _,?_,⟨nodup_nil,λi x h=>(by cases h),λx _=>⟨rfl,rfl⟩⟩,?_⟩,aV.app⟩
 ·rw[getElem?_append_right (le_succ _),Nat.succ_sub (le_refl _),sub_self];rfl
 ·rw[length_append];rfl
omit H in
theorem qaH (hd:σ[L+1]?=some (.dict (dct L g.ns 0)))(hn:g.ns.Nodup){i:Nat}(hi:g.ns[i]?=some x):getItem σ (.ref (L+1)) (.int x)=some (.ref (L+2+2*i)):=by
 have:=vI (L:=L) (k:=0) hn hi;rw[zero_add]at this;exact item_at hd this
noncomputable def outs (np:Int->Int)(l:List Int):Int->Int:=l.foldl (λnp x=>upd np x (-1)) np
theorem qbd {a b:Option D}:∀(l:List Int) {σ:Store} {g:Gr} {c:Option D},Run σ L R g rd p f->(∀x∈l,x∈g.ns) ->
  ∃σ' c',forL (exs ⟨P.globs,bD P m⟩ 1000 [.assign (.attr (.idx (.var 2) (.var 3)) 5) (.glob 0)]) (cA ⟨P.globs,bD P m⟩ (.name 3)) (l.map .int) [a,b,some (.ref (L+1)),c] σ=some (.next,[a,b,some (.ref (L+1)),c'],σ')/\Run σ' L R {g with np:=outs g.np l} rd p f/\aV (Own L R g.ns.length) σ σ'
 | [],σ,g,c=>λh _=>⟨σ,c,rfl,h,aV.refl⟩
 | x::l,σ,g,c=>λh hl=>by
  have hx:=rP (hl x mem_cons_self);have hlt:=o8 hx;have hR:=h.hR;obtain⟨n1,n2⟩:=h.nodes.at_ _ x hx;have h':Run (σ.set (L+2+2*g.ns.idxOf x) (.inst 1 [(4,.int x),(5,.int (-1)),(6,.ref (L+3+2*g.ns.idxOf x))])) L R {g with np:=upd g.np x (-1)} rd p f :=
   ⟨bB h.inst (by exact λU=>(aB 0x012b280aa1 rfl (aQ U))),bB h.dict (by exact λU=>(aB 0xf0a12b280aa1 rfl (aQ U))),h.nodes.setNp hx,bB h.ready (by exact λU=>(aL 0x3f2a2032b281aa122b281aa01 rfl (aW U) hR hlt)),h.hR⟩
  obtain⟨σ',c',e,hr,fr⟩:=qbd l (c:=some (.int x)) h' λy hy=>hl y (mem_cons_of_mem _ hy);refine⟨σ',c',iB rfl (aP (by exact bnd (a:=(.int (-1),σ)) (bnd H.g0 rfl) (bnd (nR (eF rfl rfl (qaH h.dict h.nodes.nd hx)) (j8 n1 rfl rfl)) rfl)) rfl) e,hr,aV.trans (aV.set (.inr ⟨by exact aA (aB 0x0f12b280aaa1 rfl),by exact ltN (aC 0x22b280aa12b280aa11f2a2 rfl hlt)⟩)) fr⟩
theorem qeH (h:Run σ L R g rd p f)(hrd:∀x∈rd,x∈g.ns):∃σ',bD P (m+1) 6 [.ref L] σ=some (.tup (rd.map .int),σ')/\Run σ' L R {g with np:=outs g.np rd} [] (p+rd.length) f/\aV (Own L R g.ns.length) σ σ':=by
 refine cY (qbd H (m:=m) (a:=some (.ref L)) (b:=some (.tup (rd.map .int))) rd (c:=.none) h hrd) λσ1 c' e1 h1 f1=>?_;have hR:L+2+2*g.ns.length<=R:=h.hR;have g2:(σ1.set R (.list []))[L]?=some (.inst 0 (mL L R p f)):=bB h1.inst (by exact λU=>(aC 0x022b281aa1101 rfl (aQ U) hR));refine⟨(σ1.set R (.list [])).set L (.inst 0 (mL L R (p+rd.length) f)),?_,⟨cZ g2,bB (bB h1.dict (by exact λU=>(aC 0x022b281aa1f1a01 rfl (aQ U) hR))) (by exact λU=>(aK 0x0f0a1 rfl (aW U))),(h1.nodes.frm (aV.set (Y:=λj=>j=R) rfl) λj _ h2 e=>by have h2:j<L+2+2*g.ns.length:=h2;exact lin [_,_,_,_] 0x322b281aa103122b281aaf0a1 rfl h2 (aW e) hR).frm (aV.set (Y:=λj=>j=L) rfl) λj h2 _ e=>by exact lin [_,_] 0x0281a1101 rfl (aQ e) h2,bB (cZ h1.ready) (by exact λU=>(aC 0x022b281aa1101 rfl (aW U) hR)),hR⟩,
  f1.trans (aV.trans (aV.set (.inl rfl)) (aV.set (.inr ⟨by exact aA (aK 0x0f0a1 rfl),by exact ltN (aB 0x012b280aa1 rfl)⟩)))⟩
 apply call_of H.W (fn:=SG.f_get_ready) (r:=[some (.ref L),.none,.none,.none]) H.f6 rfl;have at1:∀{σ:Store} {p f:Int},σ[L]?=some (.inst 0 (mL L R p f))->∀r,ev ⟨P.globs,bD P m⟩ (.attr (.var 0) 1) (some (.ref L)::r) σ=some (.ref R,σ):=λhi r=>gG rfl (eO hi rfl);refine aP (r':=[some (.ref L),.none,.none,.none]) (s':=σ) (by exact lU (cR (at1 h.inst _) rfl rfl)) ?_;refine aP (r':=[some (.ref L),some (.tup (rd.map .int)),.none,.none]) (s':=σ) (by exact cH (lL (dW (at1 h.inst _) λ_ q=>nomatch q) (bnd (a:=rd.map .int) (bnd (f:=j5) h.ready rfl) rfl))) ?_;refine aP (r':=[some (.ref L),some (.tup (rd.map .int)),some (.ref (L+1)),.none]) (s':=σ) (by exact cH (gG rfl (eO h.inst rfl))) ?_;refine aP (by exact yZ rfl e1) ?_;refine aP (r':=[some (.ref L),some (.tup (rd.map .int)),some (.ref (L+1)),c']) (s':=σ1.set R (.list [])) (by exact jH (gA (at1 h1.inst _) (kZ h1.ready) rfl (qde h1.ready rfl))) ?_;refine aP (r':=[some (.ref L),some (.tup (rd.map .int)),some (.ref (L+1)),c']) (s':=(σ1.set R (.list [])).set L (.inst 0 (mL L R (p+rd.length) f))) (by
  refine yQ (op:=.Add) (i:=p) (j:=rd.length) rfl (eO g2 rfl) (lL (dW (e:=.var 1) rfl λ_ q=>nomatch q) ?_) rfl (j8 g2 rfl rfl);show some (D.int ((rd.map D.int).length:Nat),σ1.set R (.list []))=_;rw[length_map]) ?_
 exact oF rfl
end
noncomputable abbrev oU:=(Int->Int)×List Int
noncomputable def iZ (t:oU)(s:Int):oU:=(upd t.1 s (t.1 s-1),if t.1 s-1=0 then t.2++[s] else t.2)
noncomputable def jF (su:Int->List Int)(t:oU)(x:Int):oU:=(su x).foldl iZ (upd t.1 x (-2),t.2)
noncomputable def w5 (su:Int->List Int)(ns:List Int):oU->List Int->Prop
 | _,[]=>True
 | t,x::xs=>(x∈ns/\t.1 x=-1/\t.2.length+(su x).length<900/\∀y∈su x,y∈ns)/\w5 su ns (jF su t x) xs
structure Tl (σ:Store) (L R:Nat) (ns:List Int) (t:oU) (p f:Int):Prop where
 inst:σ[L]?=some (.inst 0 (mL L R p f))
 dict:σ[L+1]?=some (.dict (dct L ns 0))
 nd:ns.Nodup
 ins:∀(i:Nat) (x:Int),ns[i]?=some x->σ[L+2+2*i]?=some (.inst 1 [(4,.int x),(5,.int (t.1 x)),(6,.ref (L+3+2*i))])
 ready:σ[R]?=some (.list (t.2.map .int))
 hR:L+2+2*ns.length<=R
noncomputable def Yt (L R n j:Nat):Prop:=j=R\/∃i,i<n/\j=L+2+2*i
theorem qka (t:oU)(s:Int):(iZ t s).2.length<=t.2.length+1:=by
 unfold iZ;dsimp only;split
 ·rw[length_append];exact le_refl _
 ·exact le_succ _
noncomputable def QW:List S:=[.assign (.name 7) (.idx (.var 2) (.var 6)),.aug (.var 7) 5 .Sub (.int 1),.ife (.cmp .Eq (.attr (.var 7) 5) (.int 0)) [.expr (.bmeth (.attr (.var 0) 1) .append [.var 6])] []]
noncomputable def doneBody:List S:=[.ifNone 4 (.bmeth (.var 2) .get [.var 3]) [.bad],.assign (.name 5) (.attr (.var 4) 5),.ife (.cmp .NotEq (.var 5) (.glob 0)) [.ife (.cmp .GtE (.var 5) (.int 0)) [.bad] [.ife (.cmp .Eq (.var 5) (.glob 1)) [.bad] [.bad]]] [],.assign (.attr (.var 4) 5) (.glob 1),.fore (.name 6) (.attr (.var 4) 6) QW,.aug (.var 0) 3 .Add (.int 1)]
section
variable {X:aU}{L R:Nat}{ns:List Int}{p f:Int}{a b c d:Option D}
theorem QX:∀(l:List Int) {σ:Store} {t:oU} {r6 r7:Option D},Tl σ L R ns t p f->(∀y∈l,y∈ns)->t.2.length+l.length<1000 ->
  ∃σ' lY lZ,forL (exs X 1000 QW) (cA X (.name 6)) (l.map .int) [some (.ref L),a,some (.ref (L+1)),b,c,d,r6,r7] σ=some (.next,[some (.ref L),a,some (.ref (L+1)),b,c,d,lY,lZ],σ')/\Tl σ' L R ns (l.foldl iZ t) p f/\aV (Yt L R ns.length) σ σ'
 | [],σ,t,r6,r7=>λh _ _=>⟨σ,r6,r7,rfl,h,aV.refl⟩
 | y::l,σ,t,r6,r7=>λh hl hlen=>by
  have hy:=rP (hl y mem_cons_self);have hlt:=o8 hy;have hR:=h.hR;have hi:=h.ins _ y hy;generalize ns.idxOf y=i at hy hlt hi;rw[length_cons]at hlen;let σ1:=σ.set (L+2+2*i) (.inst 1 [(4,.int y),(5,.int (t.1 y-1)),(6,.ref (L+3+2*i))]);have e1:ex X 1000 (.assign (.name 7) (.idx (.var 2) (.var 6))) [some (.ref L),a,some (.ref (L+1)),b,c,d,some (.int y),r7] σ=some (.next,[some (.ref L),a,some (.ref (L+1)),b,c,d,some (.int y),some (.ref (L+2+2*i))],σ) :=
   cH (eF rfl rfl (qaH (g:=⟨ns,t.1,λ_=>[]⟩) h.dict h.nd hy))
  have e2:ex X 1000 (.aug (.var 7) 5 .Sub (.int 1)) [some (.ref L),a,some (.ref (L+1)),b,c,d,some (.int y),some (.ref (L+2+2*i))] σ=some (.next,[some (.ref L),a,some (.ref (L+1)),b,c,d,some (.int y),some (.ref (L+2+2*i))],σ1) :=
   yQ rfl (eO hi rfl) rfl rfl (j8 hi rfl rfl)
  have h1:Tl σ1 L R ns (upd t.1 y (t.1 y-1),t.2) p f:=⟨bB h.inst (λU=>(aB 0x012b280aa1 rfl (aQ U))),bB h.dict (λU=>(aB 0xf0a12b280aa1 rfl (aQ U))),h.nd,λj z hz=>by
   by_cases e:i=j
   ·subst e;cases (sG h.nd hy hz).mp rfl;show _=some (O.inst 1 [(4,.int y),(5,.int (upd t.1 y (t.1 y-1) y)),(6,_)]);rw[nD];exact cZ hi
   ·show _=some (O.inst 1 [(4,.int z),(5,.int (upd t.1 y (t.1 y-1) z)),(6,_)]);rw[lA λq=>e ((sG h.nd hy hz).mpr q.symm)];exact bB (h.ins j z hz) (λU=>(cF e ((aC 0x1f0a202b282aa12b282aa1 rfl (aW U))) (aC 0x1f0a202b282aa12b282aa1 rfl (aQ U)))),bB h.ready (λU=>(aL 0x032b281aa13f2a222b281aa01 rfl (aW U) hlt hR)),h.hR⟩
  have f1:aV (Yt L R ns.length) σ σ1:=aV.set (.inr ⟨i,hlt,rfl⟩);have e3:test X (.cmp .Eq (.attr (.var 7) 5) (.int 0)) [some (.ref L),a,some (.ref (L+1)),b,c,d,some (.int y),some (.ref (L+2+2*i))] σ1=some (t.1 y-1==0,σ1) :=
   qR (cR (gG rfl (eO (cZ hi) rfl)) rfl rfl)
  rw[foldl_cons];have htl:=qka t y;by_cases hz:t.1 y-1=0
  ·have h2:Tl (σ1.set R (.list ((t.2++[y]).map .int))) L R ns (iZ t y) p f:=by
    unfold iZ;rw[if_pos hz];exact⟨bB h1.inst (λU=>(aL 0x032b281aa13f2a2101 rfl (aQ U) hlt hR)),bB h1.dict (λU=>(aL 0x032b281aa13f2a2f1a01 rfl (aQ U) hlt hR)),h.nd,λj z hz=>bB (h1.ins j z hz) (by have:=o8 hz;exact λU=>(aL 0x032b281aa13f2a222b281aa01 rfl (aQ U) this hR)),cZ h1.ready,h.hR⟩
   refine fY (QX l (r6:=some (.int y)) (r7:=some (.ref (L+2+2*i))) h2 (λz hz=>hl z (mem_cons_of_mem _ hz)) (ltN (aC 0x10a3e8913e89ff1a2aa1f2a01 rfl htl hlen))) λσ' lY lZ e hT fr=>?_;refine⟨σ',lY,lZ,iB rfl (aP e1 (aP e2 (aP (jL e3 (λ_=>?_) λq=>absurd (beq_iff_eq.mpr hz) (by rw[q];decide)) rfl))) e,hT,(f1.trans (aV.set (.inl rfl))).trans fr⟩;exact aP (jH (gA (gG rfl (eO h1.inst rfl)) (kZ h1.ready) rfl (pJ h1.ready (by rw[length_map];show t.2.length<1000;exact ltN (aB 0x03e8913e89ff1a0aa1 rfl hlen)) (by rw[map_append];rfl)))) rfl
  ·have h2:Tl σ1 L R ns (iZ t y) p f:=by
    unfold iZ;rw[if_neg hz];exact h1
   refine fY (QX l (r6:=some (.int y)) (r7:=some (.ref (L+2+2*i))) h2 (λz hz=>hl z (mem_cons_of_mem _ hz)) (ltN (aC 0x10a3e8913e89ff1a2aa1f2a01 rfl htl hlen))) λσ' lY lZ e hT fr=>?_;exact⟨σ',lY,lZ,iB rfl (aP e1 (aP e2 (aP (jL e3 (λq=>absurd (eq_of_beq q) hz) λ_=>rfl) rfl))) e,hT,f1.trans fr⟩
theorem qdx {σ:Store}{g:Gr}{x:Int}{i:Nat}(hn:g.ns.Nodup)(hi:g.ns[i]?=some x)(hd:σ[L+1]?=some (.dict (dct L g.ns 0))):bmeth .get σ (.ref (L+1)) [.int x]=some (.ref (L+2+2*i),σ):=by
 have:=vI (L:=L) (k:=0) hn hi;rw[zero_add]at this;exact J9 hd (by rw[this];rfl)
theorem done_one (hX0:X.globs 0=some (.int (-1)))(hX1:X.globs 1=some (.int (-2))){σ:Store}{g:Gr}{rd:List Int}{x:Int}{r4 r5 r6 r7:Option D}(h:Run σ L R g rd p f)(hx:x∈g.ns)(hn:g.np x=-1)(hs:∀y∈g.su x,y∈g.ns)(hl:rd.length+(g.su x).length<900) :
  ∃σ' OD OJ lY lZ,exs X 1000 doneBody [some (.ref L),a,some (.ref (L+1)),some (.int x),r4,r5,r6,r7] σ=some (.next,[some (.ref L),a,some (.ref (L+1)),some (.int x),OD,OJ,lY,lZ],σ')/\Run σ' L R {g with np:=(jF g.su (g.np,rd) x).1} (jF g.su (g.np,rd) x).2 p (f+1)/\aV (Own L R g.ns.length) σ σ':=by
 have hi:=rP hx;have hlt:=o8 hi;have hR:=h.hR;obtain⟨n1,n2⟩:=h.nodes.at_ _ x hi;generalize g.ns.idxOf x=i at hi hlt n1 n2;rw[hn]at n1;let σ1:=σ.set (L+2+2*i) (.inst 1 [(4,.int x),(5,.int (-2)),(6,.ref (L+3+2*i))]);have s1:=h.nodes.setNp (v:=-2) hi;have m2:σ1[L+3+2*i]?=some (.list ((g.su x).map .int)):=bB n2 (λU=>(aB 0x12b280aa12b380aa1 rfl (aW U)));let σ2:=σ1.set (L+3+2*i) (.llist ((g.su x).map .int));have T0:Tl σ2 L R g.ns (upd g.np x (-2),rd) p f:=⟨bB (bB h.inst (λU=>(aB 0x012b280aa1 rfl (aQ U)))) (λU=>(aB 0x012b380aa1 rfl (aQ U))),bB (bB h.dict (λU=>(aB 0xf0a12b280aa1 rfl (aQ U)))) (λU=>(aB 0xf0a12b380aa1 rfl (aQ U))),h.nodes.nd,λj y hy=>bB (s1.at_ j y hy).1 (by omega),bB (bB h.ready (λU=>(aL 0x032b281aa13f2a222b281aa01 rfl (aW U) hlt hR))) (λU=>(aL 0x032b281aa13f2a222b381aa01 rfl (aW U) hlt hR)),h.hR⟩;refine fY (QX (X:=X) (a:=a) (b:=some (.int x)) (c:=some (.ref (L+2+2*i))) (d:=some (.int (-1))) (g.su x) (r6:=r6) (r7:=r7) T0 hs (by show rd.length+_<_;exact ltN (aB 0x10a3e8913849f10aa1 rfl hl))) λσ3 lY lZ e3 T3 f3=>?_;have hY:∀j,j<g.ns.length->¬Yt L R g.ns.length (L+3+2*j):=λj hj q=>by
  rcases q with q|⟨k,_,q⟩ <;> omega
 have m3:σ3[L+3+2*i]?=some (.llist ((g.su x).map .int)):=f3.at (cZ m2) (hY i hlt);let eY:=σ3.set (L+3+2*i) (.list ((g.su x).map .int));have i4:eY[L]?=some (.inst 0 (mL L R p f)):=bB T3.inst (λU=>(aB 0x012b380aa1 rfl (aQ U)));have em:ex X 1000 (.assign (.attr (.var 4) 5) (.glob 1)) [some (.ref L),a,some (.ref (L+1)),some (.int x),some (.ref (L+2+2*i)),some (.int (-1)),r6,r7] σ=some (.next,[some (.ref L),a,some (.ref (L+1)),some (.int x),some (.ref (L+2+2*i)),some (.int (-1)),r6,r7],σ1) :=
  lN (d:=.int (-2)) (bnd hX1 rfl) (nR rfl (j8 n1 rfl rfl))
 have hdn:jF g.su (g.np,rd) x=(g.su x).foldl iZ (upd g.np x (-2),rd):=rfl;have ef:ex X 1000 (.fore (.name 6) (.attr (.var 4) 6) QW) [some (.ref L),a,some (.ref (L+1)),some (.int x),some (.ref (L+2+2*i)),some (.int (-1)),r6,r7] σ1=some (.next,[some (.ref L),a,some (.ref (L+1)),some (.int x),some (.ref (L+2+2*i)),some (.int (-1)),lY,lZ],eY) :=
  X5 (k:=L+3+2*i) (gG rfl (eO (cZ n1) rfl)) m2 rfl rfl e3 m3 rfl rfl
 refine⟨eY.set L (.inst 0 (mL L R p (f+1))),some (.ref (L+2+2*i)),some (.int (-1)),lY,lZ,?_,⟨cZ i4,bB (bB T3.dict (λU=>(aB 0xf0a12b380aa1 rfl (aQ U)))) (λU=>(aK 0x0f0a1 rfl (aW U))),⟨h.nodes.nd,λj y hy=>?_,λy hy=>?_⟩,bB (bB T3.ready (λU=>(aL 0x032b281aa13f2a222b381aa01 rfl (aW U) hlt hR))) (λU=>(aL 0x032b281aa13f2a2101 rfl (aW U) hlt hR)),hR⟩,?_⟩
 ·refine aP (Z4 (gA rfl (PB h.dict) rfl (qdx h.nodes.nd hi h.dict))) (aP (cH (gG rfl (eO n1 rfl))) (aP (jL (t:=false) (qR (cR rfl (bnd hX0 rfl) rfl)) (λq=>nomatch q) λ_=>rfl) (aP em (aP ef (aP (yQ (op:=.Add) (i:=f) (j:=1) rfl (eO i4 rfl) rfl rfl (j8 i4 rfl rfl)) rfl)))))
 ·have hjl:=o8 hy;have hj:j<g.ns.length:=hjl;refine⟨bB (bB (T3.ins j y hy) (λq=>qgX q)) (λU=>(aB 0x012b280aa1 rfl (aW U))),?_⟩;by_cases e:i=j
  ·subst e;cases (sG h.nodes.nd hi hy).mp rfl;exact bB (cZ m3) (λU=>(aB 0x012b380aa1 rfl (aW U)))
  ·exact bB (bB (f3.at (bB (bB (h.nodes.at_ j y hy).2 (λU=>(cF e ((aC 0x1f0a202b282aa12b382aa1 rfl (aW U))) (aC 0x1f0a202b382aa12b282aa1 rfl (aQ U))))) (λU=>(cF e ((aC 0x1f0a202b382aa12b382aa1 rfl (aW U))) (aC 0x1f0a202b382aa12b382aa1 rfl (aQ U))))) (hY j hj)) (λU=>(cF e ((aC 0x1f0a202b382aa12b382aa1 rfl (aW U))) (aC 0x1f0a202b382aa12b382aa1 rfl (aQ U))))) (λU=>(aB 0x012b380aa1 rfl (aW U)))
 ·obtain⟨d1,d2⟩:=h.nodes.df y hy;refine⟨?_,d2⟩;have key:∀(l:List Int) (t:oU),(∀z∈l,z∈g.ns)->(l.foldl iZ t).1 y=t.1 y:=by
   intro l
   induction l with
   | nil=>intro t _;rfl
   | cons z l ih =>
    intro t hl;rw[foldl_cons,ih _ λw hw=>hl w (mem_cons_of_mem _ hw)];exact lA λe=>hy (by rw[e];exact hl z mem_cons_self)
  show ((g.su x).foldl iZ (upd g.np x (-2),rd)).1 y=0;rw[key _ _ hs];exact(lA λe=>hy (by rw[e];exact hx)).trans d1
 ·have q:∀j,Yt L R g.ns.length j->Own L R g.ns.length j:=λj q=>by
   rcases q with q|⟨k,hk,q⟩
   ·exact .inl q
   ·exact .inr ⟨aA (aC 0x1f0a1022b281aa1 rfl (aW q)),ltN (aL 0x212b280aa11f3a232b280aa21 rfl (aQ q) hk)⟩
  exact(((aV.set (.inr ⟨aA (aB 0x0f12b280aaa1 rfl),ltN (aC 0x22b280aa12b280aa11f2a2 rfl hlt)⟩)).trans (aV.set (.inr ⟨aA (aB 0x0f12b380aaa1 rfl),ltN (aC 0x22b380aa12b280aa11f2a2 rfl hlt)⟩))).trans (f3.mono q)).trans ((aV.set (.inr ⟨aA (aB 0x0f12b380aaa1 rfl),ltN (aC 0x22b380aa12b280aa11f2a2 rfl hlt)⟩)).trans (aV.set (.inr ⟨aA (aK 0x0f0a1 rfl),ltN (aB 0x012b280aa1 rfl)⟩)))
end
section
variable {P:gY}(H:nM P){L R m:Nat}{p:Int}
include H
theorem VK {a:Option D}{su:Int->List Int}:∀(xs:List Int) {σ:Store} {g:Gr} {rd:List Int} {f:Int} {r3 r4 r5 r6 r7:Option D},Run σ L R g rd p f->g.su=su->w5 su g.ns (g.np,rd) xs ->
  ∃σ' r3' OD OJ lY lZ,forL (exs ⟨P.globs,bD P m⟩ 1000 doneBody) (cA ⟨P.globs,bD P m⟩ (.name 3)) (xs.map .int) [some (.ref L),a,some (.ref (L+1)),r3,r4,r5,r6,r7] σ=some (.next,[some (.ref L),a,some (.ref (L+1)),r3',OD,OJ,lY,lZ],σ') /\
   Run σ' L R {g with np:=(xs.foldl (jF su) (g.np,rd)).1} (xs.foldl (jF su) (g.np,rd)).2 p (f+xs.length)/\aV (Own L R g.ns.length) σ σ'
 | [],σ,g,rd,f,r3,r4,r5,r6,r7,h,_,_=>⟨σ,r3,r4,r5,r6,r7,rfl,by rw[show f+(([]:List Int).length:Int)=f from Int.add_zero f];exact h,aV.refl⟩
 | x::xs,σ,g,rd,f,r3,r4,r5,r6,r7,h,dM,⟨⟨h1,h2,h3,h4⟩,h5⟩=>by
  subst dM;refine W0 (done_one (X:=⟨P.globs,bD P m⟩) (a:=a) (r4:=r4) (r5:=r5) (r6:=r6) (r7:=r7) H.g0 H.g1 h h1 h2 h4 h3) λσ1 q4 q5 q6 q7 e1 R1 f1=>?_;obtain⟨σ2,t3,t4,t5,t6,t7,e2,R2,f2⟩:=VK xs (r3:=some (.int x)) (r4:=q4) (r5:=q5) (r6:=q6) (r7:=q7) R1 rfl h5;refine⟨σ2,t3,t4,t5,t6,t7,iB rfl e1 e2,?_,f1.trans f2⟩;rw[length_cons,show f+((xs.length+1:Nat):Int)=f+1+xs.length from rs1];exact R2
theorem qdz {σ:Store}{g:Gr}{rd:List Int}{f:Int}{xs:List Int}(h:Run σ L R g rd p f)(ho:w5 g.su g.ns (g.np,rd) xs)(hl:xs.length<900) :
  ∃σ',bD P (m+1) 8 (.ref L::xs.map .int) σ=some (.none,σ')/\Run σ' L R {g with np:=(xs.foldl (jF g.su) (g.np,rd)).1} (xs.foldl (jF g.su) (g.np,rd)).2 p (f+xs.length)/\aV (Own L R g.ns.length) σ σ':=by
 refine qdG (VK H (m:=m) (a:=some (.tup (xs.map .int))) xs (r3:=.none) (r4:=.none) (r5:=.none) (r6:=.none) (r7:=.none) h rfl ho) λσ' t3 t4 t5 t6 t7 e R1 f1=>?_;refine⟨σ',?_,R1,f1⟩;apply vD H.W (fn:=SG.f_done) (r:=[some (.ref L),some (.tup (xs.map .int)),.none,.none,.none,.none,.none,.none]) H.f8 (TG rfl rfl (by simp only[length_cons,length_map];exact ltN (aK 0xf0a3e8913849f0a1 rfl hl)) (by show 1<=_;simp only[length_cons];exact aA (aK 0xfff0aa1 rfl)));refine aP (r':=[some (.ref L),some (.tup (xs.map .int)),.none,.none,.none,.none,.none,.none]) (s':=σ) (lU (cR (gG rfl (eO h.inst rfl)) rfl rfl)) ?_;refine aP (r':=[some (.ref L),some (.tup (xs.map .int)),some (.ref (L+1)),.none,.none,.none,.none,.none]) (s':=σ) (cH (gG rfl (eO h.inst rfl))) ?_;exact aP (yZ rfl e) rfl
end
structure Wy where
 x:Int
 k:Nat
 i:Nat
structure DS (σ:Store) (B L:Nat) (g:Gr) (fr:List Wy) (seen:List Int) (nk:Nat):Prop where
 stack:σ[B]?=some (.list (fr.reverse.map λf=>.int f.x))
 its:σ[B+1]?=some (.list (fr.reverse.map λf=>.ref (B+5+2*f.k)))
 seenH:σ[B+2]?=some (.set seen)
 keys:∃ks,σ[B+3]?=some (.dict ks)/\(∀y,fC y ks=true↔∃f∈fr,f.x=y)/\ks.length<=fr.length
 obs:∀f∈fr,σ[B+4+2*f.k]?=some (.iter (L+3+2*g.ix f.x) f.i)/\σ[B+5+2*f.k]?=some (.next (B+4+2*f.k))/\f.x∈g.ns
 kd:fr.Pairwise (λf f'=>f'.k<f.k)
 xd:fr.Pairwise (λf f'=>f'.x≠f.x)
 klt:∀f∈fr,f.k<nk
 len:σ.length=B+4+2*nk
 dict:σ[L+1]?=some (.ldict (dct L g.ns 0))
 nodes:Nodes σ L g
 low:L+2+2*g.ns.length<=B
 fl:fr.length<=seen.length
 sl:seen.length+(g.ns.filter λz=>!seen.contains z).length<=g.ns.length
 sub:∀f∈fr,f.x∈seen
noncomputable def d9 (L B:Nat)(x:Option D):Loc:=[some (.ref L),some (.ref (L+1)),some (.ref B),some (.ref (B+1)),some (.ref (B+2)),some (.ref (B+3)),x]
noncomputable def wt (g:Gr)(fr:List Wy):Nat:=(fr.map λf=>(g.su f.x).length-f.i).sum
noncomputable def us (g:Gr)(seen:List Int):Nat:=((g.ns.filter λz=>!seen.contains z).map λz=>1+(g.su z).length).sum
noncomputable def wH:List S:=[.tryNext 6 (.idx (.var 3) (.neg (.int 1))) [.del (.var 5) (.bmeth (.var 2) .pop []),.expr (.bmeth (.var 3) .pop [])]]
noncomputable def O2:List S:=[.expr (.bmeth (.var 4) .add [.var 6]),.expr (.bmeth (.var 3) .append [.nextOf (.bi .iter [.attr (.idx (.var 1) (.var 6)) 6])]),.assign (.sub (.var 5) (.var 6)) (.bi .len [.var 2]),.expr (.bmeth (.var 2) .append [.var 6])]
noncomputable def qaT:List S:=[.ife (.cmp .In (.var 6) (.var 4)) [.ife (.cmp .In (.var 6) (.var 5)) [.bad] []] O2,.whil (.var 2) wH [.brk]]
noncomputable def qew:List S:=[.ife (.cmp .In (.var 6) (.var 4)) [.cont] [],.whil (.bool true) qaT []]
theorem PK {α β:Type}(f:α->β)(a:α)(l:List α):((a::l).reverse.map f).getLast?=some (f a):=by
 rw[reverse_cons,map_append,List.getLast?_append];rfl
theorem qbi {α β:Type}(f:α->β)(a:α)(l:List α):((a::l).reverse.map f).dropLast=l.reverse.map f:=by
 rw[reverse_cons,map_append];exact List.dropLast_concat
theorem qdt {y z:Int}{ks:List (Int×D)}:fC z (dictDel y ks)=true↔fC z ks=true/\z≠y:=by
 unfold fC dictDel;rw[any_eq_true,any_eq_true];constructor
 ·rintro⟨e,he,q⟩;refine bI (mem_filter.mp he) λh1 h2=>?_;have q:=eq_of_beq q;exact⟨⟨e,h1,beq_iff_eq.mpr q⟩,λw=>by rw[q,w,beq_self_eq_true]at h2;cases h2⟩
 ·rintro⟨⟨e,he,q⟩,hne⟩;refine⟨e,mem_filter.mpr ⟨he,?_⟩,q⟩;rw[eq_of_beq q,beq_eq_false_iff_ne.mpr hne];rfl
theorem qdu {y:Int}{ks:List (Int×D)}(h:fC y ks=true):(dictDel y ks).length+1<=ks.length:=by
 unfold fC at h;refine aF (any_eq_true.mp h) λe he q=>?_;have:=List.length_filter_lt_length_iff_exists (p:=λe:Int×D=>!(e.1==y)) (l:=ks) |>.mpr ⟨e,he,by rw[q];decide⟩
 exact this
theorem qa8 {y z:Int}{v:D}{ks:List (Int×D)}(h:fC y ks=false):(fC z (dictPut y v ks)=true↔z=y\/fC z ks=true)/\(dictPut y v ks).length=ks.length+1:=by
 unfold fC at h;have e:dictPut y v ks=ks++[(y,v)]:=by unfold dictPut;rw[h];rfl
 rw[e];refine⟨?_,length_append⟩;unfold fC;rw[List.any_append,or_eq_true];show _\/(y==z||false)=true↔_;rw[Bool.or_false,beq_iff_eq];exact⟨λq=>q.elim .inr λq=>.inl q.symm,λq=>q.elim (λq=>.inr q.symm) .inl⟩
section
variable {X:aU}{σ:Store}{B L nk:Nat}{g:Gr}{fr:List Wy}{seen:List Int}
theorem DS.test (h:DS σ B L g fr seen nk)(x:Option D):test X (.var 2) (d9 L B x) σ=some (!fr.isEmpty,σ):=by
 refine bnd (a:=(.ref B,σ)) rfl (bnd (a:=!fr.isEmpty) ?_ rfl);show ((σ[B]?).bind j5).bind _=_;rw[h.stack];cases fr with
 | nil=>rfl
 | cons f r =>
  show some (!(List.map _ (f::r).reverse).isEmpty)=_;rw[List.isEmpty_map,List.isEmpty_reverse]
theorem Z9 (hbig:g.ns.length<900):∀(fr:List Wy) {σ:Store} (M:Nat) (x:Option D),fr.length<M->DS σ B L g fr seen nk->(∀f∈fr,∀y∈g.su f.x,y∈g.ns) ->
  ∃σ',aV (B<=·) σ σ'/\((∃f rest y,f∈fr/\(g.su f.x)[f.i]?=some y/\(∃pre,fr=pre++f::rest)/\oH (test X (.var 2)) (exs X 1000 wH) (exs X 1000 [.brk]) M (d9 L B x) σ=some (.next,d9 L B (some (.int y)),σ')/\DS σ' B L g (⟨f.x,f.k,f.i+1⟩::rest) seen nk/\wt g (⟨f.x,f.k,f.i+1⟩::rest)+1<=wt g fr) \/
   (oH (test X (.var 2)) (exs X 1000 wH) (exs X 1000 [.brk]) M (d9 L B x) σ=some (.brk,d9 L B x,σ')/\DS σ' B L g [] seen nk))
 | fr,σ,0=>λx hM h _=>absurd hM (not_lt_zero _)
 | [],σ,M+1=>λx hM h _=>⟨σ,aV.refl,.inr ⟨bnd (h.test x) rfl,h⟩⟩
 | f::r,σ,M+1=>λx hM h dM=>by
  refine cQ (h.obs f mem_cons_self) λo1 o2 o3=>?_;have hi:=rP o3;have hlt:=o8 hi;have hlow:=h.low;have hn:=(h.nodes.at_ _ f.x hi).2;have hr1:=(pairwise_cons.mp h.kd);have hx1:=(pairwise_cons.mp h.xd);have hf:ev X (.idx (.var 3) (.neg (.int 1))) (d9 L B x) σ=some (.ref (B+5+2*f.k),σ) :=
   eF (x:=.ref (B+1)) (y:=.int (-1)) rfl rfl (qfH h.its (PK _ f r))
  have hix:g.ix f.x=g.ns.idxOf f.x:=rfl;rw[hix]at o1;cases hs:(g.su f.x)[f.i]? with
  | some y =>
   have hs':((g.su f.x).map D.int)[f.i]?=some (.int y):=by rw[getElem?_map,hs];rfl
   let σ1:=σ.set (B+4+2*f.k) (.iter (L+3+2*g.ns.idxOf f.x) (f.i+1));have hil:=(List.getElem?_eq_some_iff.mp hs).1;have hD:DS σ1 B L g (⟨f.x,f.k,f.i+1⟩::r) seen nk:=by
    refine⟨bB (h.stack.trans (by rw[reverse_cons,reverse_cons,map_append,map_append];rfl)) (λU=>(aB 0x012b480aa1 rfl (aQ U))),bB (h.its.trans (by rw[reverse_cons,reverse_cons,map_append,map_append];rfl)) (λU=>(aB 0xf0a12b480aa1 rfl (aQ U))),bB h.seenH (λU=>(aB 0x280a12b480aa1 rfl (aQ U))),?_,?_,pairwise_cons.mpr hr1,pairwise_cons.mpr hx1,?_,by rw[length_set];exact h.len,bB h.dict (λU=>(aL 0x032b282aa1f2a12b480aa1 rfl (aQ U) hlow)),h.nodes.frm (aV.set (Y:=(B<=·)) (aA (aB 0x0f12b480aaa1 rfl))) (λj _ h2 h3=>lin [_,_,_,_] 0x032b282aa132b282aaf1a1101 rfl h3 h2 hlow),h.low,h.fl,h.sl,?_⟩
    ·refine bM (h.keys) λks k1 k2 k3=>?_;refine⟨ks,bB k1 (λU=>(aB 0x380a12b480aa1 rfl (aQ U))),λz=>(k2 z).trans ?_,k3⟩;simp only[mem_cons,exists_eq_or_imp]
    ·intro q hq;rcases mem_cons.mp hq with rfl|hq
     ·exact⟨cZ o1,bB o2 (by show B+4+2*f.k≠B+5+2*f.k;exact λU=>(aB 0x12b480aa12b580aa1 rfl (aW U))),o3⟩
     ·refine cQ (h.obs q (mem_cons_of_mem _ hq)) λp1 p2 p3=>?_;have:=hr1.1 q hq;exact⟨bB p1 (λU=>(aC 0x1f2a222b480aa12b480aa1 rfl (aQ U) this)),bB p2 (λU=>(aC 0x1f2a222b580aa12b480aa1 rfl (aQ U) this)),p3⟩
    ·intro q hq;rcases mem_cons.mp hq with rfl|hq
     ·exact h.klt f mem_cons_self
     ·exact h.klt q (mem_cons_of_mem _ hq)
    ·intro q hq;rcases mem_cons.mp hq with rfl|hq
     ·exact h.sub f mem_cons_self
     ·exact h.sub q (mem_cons_of_mem _ hq)
   refine⟨σ1,aV.set (aA (aB 0x0f12b480aaa1 rfl)),.inl ⟨f,r,y,mem_cons_self,hs,⟨[],rfl⟩,bnd (h.test x) ?_,hD,?_⟩⟩
   ·exact bnd (a:=(.brk,d9 L B (some (.int y)),σ1)) (bnd (a:=(.brk,d9 L B (some (.int y)),σ1)) (bnd hf (bnd (qgD o2 o1 hn hs' rfl) rfl)) rfl) rfl
   ·unfold wt;simp only[map_cons,sum_cons];exact aA (bN 0xf12aaf10aa13f4a2a140a31 rfl (aR _ _) (aM (aA (aB 0xf1af0a10f1a1 rfl hil))))
  | none =>
   have hs':((g.su f.x).map D.int)[f.i]?=none:=by rw[getElem?_map,hs];rfl
   refine hide λH gH=>?_;refine bM (h.keys) λks k1 k2 k3=>?_;have hk:fC f.x ks=true:=(k2 f.x).mpr ⟨f,mem_cons_self,rfl⟩;let σ1:=σ.set (B+4+2*f.k) .dead;let σ2:=σ1.set B (.list (r.reverse.map λf=>.int f.x));let σ3:=σ2.set (B+3) (.dict (dictDel f.x ks));let eY:=σ3.set (B+1) (.list (r.reverse.map λf=>.ref (B+5+2*f.k)));have s1:σ1[B]?=some (.list ((f::r).reverse.map λf=>.int f.x)):=bB h.stack (λU=>(aB 0x012b480aa1 rfl (aQ U)));have s3:σ3[B+1]?=some (.list ((f::r).reverse.map λf=>.ref (B+5+2*f.k))):=bB (bB (bB h.its (λU=>(aB 0xf0a12b480aa1 rfl (aQ U)))) (λU=>(aK 0x0f0a1 rfl (aW U)))) (λU=>(aK 0xf0a380a1 rfl (aQ U)));have s2:σ2[B+3]?=some (.dict ks):=bB (bB k1 (λU=>(aB 0x380a12b480aa1 rfl (aQ U)))) (λU=>(aK 0x0380a1 rfl (aW U)));have F4:aV (B<=·) σ eY:=((aV.set (aA (aB 0x0f12b480aaa1 rfl))).trans (aV.set (le_refl _))).trans ((aV.set (aA (aK 0x0f380aa1 rfl))).trans (aV.set (aA (aK 0x0ff0aa1 rfl))));have qfO:eY.length=σ.length:=by simp only[eY,σ3,σ2,σ1,length_set]
   have a4:∀{j:Nat} {o:O},σ[j]?=some o->j≠B+4+2*f.k->j≠B->j≠B+3->j≠B+1->eY[j]?=some o:=λh h1 h2 h3 h4=>bB (bB (bB (bB h (Ne.symm h1)) (Ne.symm h2)) (Ne.symm h3)) (Ne.symm h4);have hD:DS eY B L g r seen nk:=by
    refine⟨?_,cZ s3,a4 h.seenH (λU=>(aB 0x280a12b480aa1 rfl (aW U))) (λU=>(aK 0x0280a1 rfl (aQ U))) (λU=>(aK 0x280a380a1 rfl (aW U))) (λU=>(aK 0xf0a280a1 rfl (aQ U))),⟨dictDel f.x ks,bB (cZ s2) (λU=>(aK 0xf0a380a1 rfl (aW U))),λz=>qdt.trans ?_,?_⟩,?_,hr1.2,hx1.2,λq hq=>h.klt q (mem_cons_of_mem _ hq),by rw[qfO];exact h.len,a4 h.dict (λU=>(aL 0x032b282aa1f2a12b480aa1 rfl (aW U) hlow)) (λU=>(aL 0x2f3a2022b281aa1f1a01 rfl (aW U) hlow hlt)) (λU=>(aC 0x022b281aa1f1a380a1 rfl (aW U) hlow)) (λU=>(aL 0x2f3a2022b281aa1f1af0a1 rfl (aW U) hlow hlt)),h.nodes.frm F4 (λj _ h2 h3=>lin [_,_,_,_] 0x032b282aa132b282aaf1a1101 rfl h3 h2 hlow),h.low,le_trans (le_succ _) h.fl,h.sl,λq hq=>h.sub q (mem_cons_of_mem _ hq)⟩
    ·exact bB (bB (cZ s1) (λU=>(aK 0x0380a1 rfl (aQ U)))) (λU=>(aK 0x0f0a1 rfl (aQ U)))
    ·rw[k2 z];constructor
     ·rintro⟨⟨q,hq,rfl⟩,hne⟩;rcases mem_cons.mp hq with rfl|hq
      ·exact absurd rfl hne
      ·exact⟨q,hq,rfl⟩
     ·rintro⟨q,hq,rfl⟩;exact⟨⟨q,mem_cons_of_mem _ hq,rfl⟩,λe=>hx1.1 q hq e⟩
    ·have:=qdu hk;have:ks.length<=r.length+1:=k3;exact Nat.le_of_succ_le_succ (le_trans (by assumption) this)
    ·intro q hq;refine cQ (h.obs q (mem_cons_of_mem _ hq)) λp1 p2 p3=>?_;have:=hr1.1 q hq;exact⟨a4 p1 (λU=>(aC 0x1f2a222b480aa12b480aa1 rfl (aW U) this)) (λU=>(aB 0x012b480aa1 rfl (aQ U))) (λU=>(aB 0x380a12b480aa1 rfl (aQ U))) (λU=>(aB 0xf0a12b480aa1 rfl (aQ U))),a4 p2 (λU=>(aC 0x1f2a222b580aa12b480aa1 rfl (aW U) this)) (λU=>(aB 0x012b580aa1 rfl (aQ U))) (λU=>(aB 0x380a12b580aa1 rfl (aQ U))) (λU=>(aB 0xf0a12b580aa1 rfl (aQ U))),p3⟩
   refine aF (Z9 hbig r M x (Nat.lt_of_succ_lt_succ hM) hD (λq hq=>dM q (mem_cons_of_mem _ hq))) λσ' F' h'=>?_;refine gH ?_;have step:∀{R:Option (Fl×Loc×Store)},oH (test X (.var 2)) (exs X 1000 wH) (exs X 1000 [.brk]) M (d9 L B x) eY=R->oH (test X (.var 2)) (exs X 1000 wH) (exs X 1000 [.brk]) (M+1) (d9 L B x) σ=R:=λk =>
    bnd (h.test x) (bnd (a:=(.next,d9 L B x,eY)) (aP (bnd hf (bnd (qgC o2 o1 hn hs' rfl) (aP (qd8 (k:=B+3) (y:=f.x) rfl (gA rfl (kZ s1) rfl (pop_at s1 (PK _ f r) (by rw[qbi]))) s2 hk rfl) (aP (jH (gA rfl (kZ s3) rfl (pop_at s3 (PK _ f r) (by rw[qbi])))) rfl)))) rfl) k)
   refine⟨σ',F4.trans F',?_⟩;rcases h' with ⟨q,rest,y,hq,hy,⟨pre,hp⟩,hw,hd,hm⟩|⟨hw,hd⟩
   ·refine .inl ⟨q,rest,y,mem_cons_of_mem _ hq,hy,⟨f::pre,by rw[hp];rfl⟩,step hw,hd,?_⟩;have:wt g (f::r)=(g.su f.x).length-f.i+wt g r:=by unfold wt;rw[map_cons,sum_cons]
    exact aA (aL 0xf1af0a13f1a1032a1 rfl (aW this) hm)
   ·exact .inr ⟨step hw,hd⟩
end
theorem qb5 {g:Gr}{seen:List Int}{x:Int}(hx:x∈g.ns)(hs:x∉seen):us g (seen++[x])+(1+(g.su x).length)<=us g seen/\(g.ns.filter λz=>!(seen++[x]).contains z).length+1<=(g.ns.filter λz=>!seen.contains z).length:=by
 unfold us;have hs':seen.contains x=false:=by rw[<-not_eq_true,contains_iff_mem];exact hs
 have hc:∀z,(seen++[x]).contains z=(seen.contains z||z==x):=λz=>by
  rw[List.contains_append];congr 1;show (z==x||false)=_;rw[Bool.or_false]
 generalize g.ns=l at hx ⊢;have key:∀l:List Int,((l.filter λz=>!(seen++[x]).contains z).map λz=>1+(g.su z).length).sum<=((l.filter λz=>!seen.contains z).map λz=>1+(g.su z).length).sum/\(l.filter λz=>!(seen++[x]).contains z).length<=(l.filter λz=>!seen.contains z).length:=by
  intro l
  induction l with
  | nil=>exact⟨le_refl _,le_refl _⟩
  | cons a l ih =>
   rw[filter_cons,filter_cons,hc a];cases seen.contains a <;> cases a==x <;> simp only[Bool.or_true,Bool.or_false,Bool.not_true,Bool.not_false,if_true,if_false,false_eq_true,map_cons,sum_cons,length_cons] <;> (first|exact⟨(aA (aC 0x20faaf10faaa1121 rfl ih.1)),(aA (aB 0xf1aff0aa1011 rfl ih.2))⟩|exact⟨(aA (aC 0x2f10faaa1121 rfl ih.1)),(aA (aB 0x1ff0aa1011 rfl ih.2))⟩|exact⟨(aA (aB 0x1f0a1011 rfl ih.1)),(aA (aB 0x1f0a1011 rfl ih.2))⟩)
 induction l with
 | nil=>cases hx
 | cons a l ih =>
  rw[filter_cons,filter_cons,hc a];by_cases e:a=x
  ·refine bI (key l) λk1 k2=>?_;rw[e,hs',beq_self_eq_true];simp only[Bool.or_true,Bool.not_true,Bool.not_false,if_true,if_false,false_eq_true,map_cons,sum_cons,length_cons];exact⟨(aA (aC 0x0fa2af10faaa1121 rfl k1)),(aA (aB 0xf1aff0aa1011 rfl k2))⟩
  ·refine bI (ih ((mem_cons.mp hx).resolve_left λq=>e q.symm)) λk1 k2=>?_;rw[beq_eq_false_iff_ne.mpr e];cases seen.contains a <;> simp only[Bool.or_true,Bool.or_false,Bool.not_true,Bool.not_false,if_true,if_false,false_eq_true,map_cons,sum_cons,length_cons] <;> (first|exact⟨(aA (aL 0x3fa20faaaf10faaa113fa2a1 rfl k1)),(aA (aB 0xff1aaff0aa10f1a1 rfl k2))⟩|exact⟨(aA (aC 0x2fa1af0a102fa1a1 rfl k1)),(aA (aB 0xf1af0a10f1a1 rfl k2))⟩)
section
variable {X:aU}{σ:Store}{B L nk:Nat}{g:Gr}{fr:List Wy}{seen:List Int}
theorem qhb {x:Int}(hbig:g.ns.length<900)(h:DS σ B L g fr seen nk)(hx:x∈g.ns)(hs:x∉seen):∃σ',exs X 1000 O2 (d9 L B (some (.int x))) σ=some (.next,d9 L B (some (.int x)),σ')/\DS σ' B L g (⟨x,nk,0⟩::fr) (seen++[x]) (nk+1)/\aV (B<=·) σ σ':=by
 have hi:=rP hx;have hlt:=o8 hi;have hlow:=h.low;have hlen:=h.len;refine hide λH gH=>?_;obtain⟨n1,n2⟩:=h.nodes.at_ _ x hi;refine bM (h.keys) λks k1 k2 k3=>?_;refine bI (qb5 hx hs) λu1 u2=>?_;have hfl:=h.fl;have hsl:=h.sl;have hk:fC x ks=false:=by
  rw[<-not_eq_true,k2 x];rintro⟨f,hf,e⟩;exact hs (e▸h.sub f hf)
 have hs':seen.contains x=false:=by rw[<-not_eq_true,contains_iff_mem];exact hs
 refine bI (qa8 (z:=x) (v:=.int (fr.reverse.map λf=>D.int f.x).length) hk) λp1 p2=>?_;refine gH ?_;let σ1:=σ.set (B+2) (.set (seen++[x]));let σ2:=σ1++[.iter (L+3+2*g.ns.idxOf x) 0];let σ3:=σ2++[.next σ1.length];let eY:=σ3.set (B+1) (.list ((fr.reverse.map λf=>D.ref (B+5+2*f.k))++[.ref σ2.length]));let wZ:=eY.set (B+3) (.dict (dictPut x (.int (fr.reverse.map λf=>D.int f.x).length) ks));let uM:=wZ.set B (.list ((fr.reverse.map λf=>D.int f.x)++[.int x]));have l1:σ1.length=B+4+2*nk:=by rw[length_set];exact hlen
 have l2:σ2.length=B+5+2*nk:=by rw[length_append,l1,List.length_singleton];exact bG (aA (aB 0xf12b480aaaf12b580aaa1 rfl)) (aA (aB 0x12b580aaff12b480aaaa1 rfl))
 have l3:σ3.length=B+6+2*nk:=by rw[length_append,l2,List.length_singleton];exact bG (aA (aB 0xf12b580aaaf12b680aaa1 rfl)) (aA (aB 0x12b680aaff12b580aaaa1 rfl))
 have l6:uM.length=B+6+2*nk:=by simp only[uM,wZ,eY,length_set];exact l3
 have a1:∀{j:Nat} {o:O},σ[j]?=some o->j≠B+2->σ1[j]?=some o:=λh q=>bB h (Ne.symm q);have a3:∀{j:Nat} {o:O},σ[j]?=some o->j≠B+2->σ3[j]?=some o:=λh q=>eH (eH (a1 h q));have xH:∀{j:Nat} {o:O},σ3[j]?=some o->j≠B+1->j≠B+3->j≠B->uM[j]?=some o:=λh q1 q2 q3=>bB (bB (bB h (Ne.symm q1)) (Ne.symm q2)) (Ne.symm q3);have a6:∀{j:Nat} {o:O},σ[j]?=some o->j≠B+2->j≠B+1->j≠B+3->j≠B->uM[j]?=some o:=λh q q1 q2 q3=>xH (a3 h q) q1 q2 q3;have F6:aV (B<=·) σ uM:=(((aV.set (aA (aK 0x0f280aa1 rfl))).trans aV.app).trans aV.app).trans (((aV.set (aA (aK 0x0ff0aa1 rfl))).trans (aV.set (aA (aK 0x0f380aa1 rfl)))).trans (aV.set (le_refl _)));have i1:σ3[B+1]?=some (.list (fr.reverse.map λf=>.ref (B+5+2*f.k))):=a3 h.its (λU=>(aK 0xf0a280a1 rfl (aW U)));have i3:eY[B+3]?=some (.dict ks):=bB (a3 k1 (λU=>(aK 0x280a380a1 rfl (aQ U)))) (λU=>(aK 0xf0a380a1 rfl (aW U)));have i4:eY[B]?=some (.list (fr.reverse.map λf=>.int f.x)):=bB (a3 h.stack (λU=>(aK 0x0280a1 rfl (aW U)))) (λU=>(aK 0x0f0a1 rfl (aQ U)));have i5:wZ[B]?=some (.list (fr.reverse.map λf=>.int f.x)):=bB i4 (λU=>(aK 0x0380a1 rfl (aQ U)));have hlr:∀{β:Type} (f:Wy->β),(fr.reverse.map f).length=fr.length:=λf=>by rw[length_map,List.length_reverse]
 refine⟨uM,?_,?_,F6⟩
 ·refine aP (jH (gA rfl (qig h.seenH) rfl (qcE h.seenH (ltN (aC 0x03e8913849f2a1210a1 rfl hsl hbig)) hs' rfl))) ?_;refine aP (jH (s1:=eY) (gA (s1:=σ1) rfl (kZ (a1 h.its (λU=>(aK 0xf0a280a1 rfl (aW U))))) (dW (s1:=σ3) (x:=.ref σ2.length) (qdY (k:=σ1.length) (l:=L+3+2*g.ns.idxOf x) (s1:=σ2) (lL (l:=[.ref (L+3+2*g.ns.idxOf x)]) (s1:=σ1) (dW (gG (x:=.ref (L+2+2*g.ns.idxOf x)) (eF (x:=.ref (L+1)) (y:=.int x) rfl rfl (item_at (a1 h.dict (λU=>(aC 0x022b281aa1f1a280a1 rfl (aW U) hlow))) ((vI h.nodes.nd hi).trans (by rw[zero_add])))) (eO (a1 n1 (λU=>(aL 0x3f2a2032b281aa122b281aa280a1 rfl (aW U) hlow hlt))) rfl)) (λ_=>nofun)) (qfw (a1 n2 (λU=>(aL 0x3f2a2032b281aa122b381aa280a1 rfl (aW U) hlow hlt))))) jV) (λ_=>nofun)) (pJ i1 (by rw[hlr];exact ltN (aL 0x03e8913849f3a1101321a1 rfl hsl hfl hbig)) rfl))) ?_;refine aP (lN (d:=.int (fr.reverse.map λf=>D.int f.x).length) (s1:=eY) (lL (l:=[.ref B]) rfl (qfP i4)) (xO (x:=.ref (B+3)) (y:=.int x) rfl rfl (CX i3 (if_pos (by unfold lim;omega)) rfl))) ?_;exact aP (jH (gA rfl (kZ i5) rfl (pJ i5 (by rw[hlr];exact ltN (aL 0x03e8913849f3a1101321a1 rfl hsl hfl hbig)) rfl))) rfl
 ·refine⟨?_,?_,?_,⟨_,bB (cZ i3) (λU=>(aK 0x0380a1 rfl (aW U))),λz=>?_,?_⟩,?_,pairwise_cons.mpr ⟨λf hf=>h.klt f hf,h.kd⟩,pairwise_cons.mpr ⟨λf hf e=>hs (by have:=h.sub f hf;rw[e]at this;exact this),h.xd⟩,?_,?_,a6 h.dict (λU=>(aC 0x022b281aa1f1a280a1 rfl (aW U) hlow)) (λU=>(aL 0x2f3a2022b281aa1f1af0a1 rfl (aW U) hlow hlt)) (λU=>(aC 0x022b281aa1f1a380a1 rfl (aW U) hlow)) (λU=>(aL 0x2f3a2022b281aa1f1a01 rfl (aW U) hlow hlt)),h.nodes.frm F6 (λj _ h2 h3=>lin [_,_,_,_] 0x032b282aa132b282aaf1a1101 rfl h3 h2 hlow),h.low,?_,?_,?_⟩
  ·rw[reverse_cons,map_append];exact cZ i5
  ·rw[reverse_cons,map_append];have:=l2;refine(bB (bB (cZ i1) (λU=>(aK 0xf0a380a1 rfl (aQ U)))) (λU=>(aK 0x0f0a1 rfl (aW U)))).trans ?_;rw[l2];rfl
  ·exact xH (eH (eH (cZ h.seenH))) (λU=>(aK 0xf0a280a1 rfl (aQ U))) (λU=>(aK 0x280a380a1 rfl (aW U))) (λU=>(aK 0x0280a1 rfl (aQ U)))
  ·rw[(qa8 (z:=z) hk).1,k2 z];simp only[mem_cons,exists_eq_or_imp];exact or_congr_left eq_comm
  ·rw[p2];exact Nat.succ_le_succ k3
  ·intro q hq;rcases mem_cons.mp hq with rfl|hq
   ·have e1:σ2[σ1.length]?=some (.iter (L+3+2*g.ns.idxOf x) 0):=jV;have e2:σ3[σ2.length]?=some (.next σ1.length):=jV;rw[l1]at e1 e2;rw[l2]at e2;exact⟨xH (eH e1) (λU=>(aB 0xf0a12b480aa1 rfl (aQ U))) (λU=>(aB 0x380a12b480aa1 rfl (aQ U))) (λU=>(aB 0x012b480aa1 rfl (aQ U))),xH e2 (λU=>(aB 0xf0a12b580aa1 rfl (aQ U))) (λU=>(aB 0x380a12b580aa1 rfl (aQ U))) (λU=>(aB 0x012b580aa1 rfl (aQ U))),hx⟩
   ·refine cQ (h.obs q hq) λq1 q2 q3=>?_;exact⟨a6 q1 (λU=>(aB 0x280a12b480aa1 rfl (aQ U))) (λU=>(aB 0xf0a12b480aa1 rfl (aQ U))) (λU=>(aB 0x380a12b480aa1 rfl (aQ U))) (λU=>(aB 0x012b480aa1 rfl (aQ U))),a6 q2 (λU=>(aB 0x280a12b580aa1 rfl (aQ U))) (λU=>(aB 0xf0a12b580aa1 rfl (aQ U))) (λU=>(aB 0x380a12b580aa1 rfl (aQ U))) (λU=>(aB 0x012b580aa1 rfl (aQ U))),q3⟩
  ·intro q hq;rcases mem_cons.mp hq with rfl|hq
   ·exact lt_succ_self _
   ·exact Nat.lt_succ_of_lt (h.klt q hq)
  ·rw[l6];exact bG (aA (aB 0x12b680aaff1a2b480aaa1 rfl)) (aA (aB 0xf1a2b480aaf12b680aaa1 rfl))
  ·rw[length_append];exact Nat.succ_le_succ hfl
  ·rw[length_append];show seen.length+1+_<=_;exact aA (aL 0x2f1aaf0a13f2a1031a1 rfl hsl u2)
  ·intro q hq;rcases mem_cons.mp hq with rfl|hq
   ·exact mem_append_right _ mem_cons_self
   ·exact mem_append_left _ (h.sub q hq)
theorem zV (h:DS σ B L g fr seen nk)(x:Int):test X (.cmp .In (.var 6) (.var 4)) (d9 L B (some (.int x))) σ=some (seen.contains x,σ):=by
 have e:cmpOp σ .In (.int x) (.ref (B+2))=some (seen.contains x):=bnd (f:=zU (.int x)) h.seenH rfl;exact qR (cR (x:=.int x) (y:=.ref (B+2)) rfl rfl e)
theorem qaU {rank:Int->Nat}(hbig:g.ns.length<900)(dM:∀z∈g.ns,∀y∈g.su z,y∈g.ns/\rank z<rank y):∀(M:Nat) {σ:Store} {fr:List Wy} {seen:List Int} {nk:Nat} {x:Int},wt g fr+us g seen<M->DS σ B L g fr seen nk->x∈g.ns ->
  fr.Pairwise (λf f'=>rank f'.x<rank f.x)->(∀f∈fr,rank f.x<rank x)->∃σ' z sS sE,oH (test X (.bool true)) (exs X 1000 qaT) (exs X 1000 []) M (d9 L B (some (.int x))) σ=some (.next,d9 L B z,σ')/\DS σ' B L g [] sS sE/\aV (B<=·) σ σ'
 | 0,_,_,_,_,_,hM,_,_,_,_=>absurd hM (not_lt_zero _)
 | M+1,σ,fr,seen,nk,x,hM,h,hx,hp,hr=>by
  have mid:∃σ1 vR DR MT,ex X 1000 (.ife (.cmp .In (.var 6) (.var 4)) [.ife (.cmp .In (.var 6) (.var 5)) [.bad] []] O2) (d9 L B (some (.int x))) σ=some (.next,d9 L B (some (.int x)),σ1)/\DS σ1 B L g vR DR MT/\aV (B<=·) σ σ1/\wt g vR+us g DR<M+1/\vR.Pairwise (λf f'=>rank f'.x<rank f.x):=by
   by_cases hs:x∈seen
   ·refine⟨σ,fr,seen,nk,jL (zV h x) (λ_=>?_) (λe=>?_),h,aV.refl,hM,hp⟩
    ·refine bM (h.keys) λks k1 k2 k3=>?_;have hk:fC x ks=false:=by
      rw[<-not_eq_true,k2 x];rintro⟨f,hf,e⟩;have:=hr f hf;rw[e]at this;exact lt_irrefl _ this
     have e:cmpOp σ .In (.int x) (.ref (B+3))=some false:=bnd (f:=zU (.int x)) k1 (congrArg some hk);exact aP (lU (cR (x:=.int x) (y:=.ref (B+3)) rfl rfl e)) rfl
    ·rw[contains_iff_mem.mpr hs]at e;cases e
   ·refine bM (qhb (X:=X) hbig h hx hs) λσ1 q1 q2 q3=>?_;refine⟨σ1,_,_,_,jL (zV h x) (λe=>absurd (contains_iff_mem.mp e) hs) (λ_=>q1),q2,q3,?_,pairwise_cons.mpr ⟨hr,hp⟩⟩;have:=(qb5 hx hs).1;have e:wt g (⟨x,nk,0⟩::fr)=(g.su x).length+wt g fr:=by unfold wt;rw[map_cons,sum_cons];rfl
    exact ltN (eU 0x21af0a1f0af54aa153fa2a143a11 rfl (aQ e) this hM)
  refine hide λH gH=>?_;refine qdE (mid) λσ1 vR DR MT m1 m2 m3 m4 m5=>?_;have hfl:=m2.fl;have hsl:=m2.sl;refine aF (Z9 (X:=X) hbig vR 1000 (some (.int x)) (ltN (aL 0x03e8913849f3a1101321a1 rfl hsl hfl hbig)) m2 (λf hf y hy=>(dM f.x (m2.obs f hf).2.2 y hy).1)) λσ2 F2 h2=>?_;refine gH ?_;rcases h2 with ⟨f,rest,y,hf,hy,⟨pre,hpre⟩,hw,hd,hm⟩|⟨hw,hd⟩
  ·have hy':=dM f.x (m2.obs f hf).2.2 y (mem_of_getElem? hy);rw[hpre]at m5;have m6:=pairwise_cons.mp (pairwise_append.mp m5).2.1;refine rF (qaU hbig dM M (by exact ltN (aL 0x21a01f0af23aa13f1a1 rfl hm m4)) hd hy'.1 (pairwise_cons.mpr m6) (λq hq=>by
    rcases mem_cons.mp hq with rfl|hq
    ·exact hy'.2
    ·exact Nat.lt_trans (m6.1 q hq) hy'.2)) λσ3 z qit nk3 w1 w2 w3=>?_
   exact⟨σ3,z,qit,nk3,bnd (a:=(true,σ)) rfl (bnd (a:=(Fl.next,d9 L B (some (D.int y)),σ2)) (aP m1 (aP hw rfl)) w1),w2,(m3.trans F2).trans w3⟩
  ·exact⟨σ2,_,_,_,bnd (a:=(true,σ)) rfl (bnd (a:=(Fl.brk,d9 L B (some (D.int x)),σ2)) (aP m1 (qd9 (hw))) rfl),hd,m3.trans F2⟩
theorem qkj {g:Gr}{seen:List Int}:us g seen<=(g.ns.map λz=>1+(g.su z).length).sum:=by
 unfold us;generalize g.ns=l
 induction l with
 | nil=>exact le_refl _
 | cons a l ih =>
  rw[filter_cons];cases seen.contains a <;> simp only[Bool.not_true,Bool.not_false,if_true,if_false,false_eq_true,map_cons,sum_cons] <;> (first|exact aA (aC 0x20faaf10faaa1121 rfl ih)|exact aA (aC 0x2f10faaa1121 rfl ih))
theorem J3 {rank:Int->Nat}(hbig:g.ns.length<900)(hE:(g.ns.map λz=>1+(g.su z).length).sum<1000)(dM:∀z∈g.ns,∀y∈g.su z,y∈g.ns/\rank z<rank y):∀(l:List Int) {σ:Store} {seen:List Int} {nk:Nat} {z:Option D},(∀x∈l,x∈g.ns)->DS σ B L g [] seen nk ->
  ∃σ' z' sS sE,forL (exs X 1000 qew) (cA X (.name 6)) (l.map .int) (d9 L B z) σ=some (.next,d9 L B z',σ')/\DS σ' B L g [] sS sE/\aV (B<=·) σ σ'
 | [],σ,seen,nk,z,_,h=>⟨σ,z,seen,nk,rfl,h,aV.refl⟩
 | x::l,σ,seen,nk,z,hl,h=>by
  have hx:=hl x mem_cons_self;by_cases hs:x∈seen
  ·refine rF (J3 hbig hE dM l (z:=some (.int x)) (λy hy=>hl y (mem_cons_of_mem _ hy)) h) λσ' z' sS sE w1 w2 w3=>?_;exact⟨σ',z',sS,sE,qex rfl (qea (jL (zV h x) (λ_=>rfl) (λe=>by rw[contains_iff_mem.mpr hs]at e;cases e))) w1,w2,w3⟩
  ·refine hide λH gH=>?_;refine rF (qaU (X:=X) (rank:=rank) hbig dM 1000 (x:=x) (by have:=qkj (g:=g) (seen:=seen);show 0+_<_;exact ltN (aB 0x008a3e8913e89f1a1101 rfl this hE)) h hx Pairwise.nil (λ_ hf=>nomatch hf)) λσ1 z1 DR MT v1 v2 v3=>?_;refine rF (J3 hbig hE dM l (z:=z1) (λy hy=>hl y (mem_cons_of_mem _ hy)) v2) λσ' z' sS sE w1 w2 w3=>?_;refine gH ?_;exact⟨σ',z',sS,sE,iB rfl (aP (jL (zV h x) (λe=>absurd (contains_iff_mem.mp e) hs) (λ_=>rfl)) (aP (v1) rfl)) w1,w2,v3.trans w3⟩
end
theorem vN {X:aU}{c:E}{r:Loc}{s s':Store}{b:Bool}(h:ev X c r s=some (.bool b,s')):gJ X [c] r s=some (b,s'):=bnd h (bnd (a:=b) rfl (by cases b <;> rfl))
theorem CQ {f:D->Store->Option (List D×Store)}{d:D}{l r r':List D}{s s1 s2:Store}(h:f d s=some (r,s1))(k:j6 f l s1=some (r',s2)):j6 f (d::l) s=some (r++r',s2):=bnd h (bnd k rfl)
theorem VG {L:Nat}:∀{ns:List Int} {k:Nat},(dct L ns k).map (λe=>D.int e.1)=ns.map .int
 | [],_=>rfl
 | x::r,k=>congrArg (D.int x::·) (VG (ns:=r))
section
variable {P:gY}{m L:Nat}{σ:Store}{g:Gr}{as:List (Nat×D)}
theorem qeu (H:nM P){rank:Int->Nat}(h0:σ[L]?=some (.inst 0 as))(ha:as.lookup 0=some (.ref (L+1)))(hd:σ[L+1]?=some (.dict (dct L g.ns 0)))(hn:Nodes σ L g)(hl:L+2+2*g.ns.length<=σ.length)(hbig:g.ns.length<900)(hE:(g.ns.map λz=>1+(g.su z).length).sum<1000)(dM:∀z∈g.ns,∀y∈g.su z,y∈g.ns/\rank z<rank y) :
  ∃σ',bD P (m+1) 9 [.ref L] σ=some (.none,σ')/\aV (λ_=>False) σ σ':=by
 let lB:Store:=(((σ++[O.list []])++[O.list []])++[.set []])++[.dict []];have l0:lB.length=σ.length+4:=by simp only[lB,length_append,List.length_singleton]
 have a0:∀{j:Nat} {o:O},σ[j]?=some o->lB[j]?=some o:=λh=>eH (eH (eH (eH h)));let σ1:=lB.set (L+1) (.ldict (dct L g.ns 0));have a1:∀{j:Nat} {o:O},lB[j]?=some o->j≠L+1->σ1[j]?=some o:=λh q=>bB h (Ne.symm q);have b0:lB[σ.length]?=some (.list []):=eH (eH (eH jV));have b1:lB[σ.length+1]?=some (.list []):=by
  have:((σ++[O.list []])++[O.list []])[(σ++[O.list []]).length]?=some (.list []):=jV;rw[length_append]at this;exact eH (eH this)
 have b2:lB[σ.length+2]?=some (.set []):=by
  have:(((σ++[O.list []])++[O.list []])++[O.set []])[((σ++[O.list []])++[O.list []]).length]?=some (.set []):=jV;rw[length_append,length_append]at this;exact eH this
 have b3:lB[σ.length+3]?=some (.dict []):=by
  have:((((σ++[O.list []])++[O.list []])++[O.set []])++[O.dict []])[(((σ++[O.list []])++[O.list []])++[O.set []]).length]?=some (.dict []):=jV;rw[length_append,length_append,length_append]at this;exact this
 have F0:aV (λ_=>False) σ lB:=((aV.app.trans aV.app).trans aV.app).trans aV.app;have F1:aV (·=L+1) σ σ1:=(F0.mono λ_ h=>h.elim).trans (aV.set rfl);have hD:DS σ1 σ.length L g [] [] 0 :=
  ⟨a1 b0 (λU=>(aC 0x022b281aa1f1a01 rfl (aQ U) hl)),a1 b1 (λU=>(aC 0x022b281aa1f1af0a1 rfl (aQ U) hl)),a1 b2 (λU=>(aC 0x022b281aa1f1a280a1 rfl (aQ U) hl)),⟨[],a1 b3 (λU=>(aC 0x022b281aa1f1a380a1 rfl (aQ U) hl)),λy=>⟨λh=>(by cases h),λh=>(by refine aF (h) λf hf _=>?_;cases hf)⟩,le_refl _⟩,λ_ hf=>absurd hf not_mem_nil,.nil,.nil,λ_ hf=>absurd hf not_mem_nil,by rw[length_set];exact l0,cZ (a0 hd),hn.frm F1 (λj _ _=>by omega),hl,le_refl _,by
   show 0+_<=_;rw[zero_add];exact length_filter_le _ _,λ_ hf=>absurd hf not_mem_nil⟩
 refine rF (J3 (X:=⟨P.globs,bD P m⟩) (rank:=rank) (z:=.none) hbig hE dM g.ns (λ_ h=>h) hD) λσ2 z seen nk w1 w2 w3=>?_;have h01:=q9 hd;refine⟨σ2.set (L+1) (.dict (dct L g.ns 0)),call_of (r:=[some (.ref L),.none,.none,.none,.none,.none,.none]) (r':=d9 L σ.length z) H.W H.f9 rfl ?_,?_,?_⟩
 ·refine aP (r':=[some (.ref L),some (.ref (L+1)),.none,.none,.none,.none,.none]) (cH (gG (x:=.ref L) rfl (eO h0 ha))) ?_;refine aP (r':=[some (.ref L),some (.ref (L+1)),some (.ref σ.length),.none,.none,.none,.none]) (s':=σ++[O.list []]) rfl ?_;refine aP (r':=[some (.ref L),some (.ref (L+1)),some (.ref σ.length),some (.ref (σ.length+1)),.none,.none,.none]) (s':=(σ++[O.list []])++[O.list []]) (cH (d:=.ref (σ.length+1)) (bnd (a:=([],σ++[O.list []])) rfl (by rw[show σ.length+1=(σ++[O.list []]).length by rw[length_append];rfl];rfl))) ?_;refine aP (r':=[some (.ref L),some (.ref (L+1)),some (.ref σ.length),some (.ref (σ.length+1)),some (.ref (σ.length+2)),.none,.none]) (s':=((σ++[O.list []])++[O.list []])++[.set []]) (cH (d:=.ref (σ.length+2)) (bnd (a:=([],(σ++[O.list []])++[O.list []])) rfl (by rw[show σ.length+2=((σ++[O.list []])++[O.list []]).length by rw[length_append,length_append];rfl];rfl))) ?_;refine aP (r':=d9 L σ.length .none) (s':=lB) (cH (d:=.ref (σ.length+3)) (by rw[show σ.length+3=(((σ++[O.list []])++[O.list []])++[O.set []]).length by rw[length_append,length_append,length_append];rfl];rfl)) ?_;refine aP (r':=d9 L σ.length z) (X5 (k:=L+1) (s1:=lB) (rfl) (a0 hd) rfl rfl (by rw[VG];exact w1) w2.dict rfl rfl) ?_;exact oF rfl
 ·rw[length_set];exact le_trans F1.1 w3.1
 ·intro j hj _;by_cases e:j=L+1
  ·rw[e,hd];exact cZ w2.dict
  ·rw[getElem?_set_ne (Ne.symm e),w3.2 j (lt_of_lt_of_le hj F1.1) ((aB 0x1010f1a1 rfl hj))];exact F1.2 j hj e
noncomputable def qa1 (X:aU)(r:Loc)(d:D)(s:Store):Option (List D×Store):=(bindG r [2] false d).bind λr'=>(gJ X [.cmp .Eq (.attr (.var 2) 5) (.int 0)] r' s).bind λq=>bif q.1 then nU X [] (ev X (.attr (.var 2) 4)) r' q.2 else some ([],q.2)
theorem qa2 {X:aU}{np:Int->Int}{su:Int->List Int}{x0:D}:∀(l:List Int) {k:Nat},(∀(i:Nat) (x:Int),l[i]?=some x->RG σ L (k+i) x (np x) (su x)) ->
  j6 (qa1 X [some x0,.none,.none]) ((dct L l k).map (·.2)) σ=some ((l.filter λx=>np x==0).map .int,σ)
 | [],k,_=>rfl
 | x::l,k,h=>by
  have h0:=(h 0 x rfl).1;have ih:=qa2 (X:=X) (x0:=x0) l (k:=k+1) λi y hy=>by
   have:=h (i+1) y hy;rw[add_assoc,Nat.add_comm 1 i];exact this
  have e1:ev X (.cmp .Eq (.attr (.var 2) 5) (.int 0)) [some x0,.none,some (.ref (L+2+2*k))] σ=some (.bool (np x==0),σ) :=
   cR (x:=.int (np x)) (y:=.int 0) (gG (x:=.ref (L+2+2*k)) rfl (eO h0 rfl)) rfl rfl
  have e2:ev X (.attr (.var 2) 4) [some x0,.none,some (.ref (L+2+2*k))] σ=some (.int x,σ):=gG (x:=.ref (L+2+2*k)) rfl (eO h0 rfl);have one:qa1 X [some x0,.none,.none] (.ref (L+2+2*k)) σ=some ((if np x==0 then[.int x] else[]),σ):=by
   refine bnd (a:=[some x0,.none,some (.ref (L+2+2*k))]) rfl (bnd (vN e1) ?_);cases np x==0
   ·rfl
   ·exact bnd e2 rfl
  refine(CQ one ih).trans ?_;rw[filter_cons];cases np x==0 <;> rfl
theorem qg9 (H:nM P){rank:Int->Nat}(B:fJ σ L g)(hbig:g.ns.length<900)(hE:(g.ns.map λz=>1+(g.su z).length).sum<1000)(dM:∀z∈g.ns,∀y∈g.su z,y∈g.ns/\rank z<rank y) :
  ∃σ' R,bD P (m+2) 5 [.ref L] σ=some (.none,σ')/\Run σ' L R g (g.ns.filter λx=>g.np x==0) 0 0/\aV (L<=·) σ σ'/\σ.length<=R:=by
 have hlen:=B.len;let s1:=σ.set (L+1) (.ldict (dct L g.ns 0));have es1:s1.set (L+1) (.dict (dct L g.ns 0))=σ:=by
  rw[set_set];apply List.ext_getElem?;intro j;by_cases e:j=L+1
  ·rw[e,cZ B.dict,B.dict]
  ·rw[getElem?_set_ne (Ne.symm e)]
 let rd:=g.ns.filter λx=>g.np x==0;have hrd:rd.length<=g.ns.length:=length_filter_le _ _;have hc:ev ⟨P.globs,bD P (m+1)⟩ (.comp true (.attr (.var 2) 4) [.mk [2] false (.vals (.attr (.var 0) 0)) [.cmp .Eq (.attr (.var 2) 5) (.int 0)]]) [some (.ref L),.none,.none] σ=some (.ref σ.length,σ++[.list (rd.map .int)]):=by
  have hi:kJ ⟨P.globs,bD P (m+1)⟩ (.vals (.attr (.var 0) 0)) [some (.ref L),.none,.none] σ=some ((dct L g.ns 0).map (·.2),s1,some (L+1)) :=
   bnd (a:=(.ref (L+1),σ)) (gG (x:=.ref L) rfl (eO B.inst rfl)) (bnd (a:=L+1) rfl (bnd (a:=dct L g.ns 0) (bnd B.dict rfl) rfl))
  have ho:=qa2 (X:=⟨P.globs,bD P (m+1)⟩) (σ:=s1) (L:=L) (np:=g.np) (su:=g.su) (x0:=.ref L) g.ns (k:=0) (λi x hx=>by
   rw[zero_add];obtain⟨q1,q2⟩:=B.nodes.at_ i x hx;exact⟨bB q1 (λU=>(aB 0xf0a12b280aa1 rfl (aW U))),bB q2 (λU=>(aB 0xf0a12b380aa1 rfl (aW U)))⟩)
  have hu:G5 s1 (some (L+1))=some σ:=bnd (bnd (cZ B.dict) rfl) (congrArg some es1);refine bnd (bnd hi (bnd ho (bnd hu rfl))) (bnd (show pB (rd.map .int)=some (.list (rd.map .int)) from if_pos (by rw[length_map];unfold lim;omega)) rfl)
 let σ1:=σ++[.list (rd.map .int)];let σ2:=σ1.set L (.inst 0 (mL L σ.length 0 0));have hi1:σ1[L]?=some (.inst 0 (at0 L)):=eH B.inst;have F2:aV (L<=·) σ σ2:=aV.app.trans (aV.set (le_refl _));have n2:Nodes σ2 L g:=B.nodes.frm (Y:=(·=L)) (aV.app.trans (aV.set rfl)) (λj _ _=>by omega);have l2:σ2.length=σ.length+1:=by rw[length_set,length_append];rfl
 have d2:σ2[L+1]?=some (.dict (dct L g.ns 0)):=bB (eH B.dict) (λU=>(aK 0x0f0a1 rfl (aW U)));have e2:σ2[L]?=some (.inst 0 (mL L σ.length 0 0)):=cZ hi1;refine aF (qeu (m:=m) (rank:=rank) H (as:=mL L σ.length 0 0) e2 rfl d2 n2 (aA (aL 0x22b281aaf0a1322b281aa10f3a1 rfl (aW l2) (aW hlen))) hbig hE dM) λσ3 c1 c2=>?_;refine⟨σ3,σ.length,vD (r:=[some (.ref L),.none,.none]) (r':=[some (.ref L),some .none,.none]) H.W H.f5 rfl ?_,⟨c2.at e2 id,c2.at d2 id,n2.frm c2 (λ_ _ _=>id),c2.at (bB jV (λU=>(aC 0x022b281aa1101 rfl (aW U) (aW hlen)))) id,le_of_eq hlen.symm⟩,F2.trans (c2.mono λ_ h=>h.elim),le_refl _⟩;refine aP (lU (cR (x:=.none) (y:=.none) (gG (x:=.ref L) rfl (eO B.inst rfl)) rfl rfl)) ?_;refine aP (r':=[some (.ref L),.none,.none]) (s':=σ2) (lN hc (nR (x:=.ref L) rfl (j8 hi1 rfl rfl))) ?_;refine aP (cH (rG (x:=.ref L) (l:=[]) rfl (rQ e2) rfl c1)) ?_;exact aP (r':=[some (.ref L),some .none,.none]) (jL (t:=false) rfl (λq=>nomatch q) λ_=>rfl) rfl
end
noncomputable abbrev Ed:=List (Int×Int)
noncomputable def nIn (E:Ed)(D:List Int)(x:Int):Nat:=E.countP λe=>e.2==x&&!D.contains e.1
noncomputable def cP (E:Ed)(a:Int):List Int:=(E.filter λe=>e.1==a).map (·.2)
structure GE (g:Gr) (E:Ed):Prop where
 np:∀x,g.np x=(nIn E [] x:Nat)
 su:∀a,g.su a=cP E a
 mem:∀e∈E,e.1∈g.ns/\e.2∈g.ns
theorem ge0:GE g0 []:=⟨λ_=>rfl,λ_=>rfl,λ_ h=>absurd h not_mem_nil⟩
theorem qgs {E F:Ed}{D:List Int}{x:Int}:nIn (E++F) D x=nIn E D x+nIn F D x:=List.countP_append
theorem qj0 {E F:Ed}{a:Int}:cP (E++F) a=cP E a++cP F a:=by
 unfold cP;rw[List.filter_append,map_append]
theorem qbZ {g:Gr}{x y:Int}(h:y∈g.ns):y∈(g.touch x).ns:=by
 unfold Gr.touch;by_cases e:x∈g.ns
 ·rw[if_pos e];exact h
 ·rw[if_neg e];exact mem_append_left _ h
theorem qbX {g:Gr}{x y:Int}(h:y∈(g.touch x).ns):y∈g.ns\/y=x:=by
 unfold Gr.touch at h;by_cases e:x∈g.ns
 ·rw[if_pos e]at h;exact .inl h
 ·rw[if_neg e]at h;exact(mem_append.mp h).imp_right λh=>mem_singleton.mp h
theorem qbU:∀(l:List Int) {np:Int->Int} {rd:List Int},rd.Nodup->(∀y∈rd,np y=0)->(∀y∈l,(l.count y:Int)<=np y) ->
  (l.foldl iZ (np,rd)).2.Nodup/\(∀y,(l.foldl iZ (np,rd)).1 y=np y-(l.count y:Nat))/\∀y,y∈(l.foldl iZ (np,rd)).2↔y∈rd\/(y∈l/\np y=(l.count y:Nat))
 | [],np,rd,h1,h2,_=>⟨h1,λy=>(Int.sub_zero _).symm,λy=>⟨.inl,λq=>q.elim id λq=>absurd q.1 not_mem_nil⟩⟩
 | s::l,np,rd,h1,h2,h3=>by
  have hs:=h3 s mem_cons_self;rw[List.count_cons_self]at hs;have hsr:s∉rd:=λq=>by have:=h2 s q;omega
  have hc:∀y,y≠s->(s::l).count y=l.count y:=λy q=>List.count_cons_of_ne (Ne.symm q);have ht:iZ (np,rd) s=(upd np s (np s-1),if np s-1=0 then rd++[s] else rd):=rfl;have hm:∀y,y∈(if np s-1=0 then rd++[s] else rd)↔y∈rd\/(y=s/\np s-1=0):=λy=>by
   by_cases q:np s-1=0
   ·rw[if_pos q];simp only[mem_append,mem_singleton,q,and_true]
   ·rw[if_neg q];simp only[q,and_false,or_false]
  have hu:∀y,y≠s->upd np s (np s-1) y=np y:=λy q=>lA q;refine cQ (qbU l (np:=upd np s (np s-1)) (rd:=if np s-1=0 then rd++[s] else rd) (by
   by_cases q:np s-1=0
   ·rw[if_pos q];exact nodup_append.mpr ⟨h1,List.pairwise_singleton _ _,λa ha b hb e=>hsr (by rw[<-mem_singleton.mp hb,<-e];exact ha)⟩
   ·rw[if_neg q];exact h1) (λy hy=>by
   rcases(hm y).mp hy with q|⟨q,q'⟩
   ·rw[hu y λe=>hsr (by rw[<-e];exact q)];exact h2 y q
   ·rw[q,nD];exact q') (λy hy=>by
   by_cases q:y=s
   ·rw[q,nD];exact bV (cN 0x1ff0ea10f1a1 rfl hs)
   ·rw[hu y q,<-hc y q];exact h3 y (mem_cons_of_mem _ hy))) λk1 k2 k3=>?_
  rw[foldl_cons,ht];refine⟨k1,λy=>?_,λy=>?_⟩
  ·rw[k2 y];by_cases q:y=s
   ·rw[q,nD,List.count_cons_self];rw[Int.natCast_add,Int.sub_sub,Int.add_comm];rfl
   ·rw[hu y q,hc y q]
  ·rw[k3 y,hm y,or_assoc];refine or_congr_right ?_;by_cases q:y=s
   ·rw[q,nD,List.count_cons_self];by_cases w:s∈l
    ·have:=List.count_pos_iff.mpr w;simp only[w,mem_cons,true_and,true_or];exact⟨λh=>h.elim (λh=>by omega) (λh=>by omega),λh=>.inr (jC (bV (cN 0xf1ef0a1f0a11 rfl (jG h))) (bV (cN 0x1ff0ea10f1a1 rfl hs)))⟩
    ·have:=List.count_eq_zero.mpr w;simp only[w,mem_cons,true_and,true_or,false_and,or_false,this];exact⟨(λU=>(jC (bV (jN 0x0ff08aa108f0e1 rfl (jG U))) (bV (jN 0xf08af0a1f0e081 rfl (mV U))))),(λU=>(jC (bV (jN 0xf0ef08a1f08a01 rfl (jG U))) (bV (jN 0x08ff0ea10f08a1 rfl (mV U)))))⟩
   ·rw[hu y q,hc y q,mem_cons];simp only[q,false_and,false_or]
structure fW (ns:List Int) (E:Ed) (D G rd:List Int) (np:Int->Int):Prop where
 nd:(D++G++rd).Nodup
 sub:∀x∈D++G++rd,x∈ns
 gm:∀x∈G,np x=-1
 npE:∀x,x∉D->x∉G->np x=(nIn E D x:Nat)
 rdm:∀x∈ns,x∉D->x∉G->(x∈rd↔np x=0)
 pre:∀e∈E,e.2∈D++G->e.1∈D
theorem fW.start {g:Gr}{E:Ed}(h:GE g E)(hn:g.ns.Nodup):fW g.ns E [] [] (g.ns.filter λx=>g.np x==0) g.np :=
 ⟨hn.filter _,λx hx=>(mem_filter.mp hx).1,λx hx=>absurd hx not_mem_nil,λx _ _=>h.np x,λx hx _ _=>by
  rw[mem_filter];exact⟨λq=>eq_of_beq q.2,λq=>⟨hx,beq_iff_eq.mpr q⟩⟩,λe _ q=>absurd q not_mem_nil⟩
theorem NZ {np:Int->Int}{y:Int}:∀{l:List Int},outs np l y=if y∈l then -1 else np y:=by
 intro l;unfold outs
 induction l generalizing np with
 | nil=>rfl
 | cons x l ih =>
  rw[foldl_cons,ih];by_cases q:y∈l
  ·rw[if_pos q,if_pos (mem_cons_of_mem _ q)]
  ·rw[if_neg q];by_cases w:y=x
   ·rw[w,nD,if_pos mem_cons_self]
   ·rw[lA w,if_neg λz=>(mem_cons.mp z).elim w q]
section
variable {ns:List Int}{E:Ed}{D G rd:List Int}{np:Int->Int}
theorem fW.dis (h:fW ns E D G rd np):(∀x∈D,x∉G)/\(∀x∈D,x∉rd)/\(∀x∈G,x∉rd):=by
 refine hide λH gH=>?_;refine cQ (nodup_append.mp h.nd) λh1 h2 h3=>?_;refine cQ (nodup_append.mp h1) λh4 h5 h6=>?_;refine gH ?_;exact⟨λx a b=>h6 x a x b rfl,λx a b=>h3 x (mem_append_left _ a) x b rfl,λx a b=>h3 x (mem_append_right _ a) x b rfl⟩
theorem qgt {x:Int}(h:nIn E D x=0){e:Int×Int}(he:e∈E)(hx:e.2=x):e.1∈D:=by
 have:=List.countP_eq_zero.mp h e he;rw[hx,beq_self_eq_true,Bool.true_and,not_eq_true',Bool.not_eq_false,contains_iff_mem]at this;exact this
theorem fW.take (h:fW ns E D G rd np):fW ns E D (G++rd) [] (outs np rd):=by
 refine cQ (h.dis) λd1 d2 d3=>?_;refine⟨?_,?_,λx hx=>?_,λx h1 h2=>?_,λx hx h1 h2=>?_,λe he h1=>?_⟩
 ·rw[append_nil,<-append_assoc];exact h.nd
 ·rw[append_nil,<-append_assoc];exact h.sub
 ·rw[NZ];by_cases q:x∈rd
  ·rw[if_pos q]
  ·rw[if_neg q];exact h.gm x ((mem_append.mp hx).resolve_right q)
 ·rw[NZ,if_neg λq=>h2 (mem_append_right _ q)];exact h.npE x h1 λq=>h2 (mem_append_left _ q)
 ·have q:x∉rd:=λq=>h2 (mem_append_right _ q);have q2:x∉G:=λq=>h2 (mem_append_left _ q);rw[NZ,if_neg q,<-h.rdm x hx h1 q2];exact⟨λz=>absurd z not_mem_nil,λz=>absurd z q⟩
 ·rw[<-append_assoc]at h1;rcases mem_append.mp h1 with h1|h1
  ·exact h.pre e he h1
  ·have q1:e.2∉D:=λz=>d2 _ z h1;have q2:e.2∉G:=λz=>d3 _ z h1;have z:=(h.rdm e.2 (h.sub _ (mem_append_right _ h1)) q1 q2).mp h1;rw[h.npE _ q1 q2]at z;exact qgt (Int.natCast_eq_zero.mp z) he rfl
theorem qdq {x y:Int}:(cP E x).count y=E.countP λe=>e.2==y&&e.1==x:=by
 unfold cP;rw[List.count_eq_countP,countP_map,List.countP_filter];rfl
theorem MF {x y:Int}(hx:x∉D):nIn E D y=nIn E (D++[x]) y+(cP E x).count y:=by
 rw[qdq];unfold nIn
 induction E with
 | nil=>rfl
 | cons e E ih =>
  rw[countP_cons,countP_cons,countP_cons,ih,List.contains_append];have:([x]:List Int).contains e.1=(e.1==x):=by
   show (e.1==x||false)=_;rw[Bool.or_false]
  rw[this];have hd:(e.1==x)=true->D.contains e.1=false:=λq=>by
   rw[eq_of_beq q,<-not_eq_true,contains_iff_mem];exact hx
  cases h1:e.2==y <;> cases h2:e.1==x <;> cases h3:D.contains e.1 <;> first|rfl|(rw[hd h2]at h3;cases h3)|(simp only[Bool.true_and,Bool.false_and,Bool.or_true,Bool.or_false,Bool.not_true,Bool.not_false,if_true,false_eq_true,if_false];exact bG (aA (aB 0xf10aaf081af0aaa1 rfl)) (aA (aB 0x081af0aaff10aaa1 rfl)))
theorem wF {x y:Int}:y∈cP E x↔(x,y)∈E:=by
 unfold cP;rw[mem_map];constructor
 ·rintro⟨e,he,rfl⟩;refine bI (mem_filter.mp he) λh1 h2=>?_;have h2:=eq_of_beq h2;rw[<-h2];exact h1
 ·exact λh=>⟨(x,y),mem_filter.mpr ⟨h,beq_self_eq_true x⟩,rfl⟩
theorem fW.done {G1 G2:List Int}{x:Int}{su:Int->List Int}(h:fW ns E D (G1++x::G2) rd np)(hE:∀e∈E,e.1∈ns/\e.2∈ns)(dM:su x=cP E x):fW ns E (D++[x]) (G1++G2) (jF su (np,rd) x).2 (jF su (np,rd) x).1:=by
 refine hide λH gH=>?_;refine cQ (h.dis) λd1 d2 d3=>?_;have hx:x∈G1++x::G2:=mem_append_right _ mem_cons_self;have v4:x∉D:=λq=>d1 x q hx;have hp:(D++(G1++x::G2)++rd).Perm ((D++[x])++(G1++G2)++rd):=by
  refine List.Perm.append_right rd ?_;rw[append_assoc];exact List.Perm.append_left D List.perm_middle
 have hnd:=hp.nodup_iff.mp h.nd;refine cQ (nodup_append.mp hnd) λn1 n2 n3=>?_;have hmem:∀{y},y∈(D++[x])++(G1++G2)->y∈D++(G1++x::G2):=λ{y} q=>by
  simp only[mem_append,mem_cons,not_mem_nil,or_false]at q ⊢;rcases q with (q|q)|(q|q)
  ·exact .inl q
  ·exact .inr (.inr (.inl q))
  ·exact .inr (.inl q)
  ·exact .inr (.inr (.inr q))
 have hmem':∀{y},y∉D++[x]->y∉G1++G2->y∉D/\y≠x/\y∉G1++x::G2:=λ{y} q1 q2=>by
  simp only[mem_append,mem_cons,not_mem_nil,or_false,not_or]at q1 q2 ⊢;exact⟨q1.1,q1.2,q2.1,q1.2,q2.2⟩
 have hl:∀y∈cP E x,y∉D/\y∉G1++x::G2:=λy hy=>by
  have he:=wF.mp hy;exact⟨λq=>v4 (h.pre _ he (mem_append_left _ q)),λq=>v4 (h.pre _ he (mem_append_right _ q))⟩
 have hu:∀{y},y≠x->upd np x (-2) y=np y:=λq=>lA q;have hlx:x∉cP E x:=λq=>(hl x q).2 hx;have hrx:x∉rd:=d3 x hx;refine cQ (qbU (cP E x) (np:=upd np x (-2)) (rd:=rd) n2 (λy hy=>by
  rw[hu λe=>hrx (by rw[<-e];exact hy)];exact(h.rdm y (h.sub y (mem_append_right _ hy)) (λq=>d2 y q hy) (λq=>d3 y q hy)).mp hy) (λy hy=>by
  obtain⟨q1,q2⟩:=hl y hy;rw[hu λe=>q2 (by rw[e];exact hx),h.npE y q1 q2,MF v4];exact ofNat_le.mpr (Nat.le_add_left _ _))) λt1 t2 t3=>?_
 refine gH ?_;have hdn:jF su (np,rd) x=(cP E x).foldl iZ (upd np x (-2),rd):=by
  unfold jF;rw[dM]
 rw[hdn];have h0:∀{y},y∉cP E x->(cP E x).count y=0:=λq=>List.count_eq_zero.mpr q;refine⟨nodup_append.mpr ⟨n1,t1,λa ha b hb e=>?_⟩,λy hy=>?_,λy hy=>?_,λy h1 h2=>?_,λy hy h1 h2=>?_,λe he h1=>?_⟩
 ·subst e;rcases(t3 a).mp hb with q|⟨q,_⟩
  ·exact n3 a ha a q rfl
  ·exact(mem_append.mp (hmem ha)).elim (hl a q).1 (hl a q).2
 ·rcases mem_append.mp hy with q|q
  ·exact h.sub y (mem_append_left _ (hmem q))
  ·rcases(t3 y).mp q with q|⟨q,_⟩
   ·exact h.sub y (mem_append_right _ q)
   ·exact(hE _ (wF.mp q)).2
 ·have hy':y∈G1++x::G2:=by
   rcases mem_append.mp hy with q|q
   ·exact mem_append_left _ q
   ·exact mem_append_right _ (mem_cons_of_mem _ q)
  have hne:y≠x:=λe=>by
   have:=(nodup_append.mp n1).2.2 x (mem_append_right _ mem_cons_self) y hy;exact this e.symm
  rw[t2 y,hu hne,h.gm y hy',h0 λq=>(hl y q).2 hy'];rfl
 ·refine cQ (hmem' h1 h2) λq1 q2 q3=>?_;rw[t2 y,hu q2,h.npE y q1 q3,MF v4];rw[Int.natCast_add,Int.add_sub_cancel]
 ·refine cQ (hmem' h1 h2) λq1 q2 q3=>?_;rw[t2 y,t3 y,hu q2,h.rdm y hy q1 q3];by_cases w:y∈cP E x
  ·have:=List.count_pos_iff.mpr w;have e1:=h.npE y q1 q3;have e2:=MF (E:=E) (y:=y) v4;simp only[w,true_and];exact⟨λh=>h.elim (λh=>by omega) (λh=>jC (bV (cN 0x10ef08a1101 rfl (jG h))) (bV (cN 0x08f10ea1011 rfl (mV h)))),λh=>.inr (jC (bV (cN 0x1f0a10801e1 rfl (jG h))) (bV (cN 0x1f0a110e081 rfl (mV h))))⟩
  ·rw[h0 w];simp only[w,false_and,or_false];exact⟨(λU=>(jC (bV (jN 0x080ef08a10801 rfl (jG U))) (bV (jN 0x08f080ea10081 rfl (mV U))))),(λU=>(jC (bV (jN 0x0f08a108080e1 rfl (jG U))) (bV (jN 0x08f0a1080e081 rfl (mV U)))))⟩
 ·exact mem_append_left _ (h.pre e he (hmem h1))
end
structure fK (σ:Store) (L R:Nat) (ns:List Int) (E:Ed) (D G rd:List Int):Prop where
 mk ::
 ex:∃g p f,g.ns=ns/\(∀a,g.su a=cP E a)/\Run σ L R g rd p f/\fW ns E D G rd g.np
 mem:∀e∈E,e.1∈ns/\e.2∈ns
 nd:ns.Nodup
 big:ns.length+E.length<900
section
variable {P:gY}(H:nM P){σ:Store}{L R m:Nat}{ns:List Int}{E:Ed}{D G rd:List Int}
theorem fK.frm {σ':Store}{Y:Nat->Prop}(h:fK σ L R ns E D G rd)(k:aV Y σ σ')(hY:∀j,Own L R ns.length j->¬Y j):fK σ' L R ns E D G rd:=by
 refine lK (h.ex) λg p f h1 h2 h3 h4=>?_;exact⟨⟨g,p,f,h1,h2,h3.frm k (by rw[h1];exact hY),h4⟩,h.mem,h.nd,h.big⟩
theorem qbS {x:Int}:(cP E x).length<=E.length:=by
 unfold cP;rw[length_map];exact length_filter_le _ _
theorem fW.len {np:Int->Int}(h:fW ns E D G rd np):D.length+G.length+rd.length<=ns.length:=by
 have:=List.Nodup.length_le_of_subset h.nd h.sub;rw[length_append,length_append]at this;exact this
theorem qj3 (dM:∀a,cP E a=cP E a):∀{l:List Int},l.Nodup->(l.map λz=>1+(cP E z).length).sum<=l.length+E.length:=by
 intro l hl;have key:∀(l:List Int),l.Nodup->(l.map λz=>(cP E z).length).sum<=E.length:=by
  intro l hl
  induction E with
  | nil =>
   have:∀l:List Int,(l.map λz=>(cP [] z).length).sum=0:=λl=>by
    induction l with
    | nil=>rfl
    | cons a l ih=>rw[map_cons,sum_cons,ih];rfl
   rw[this];exact le_refl _
  | cons e E ih =>
   have ih:=ih λ_=>rfl;have hs:∀z,(cP (e::E) z).length=(if e.1=z then 1 else 0)+(cP E z).length:=λz=>by
    unfold cP;rw[filter_cons];by_cases q:e.1=z
    ·rw[if_pos (beq_iff_eq.mpr q),if_pos q,map_cons,length_cons,Nat.add_comm]
    ·rw[if_neg (λw=>q (eq_of_beq w)),if_neg q,zero_add]
   have two:∀(l:List Int),l.Nodup->(l.map λz=>(cP (e::E) z).length).sum<=(if e.1∈l then 1 else 0)+(l.map λz=>(cP E z).length).sum:=by
    intro l hl
    induction l with
    | nil=>exact le_refl _
    | cons a l ih2 =>
     have ih2:=ih2 (nodup_cons.mp hl).2;have ha:=(nodup_cons.mp hl).1;rw[map_cons,sum_cons,map_cons,sum_cons,hs a];by_cases q:e.1=a
     ·have q2:e.1∉l:=by rw[q];exact ha
      rw[if_neg q2]at ih2;rw[if_pos q,if_pos (by rw[q];exact mem_cons_self)];exact aA (aC 0x20faaf10afaa1108a21 rfl ih2)
     ·rw[if_neg q];by_cases w:e.1∈l
      ·rw[if_pos w]at ih2;rw[if_pos (mem_cons_of_mem _ w)];exact aA (aC 0x2008aaf10afaa11fa21 rfl ih2)
      ·rw[if_neg w]at ih2;exact aA (aL 0x3108aaf21a0aa1208a31 rfl ih2)
   have:=two l hl;rw[length_cons];split at this <;> (first|exact aA (aC 0x1ff0aa10212fa11 rfl this ih)|exact aA (aC 0x1ff0aa1021208a11 rfl this ih))
 have:=key l hl;have e:(l.map λz=>1+(cP E z).length).sum=l.length+(l.map λz=>(cP E z).length).sum:=by
  clear this hl
  induction l with
  | nil=>rfl
  | cons a l ih=>rw[map_cons,sum_cons,map_cons,sum_cons,ih,length_cons];exact bG (aA (aC 0x20a1faaf21af0aaa1 rfl)) (aA (aC 0x20af1aaf21a0faaa1 rfl))
 exact aA (aL 0x2f10aa113130a21 rfl (aQ e) this)
include H
theorem qkd {g:Gr}{rank:Int->Nat}(B:fJ σ L g)(hg:GE g E)(hb:g.ns.length+E.length<900)(hr:∀e∈E,rank e.1<rank e.2) :
  ∃σ' R,bD P (m+2) 5 [.ref L] σ=some (.none,σ')/\fK σ' L R g.ns E [] [] (g.ns.filter λx=>nIn E [] x==0)/\aV (L<=·) σ σ'/\R<σ'.length/\L+2+2*g.ns.length<=R:=by
 have hs:=qj3 (E:=E) (λ_=>rfl) B.nodes.nd;refine c7 (qg9 H (m:=m) (rank:=rank) B (ltN (aB 0x0384913849f10aa1 rfl hb)) (by
  have:(λz=>1+(g.su z).length)=λz=>1+(cP E z).length:=funext λz=>by rw[hg.su z]
  rw[this];exact ltN (aC 0x03e8913849f21aa121a01 rfl hs hb)) (λz hz y hy=>by
  rw[hg.su z]at hy;exact⟨(hg.mem _ (wF.mp hy)).2,hr _ (wF.mp hy)⟩)) λσ' R e r f hR=>?_
 have hrd:(g.ns.filter λx=>g.np x==0)=g.ns.filter λx=>nIn E [] x==0:=by
  refine filter_congr λx _=>?_;rw[hg.np x,Bool.eq_iff_iff,beq_iff_eq,beq_iff_eq];exact Int.natCast_eq_zero
 rw[hrd]at r;refine⟨σ',R,e,⟨⟨g,0,0,rfl,hg.su,r,by rw[<-hrd];exact fW.start hg B.nodes.nd⟩,hg.mem,B.nodes.nd,hb⟩,f,q9 r.ready,r.hR⟩
theorem qb0 (h:fK σ L R ns E D G rd):∃σ',bD P (m+1) 6 [.ref L] σ=some (.tup (rd.map .int),σ')/\fK σ' L R ns E D (G++rd) []/\aV (Own L R ns.length) σ σ':=by
 refine lK (h.ex) λg p f h1 h2 h3 h4=>?_;subst h1;refine bM (qeH H (m:=m) h3 (λx hx=>h4.sub x (mem_append_right _ hx))) λσ' e r k=>?_;exact⟨σ',e,⟨⟨{g with np:=outs g.np rd},_,_,rfl,h2,r,h4.take⟩,h.mem,h.nd,h.big⟩,k⟩
end
theorem Z6 {x:Int}{n:Nat}(h:0<=x)(h2:x<n):x∈(List.range n).map λ(i:Nat)=>(i:Int) :=
 mem_map.mpr ⟨x.toNat,mem_range.mpr (ofNat_lt.mp (by rw[toNat_of_nonneg h];exact h2)),toNat_of_nonneg h⟩
theorem qae {n:Nat}(h:n<=1000):n<=lim:=le_trans h (by decide)
theorem jO {r:Loc}{k i:Nat}{x:Option D}{d:D}(h:r[i]?=some (some d))(hk:k≠i):(r.set k x)[i]?=some (some d):=(getElem?_set_ne hk).trans h
theorem kY {r:Loc}{k:Nat}{d:D}(h:k<r.length):(r.set k (some d))[k]?=some (some d):=getElem?_set_self h
section
variable {X:aU}{W:Nat}{r r':Loc}{s s1 s2 s':Store}{t:Nat}{x d:D}
noncomputable def qbP (X:aU)(t:Nat)(ifs:List E)(elt:E)(r:Loc)(d:D)(s:Store):Option (List D×Store):=(gJ X ifs (r.set t (some d)) s).bind λa=>bif a.1 then nU X [] (ev X elt) (r.set t (some d)) a.2 else some ([],a.2)
theorem yN (v:Int):∀l:List Int,eqs (.int v) (l.map .int)=some (l.map λb=>b==v)
 | []=>rfl
 | b::l=>bnd (a:=b==v) rfl (bnd (yN v l) rfl)
theorem Z5 (v:Int)(l:List Int):pZ (.int v) (l.map .int)=some (l.contains v):=by
 refine bnd (yN v l) (congrArg some ?_);rw[any_map,List.contains_eq_any_beq,Bool.eq_iff_iff,any_eq_true,any_eq_true];exact⟨λ⟨a,h,e⟩=>⟨a,h,beq_iff_eq.mpr (eq_of_beq e).symm⟩,λ⟨a,h,e⟩=>⟨a,h,beq_iff_eq.mpr (eq_of_beq e).symm⟩⟩
theorem Z8 {v:Int}{l:List Int}(h:v∈l):zW (.int v) (l.map .int)=some (l.idxOf v):=by
 refine bnd (yN v l) ?_;show (l.map λb=>b==v).findIdx? id=_;rw[List.findIdx?_map];show l.findIdx? (λb=>b==v)=_;exact List.findIdx?_eq_some_iff_findIdx_eq.mpr ⟨idxOf_lt_length_of_mem h,rfl⟩
theorem qj1 {l:List Int}:mQ .sum s [aD l]=some (.int l.sum,s):=by
 show ((iM (l.map .int)).bind λis=>some (D.int is.sum,s))=_;rw[H4];rfl
theorem W5 (m:Nat):∀(a b:List Int),a.length=b.length->gO (bY (m+1)) (a.map .int) (b.map .int)=some (decide (a=b))
 | [],[],_=>rfl
 | x::a,y::b,h=>by
  show ((bY (m+1) (.int x) (.int y)).bind λu=>(gO (bY (m+1)) (a.map .int) (b.map .int)).bind λv=>some (u&&v))=_;rw[W5 m a b (Nat.succ.inj h)];show some ((x==y)&&decide (a=b))=_;refine congrArg some (Bool.eq_iff_iff.mpr ?_);rw[and_eq_true,beq_iff_eq,decide_eq_true_iff,decide_eq_true_iff,List.cons.injEq]
theorem W8 (m:Nat)(a b:List Int):bY (m+2) (aD a) (aD b)=some (decide (a=b)):=by
 show (if (a.map D.int).length==(b.map D.int).length then gO (bY (m+1)) (a.map .int) (b.map .int) else some false)=_;rw[length_map,length_map];by_cases h:a.length=b.length
 ·rw[if_pos (beq_iff_eq.mpr h),W5 m a b h]
 ·rw[if_neg (λq=>h (eq_of_beq q)),decide_eq_false λq=>h (by rw[q])]
theorem I3 (a b:List Int):cmpOp s .Eq (aD a) (aD b)=some (decide (a=b)):=W8 6 a b
theorem MK (a b:List Int):cmpOp s .NotEq (aD a) (aD b)=some (!decide (a=b)):=bnd (W8 6 a b) rfl
noncomputable def LC (tms:List Int):Int:=(sortI tms).getD ((tms.length-1)/2) 0
noncomputable def JN (tms:List Int):Int:=(sortI tms).getD (tms.length/2) 0
theorem uI (l:List Int):(sortI l).length=l.length:=(sortI_perm l).length_eq
theorem qjT {tms:List Int}(h:tms.length<1000){e:E}(he:ev X e r s=some (aD tms,s1))(hs:∀q,e≠.star q):ev X (.bi .sorted [e]) r s=some (aD (sortI tms),s1):=by
 refine bnd (dW he hs) ?_;show (if (tms.map D.int).length<1000 then(qP (tms.map .int)).bind λl'=>some (D.list l',s1) else .none)=_;unfold qP;rw[H4,length_map,if_pos h];rfl
theorem wA {l:List D}{e:E}(he:ev X e r s=some (.list l,s1))(hs:∀q,e≠.star q):ev X (.bi .len [e]) r s=some (.int l.length,s1):=bnd (dW he hs) rfl
theorem qbq {l:List Int}{i:Nat}{v:Int}(h:l[i]?=some v):getItem s (aD l) (.int i)=some (.int v):=by
 show gQ (l.map D.int) i false=_;unfold gQ;rw[if_pos (by exact bV (jN 0x08f0a10081 rfl (uB _))),toNat_natCast,getElem?_map,h];rfl
theorem qeI {tms:List Int}{i:Nat}(hi:i<tms.length):(sortI tms)[i]?=some ((sortI tms).getD i 0):=by
 have hl:i<(sortI tms).length:=by rw[uI];exact hi
 rw[getElem?_eq_getElem hl,getD_eq_getElem?_getD,getElem?_eq_getElem hl];rfl
end
theorem qeP {n:Nat}(q:n%2=1):n/2=(n-1)/2:=by
 have hd:=Nat.div_add_mod n 2;rw[q]at hd;exact bG (aA (aL 0x1f0a22802caf3a1f3a212f12ba1 rfl (aQ hd) (aR _ _) (mU _ (by decide)))) (aA (aL 0x1f0a2312c1231f02ba21 rfl (aW hd) (eV _ _) (d7 _ _)))
theorem qeO {n:Nat}(q:¬n%2=1)(h0:0<n):n/2-1=(n-1)/2/\1<=n/2:=by
 have hd:=Nat.div_add_mod n 2;rw[(Nat.mod_two_eq_zero_or_one n).resolve_right q]at hd;have h1:1<=n/2:=aA (aB 0xff0a21f08a10802ba11 rfl (aW hd) h0);exact⟨bG (aA (bN 0x1f0a22f1a22802caf4a1f4a3130822ba1 rfl (aQ hd) (aR _ _) (mU _ (by decide)) (aM (aA (aK 0xff0a10f1 rfl h1))))) (aA (bN 0x1f0a22f4a1412c1f0a320832ba21 rfl (aW hd) (aR _ _) (d7 _ _) (aM (aA (aK 0xff0a10f08a1 rfl h0))))),h1⟩
section
variable {P:gY}{s:Store}{m:Nat}{tms:List Int}(H:nM P)(h:tms.length<1000)(h0:0<tms.length)
theorem M6:binOp .FloorDiv (.int tms.length) (.int 2)=some (.int (tms.length/2:Nat)):=by
 show (if (2:Int)≠0/\small 2=true then some (D.int ((tms.length:Int).fdiv 2)) else .none)=_;rw[if_pos ⟨by decide,rfl⟩,Int.fdiv_eq_ediv_of_nonneg _ (by decide)];rfl
include h h0 in
theorem qaB {X:aU}{b:List S}{R:Option (Fl×Loc×Store)}(k:exs X 1000 b [some (aD (sortI tms)),some (.int tms.length)] s=R) :
  exs X 1000 (.assign (.name 0) (.bi .sorted [.var 0])::.assign (.name 1) (.bi .len [.var 0])::.ife (.cmp .Eq (.var 1) (.int 0)) [.bad] []::b) [some (aD tms),.none] s=R:=by
 have hz:((tms.length:Int)==0)=false:=by rw[beq_eq_false_iff_ne];exact λU=>(jN 0x0f08a10801 rfl (jG U) (oL h0))
 have hl:ev X (.bi .len [.var 0]) [some (aD (sortI tms)),.none] s=some (.int tms.length,s):=by
  refine(wA (e:=.var 0) (l:=(sortI tms).map .int) rfl (λ_=>nofun)).trans ?_;rw[length_map,uI]
 exact aP (cH (qjT h rfl (λ_=>nofun))) (aP (cH hl) (aP (jL (t:=((tms.length:Int)==0)) rfl (λq=>by rw[hz]at q;cases q) λ_=>rfl) k))
theorem M5 {X:aU}{e:E}{i:Nat}(he:ev X e [some (aD (sortI tms)),some (.int tms.length)] s=some (.int i,s))(hi:i<tms.length):ev X (.idx (.var 0) e) [some (aD (sortI tms)),some (.int tms.length)] s=some (.int ((sortI tms).getD i 0),s) :=
 eF (x:=aD (sortI tms)) rfl he (qbq (qeI hi))
include H h h0
theorem qeZ:bD P (m+1) 1 [aD tms] s=some (.int (JN tms),s):=by
 apply call_of (r:=[some (aD tms),.none]) H.W H.f1 rfl;exact qaB h h0 (oF (M5 (fZ rfl rfl M6) (Nat.div_lt_self h0 (by decide))))
theorem qf8:bD P (m+1) 0 [aD tms] s=some (.int (LC tms),s):=by
 have hmod:(tms.length:Int).fmod 2=(tms.length%2:Nat):=by rw[Int.fmod_eq_emod_of_nonneg _ (by decide)];rfl
 have hb:ev ⟨P.globs,bD P m⟩ (.bin .Mod (.var 1) (.int 2)) [some (aD (sortI tms)),some (.int tms.length)] s=some (.int (tms.length%2:Nat),s) :=
  fZ rfl rfl (by
   show (if (2:Int)=0 then .none else some (D.int ((tms.length:Int).fmod 2)))=_;rw[if_neg (by decide),hmod])
 have ht:test ⟨P.globs,bD P m⟩ (.cmp .Eq (.bin .Mod (.var 1) (.int 2)) (.int 1)) [some (aD (sortI tms)),some (.int tms.length)] s=some (((tms.length%2:Nat):Int)==1,s) :=
  bnd (cR (X:=⟨P.globs,bD P m⟩) (op:=.Eq) (i:=.int 1) (b:=((tms.length%2:Nat):Int)==1) hb rfl rfl) rfl
 apply call_of (r:=[some (aD tms),.none]) H.W H.f0 rfl;refine qaB h h0 (qeb (r':=[some (aD (sortI tms)),some (.int tms.length)]) (jL ht (λq=>?_) λq=>?_))
 ·have q:=eq_of_beq q;refine oF (M5 (i:=(tms.length-1)/2) ?_ (lt_of_le_of_lt (Nat.div_le_self _ _) (Nat.sub_lt h0 Nat.one_pos)));rw[<-qeP (ofNat.inj q)];exact fZ rfl rfl M6
 ·have q:=beq_eq_false_iff_ne.mp q;refine bI (qeO (λe=>q (congrArg ofNat e)) h0) λe1 e2=>?_;refine oF (M5 (i:=(tms.length-1)/2) ?_ (lt_of_le_of_lt (Nat.div_le_self _ _) (Nat.sub_lt h0 Nat.one_pos)));rw[<-e1,Int.ofNat_sub e2];exact fZ (fZ rfl rfl M6) rfl rfl
end
theorem qjU {s:List Int}(hs:s.Pairwise (·<=·))(τ:Int):∀i (hi:i<s.length),s[i]<τ↔i<s.countP (λx=>decide (x<τ)):=by
 induction s with
 | nil=>intro i hi;exact absurd hi (not_lt_zero _)
 | cons x l ih =>
  intro i hi;refine bI (pairwise_cons.mp hs) λh1 h2=>?_;rw[countP_cons];by_cases hx:x<τ
  ·rw[if_pos (decide_eq_true hx)];cases i with
   | zero=>exact⟨λ_=>Nat.succ_pos _,λ_=>hx⟩
   | succ i=>exact(ih h2 i (Nat.lt_of_succ_lt_succ hi)).trans Nat.succ_lt_succ_iff.symm
  ·have hz:l.countP (λx=>decide (x<τ))=0 :=
    List.countP_eq_zero.mpr λy hy=>by rw[decide_eq_true_iff];have:=h1 y hy;exact(mX 0x1f0a1211021 rfl this (bV hx))
   rw[if_neg (λq=>hx (of_decide_eq_true q)),hz];refine⟨λq=>absurd q ?_,λq=>absurd q (not_lt_zero _)⟩;cases i with
   | zero=>exact hx
   | succ i =>
    have:=h1 _ (getElem_mem (Nat.lt_of_succ_lt_succ hi));exact λq=>absurd (Int.lt_of_le_of_lt this q) hx
theorem qeG {tms:List Int}{i:Nat}(hi:i<tms.length)(τ:Int):(sortI tms).getD i 0<τ↔i<tms.countP (λx=>decide (x<τ)):=by
 have hl:i<(sortI tms).length:=by rw[uI];exact hi
 rw[getD_eq_getElem?_getD,getElem?_eq_getElem hl,<-(sortI_perm tms).countP_eq];exact qjU (sV tms) τ i hl
theorem getD_mem {tms:List Int}{i:Nat}(hi:i<tms.length):(sortI tms).getD i 0∈tms:=by
 have hl:i<(sortI tms).length:=by rw[uI];exact hi
 rw[getD_eq_getElem?_getD,getElem?_eq_getElem hl];exact(sortI_perm tms).mem_iff.mp (getElem_mem hl)
theorem qbJ {l l':List Int}(h:l.Perm l')(hs:l'.Pairwise (·<=·)):sortI l=l' :=
 List.Perm.eq_of_pairwise (λa b _ _ h1 h2=>le_antisymm h1 h2) (sV l) hs ((sortI_perm l).trans h)
theorem links {x:Int}:∀(ps:List Int) (g:Gr),(ps.foldl (Gr.link x) g).np=g.np/\(∀a,(ps.foldl (Gr.link x) g).su a=g.su a++cP (ps.map λp=>(p,x)) a)/\∀y,y∈(ps.foldl (Gr.link x) g).ns↔y∈g.ns\/y∈ps
 | []=>λg=>⟨rfl,λa=>(append_nil _).symm,λy=>⟨.inl,λq=>q.resolve_right not_mem_nil⟩⟩
 | p::ps=>λg=>by
  obtain⟨h1,h2,h3⟩:=links ps (g.link x p);refine⟨h1.trans wU.1,λa=>?_,λy=>?_⟩
  ·refine(h2 a).trans ?_;show upd g.su p (g.su p++[x]) a++_=_;by_cases q:a=p
   ·subst q;rw[nD];unfold cP;rw[map_cons,filter_cons,beq_self_eq_true,if_pos rfl,map_cons,append_assoc];rfl
   ·rw[lA q];unfold cP;rw[map_cons,filter_cons,beq_eq_false_iff_ne.mpr (λe:p=a=>q e.symm),if_neg Bool.false_ne_true]
  ·refine(h3 y).trans ?_;rw[mem_cons];constructor
   ·rintro(q|q)
    ·exact(qbX (x:=p) q).imp_right .inl
    ·exact .inr (.inr q)
   ·rintro(q|q|q)
    ·exact .inl (qbZ (x:=p) q)
    ·exact .inl (by rw[q];exact QZ)
    ·exact .inr q
theorem qaI (x y:Int):∀ps:List Int,nIn (ps.map λp=>(p,x)) [] y=if y=x then ps.length else 0
 | []=>by split <;> rfl
 | p::ps=>by
  have ih:=qaI x y ps;unfold nIn at ih ⊢;rw[map_cons,countP_cons,ih];by_cases q:y=x
  ·subst q;rw[if_pos rfl,if_pos rfl,beq_self_eq_true];rfl
  ·rw[if_neg q,if_neg q,beq_eq_false_iff_ne.mpr (λe:x=y=>q e.symm)];rfl
theorem GE.addN {g:Gr}{E:Ed}{x:Int}{ps:List Int}(h:GE g E):GE (g.add x ps) (E++ps.map λp=>(p,x))/\∀y,y∈(g.add x ps).ns↔y∈g.ns\/y=x\/y∈ps:=by
 refine cQ (links (x:=x) ps ((g.touch x).bump x ps.length)) λh1 h2 h3=>?_;have hm:∀y,y∈(g.add x ps).ns↔y∈g.ns\/y=x\/y∈ps:=λy=>by
  refine(h3 y).trans ?_;constructor
  ·rintro(q|q)
   ·exact(qbX (x:=x) q).imp_right .inl
   ·exact .inr (.inr q)
  ·rintro(q|q|q)
   ·exact .inl (qbZ (x:=x) q)
   ·exact .inl (by rw[q];exact QZ)
   ·exact .inr q
 refine⟨⟨λy=>?_,λa=>?_,λe he=>?_⟩,hm⟩
 ·rw[qgs,qaI];refine(congrFun h1 y).trans ?_;show upd (g.touch x).np x ((g.touch x).np x+ps.length) y=_;rw[wU.1];by_cases q:y=x
  ·subst q;rw[nD,if_pos rfl,h.np y];rfl
  ·rw[lA q,if_neg q,h.np y];rfl
 ·rw[qj0,<-h.su a];refine(h2 a).trans ?_;show (g.touch x).su a++_=_;rw[wU.2]
 ·rcases mem_append.mp he with he|he
  ·exact⟨(hm _).mpr (.inl (h.mem e he).1),(hm _).mpr (.inl (h.mem e he).2)⟩
  ·obtain⟨p,hp,rfl⟩:=mem_map.mp he;exact⟨(hm _).mpr (.inr (.inr hp)),(hm _).mpr (.inr (.inl rfl))⟩
theorem fW.some {ns:List Int}{E:Ed}{su:Int->List Int}(dM:∀a,su a=cP E a)(hE:∀e∈E,e.1∈ns/\e.2∈ns)(hb:ns.length+E.length<900):∀(xs:List Int) {D G rd:List Int} {np:Int->Int},fW ns E D G rd np->xs.Nodup->(∀x∈xs,x∈G) ->
  ∃G',(∀y,y∈G'↔y∈G/\y∉xs)/\w5 su ns (np,rd) xs/\fW ns E (D++xs) G' (xs.foldl (jF su) (np,rd)).2 (xs.foldl (jF su) (np,rd)).1
 | [],D,G,rd,np,h,_,_=>⟨G,λy=>⟨λq=>⟨q,not_mem_nil⟩,λq=>q.1⟩,trivial,by rw[append_nil];exact h⟩
 | x::xs,D,G,rd,np,h,hn,hx=>by
  refine hide λH gH=>?_;refine bI (nodup_cons.mp hn) λn1 n2=>?_;obtain⟨G1,G2,rfl⟩:=List.append_of_mem (hx x mem_cons_self);have h1:=fW.done (G1:=G1) h hE (dM x);have hG:(G1++x::G2).Nodup:=(nodup_append.mp (nodup_append.mp h.nd).1).2.1;have hm:∀y,y∈G1++G2↔y∈G1++x::G2/\y≠x:=λy=>by
   rw[mem_append,mem_append,mem_cons];refine cQ (nodup_append.mp hG) λa1 a2 a3=>?_;constructor
   ·rintro(q|q)
    ·exact⟨.inl q,a3 y q x mem_cons_self⟩
    ·exact⟨.inr (.inr q),λe=>(nodup_cons.mp a2).1 (e▸q)⟩
   ·rintro⟨q|q|q,e⟩
    ·exact .inl q
    ·exact absurd q e
    ·exact .inr q
  refine bM (fW.some dM hE hb xs h1 n2 λy hy=>(hm y).mpr ⟨hx y (mem_cons_of_mem _ hy),λe=>n1 (e▸hy)⟩) λG' k0 k1 k2=>?_;refine gH ?_;have hl:=h.len;have hs:=qbS (E:=E) (x:=x);rw[append_assoc]at k2;refine⟨G',λy=>?_,⟨⟨h.sub x (mem_append_left _ (mem_append_right _ (hx x mem_cons_self))),h.gm x (hx x mem_cons_self),?_,λy hy=>?_⟩,k1⟩,k2⟩
  ·rw[k0,hm,mem_cons,not_or,and_assoc]
  ·rw[dM];show rd.length+_<_;exact ltN (eU 0x10a384913849f25aa15043aa1211 rfl hs hl hb)
  ·rw[dM]at hy;exact(hE _ (wF.mp hy)).2
section
variable {P:gY}(H:nM P){σ:Store}{L R m:Nat}{ns:List Int}{E:Ed}{D G rd:List Int}
include H
theorem qke {xs:List Int}(h:fK σ L R ns E D G rd)(hn:xs.Nodup)(hx:∀x∈xs,x∈G):∃σ' rd' G',bD P (m+1) 8 (.ref L::xs.map .int) σ=some (.none,σ')/\(∀y,y∈G'↔y∈G/\y∉xs)/\fK σ' L R ns E (D++xs) G' rd'/\aV (Own L R ns.length) σ σ':=by
 refine lK (h.ex) λg p f h1 h2 h3 h4=>?_;subst h1;have hl:=h4.len;have hb:=h.big;have pX:=List.Nodup.length_le_of_subset hn hx;refine bM (fW.some h2 h.mem hb xs h4 hn hx) λG' k0 k1 k2=>?_;refine bM (qdz H (m:=m) h3 k1 (ltN (eU 0x0384912514aa13849f32aa1101 rfl pX hb hl))) λσ' e r k=>?_;exact⟨σ',_,G',e,k0,⟨⟨{g with np:=(xs.foldl (jF g.su) (g.np,rd)).1},_,_,rfl,h2,r,k2⟩,h.mem,h.nd,h.big⟩,k⟩
end
section
variable {X:aU}{r:Loc}{s s1 s2:Store}{t:Nat}{x:D}{α:Type}{em:α->D}
theorem K5 {l:List D}(h:treeOf x=some l):K4 s x=some (l,s,.none):=by
 cases x <;> first|exact bO h|exact Option.some.inj h▸rfl
theorem wK {f:D->Store->Option (List D×Store)}{b:α->Bool}{g:α->D}:∀{l:List α},(∀i∈l,f (em i) s=some (if b i then[g i] else[],s))->j6 f (l.map em) s=some ((l.filter b).map g,s)
 | []=>λ_=>rfl
 | i::l=>λh=>by
  refine(CQ (h i mem_cons_self) (wK (l:=l) λx hx=>h x (mem_cons_of_mem _ hx))).trans ?_;rw[filter_cons];cases b i <;> rfl
theorem HS {e elt:E}{ifs:List E}{l out:List D}(he:ev X e r s=some (x,s1))(hx:treeOf x=some l)(hl:out.length<=lim)(h:j6 (qbP X t ifs elt r) l s1=some (out,s2)):ev X (.comp false elt [.mk [t] false (.e e) ifs]) r s=some (.list out,s2) :=
 bnd (a:=(out,s2)) (bnd (a:=(l,s1,.none)) (bnd he (K5 hx)) (bnd h rfl)) (bnd (show pB out=some (.list out) from if_pos hl) rfl)
theorem oY {e elt c:E}{l:List α}{b:α->Bool}{g:α->D}(he:ev X e r s=some (x,s1))(hx:treeOf x=some (l.map em))(hl:l.length<=1000)(hc:∀i∈l,ev X c (r.set t (some (em i))) s1=some (.bool (b i),s1))(hv:∀i∈l,ev X elt (r.set t (some (em i))) s1=some (g i,s1)) :
  ev X (.comp false elt [.mk [t] false (.e e) [c]]) r s=some (.list ((l.filter b).map g),s1):=by
 refine HS he hx (qae (le_trans (by rw[length_map];exact length_filter_le b l) hl)) (wK λi hi=>bnd (vN (hc i hi)) ?_);cases b i
 ·rfl
 ·exact bnd (hv i hi) rfl
theorem lJ {e elt:E}{l:List α}{g:α->D}(he:ev X e r s=some (x,s1))(hx:treeOf x=some (l.map em))(hl:l.length<=5000)(hv:∀i∈l,ev X elt (r.set t (some (em i))) s1=some (g i,s1)) :
  ev X (.comp false elt [.mk [t] false (.e e) []]) r s=some (.list (l.map g),s1):=by
 refine HS he hx (le_trans (by rw[length_map];exact hl) (by decide)) ((wK (b:=λ_=>true) (g:=g) λi hi=>bnd (a:=(true,s1)) rfl (bnd (hv i hi) rfl)).trans ?_);rw[List.filter_eq_self.mpr λ_ _=>rfl]
theorem U9 {e elt c:E}{l:List α}{b:α->Bool}{g:α->D}{k:Nat}(he:ev X e r s=some (.ref k,s1))(hg:s1[k]?=some (.list (l.map em)))(hl:l.length<=1000)(hc:∀i∈l,ev X c (r.set t (some (em i))) (s1.set k (.llist (l.map em)))=some (.bool (b i),s1.set k (.llist (l.map em))))(hv:∀i∈l,ev X elt (r.set t (some (em i))) (s1.set k (.llist (l.map em)))=some (g i,s1.set k (.llist (l.map em)))) :
  ev X (.comp false elt [.mk [t] false (.e e) [c]]) r s=some (.list ((l.filter b).map g),s1):=by
 have hk:=q9 hg;refine bnd (a:=((l.filter b).map g,s1)) (bnd (a:=(l.map em,s1.set k (.llist (l.map em)),some k)) (bnd he ?_) (bnd (wK (b:=b) (g:=g) λi hi=>bnd (a:=r.set t (some (em i))) rfl (bnd (vN (hc i hi)) ?_)) (bnd (a:=s1) ?_ rfl))) (bnd (show pB ((l.filter b).map g)=some (.list ((l.filter b).map g)) from if_pos (qae (le_trans (by rw[length_map];exact length_filter_le b l) hl))) rfl)
 ·show ((s1[k]?).bind qM).bind _=_;rw[hg];rfl
 ·cases b i
  ·rfl
  ·exact bnd (hv i hi) rfl
 ·show (((s1.set k (.llist (l.map em)))[k]?).bind G4).bind _=_;rw[getElem?_set_self hk];show some ((s1.set k _).set k (.list (l.map em)))=some s1;rw[set_set];refine congrArg some (List.ext_getElem? λi=>?_);by_cases q:k=i
  ·subst q;rw[getElem?_set_self hk,hg]
  ·rw[getElem?_set_ne q]
end
theorem ln {r:Loc}{k n:Nat}{x:Option D}(h:r.length=n):(r.set k x).length=n:=(length_set ..).trans h
theorem bC {r:Loc}{k:Nat}{d:D}(h:r.length=59)(hk:k<59):(r.set k (some d))[k]?=some (some d):=kY (by rw[h];exact hk)
theorem aH {r:Loc}{k i:Nat}{x:Option D}{d:D}(h:r[i]?=some (some d))(hk:beq k i=false):(r.set k x)[i]?=some (some d):=jO h (Nat.ne_of_beq_eq_false hk)
section
variable {X:aU}{r:Loc}{s s1 s2:Store}
theorem qdZ {a b:E}{x y:Bool}(ha:ev X a r s=some (.bool x,s))(hb:ev X b r s=some (.bool y,s)):ev X (.or a b) r s=some (.bool (x||y),s):=bnd ha (bnd (a:=x) rfl (by
 cases x
 ·exact hb
 ·rfl))
theorem vM {a b:E}{x y:Bool}(ha:ev X a r s=some (.bool x,s))(hb:x=true->ev X b r s=some (.bool y,s)):ev X (.and a b) r s=some (.bool (x&&y),s):=bnd ha (bnd (a:=x) rfl (by
 cases x
 ·rfl
 ·exact hb rfl))
theorem vP {a b:E}{x y:D}(ha:ev X a r s=some (x,s1))(h1:∀q,a≠.star q)(hb:ev X b r s1=some (y,s2))(h2:∀q,b≠.star q):evs X [a,b] r s=some ([x,y],s2):=by
 cases a <;> first|exact bnd ha (bnd (dW hb h2) rfl)|exact absurd rfl (h1 _)
theorem xJ {a b:E}{l l':List D}(ha:ev X a r s=some (.list l,s1))(hb:ev X b r s1=some (.list l',s2))(hl:l.length+l'.length<=lim):ev X (.bin .Add a b) r s=some (.list (l++l'),s2) :=
 fZ ha hb (by
  show pB (l++l')=some (.list (l++l'));exact if_pos (by rw[length_append];exact hl))
theorem qbr {l:List Int}{i v:Int}(h0:0<=i)(h:l[i.toNat]?=some v):getItem s (aD l) (.int i)=some (.int v):=by
 have:=qbq (s:=s) h;rw[toNat_of_nonneg h0]at this;exact this
theorem nZ {l:List D}{i:Int}{v:D}(h0:0<=i)(h:l[i.toNat]?=some v):getItem s (.list l) (.int i)=some v:=by
 show gQ l i false=_;unfold gQ;rw[if_pos h0];exact h
theorem wG (a i:Int)(h:small a=true):binOp .Mult (.int a) (.int i)=some (.int (a*i)):=by
 show (if small a||small i then some (D.int (a*i)) else .none)=_;rw[h];rfl
theorem JS (v:Int)(l:List Int)(s:Store):cmpOp s .In (.int v) (aD l)=some (l.contains v):=Z5 v l
theorem qaO (v:Int)(l:List Int)(s:Store):cmpOp s .NotIn (.int v) (aD l)=some (!l.contains v):=bnd (Z5 v l) rfl
end
structure Kp (ks:List Nat) (r r':Loc):Prop where
 len:r'.length=r.length
 at_:∀i d,ks.contains i=false->r[i]?=some (some d)->r'[i]?=some (some d)
theorem Kp.refl {ks:List Nat}{r:Loc}:Kp ks r r:=⟨rfl,λ_ _ _ h=>h⟩
theorem Kp.trans {ks:List Nat}{r r' r'':Loc}(a:Kp ks r r')(b:Kp ks r' r''):Kp ks r r'':=⟨b.len.trans a.len,λi d h g=>b.at_ i d h (a.at_ i d h g)⟩
theorem Kp.set {ks:List Nat}{r:Loc}{k:Nat}{x:Option D}(hk:ks.contains k=true):Kp ks r (r.set k x):=⟨length_set ..,λi d h g=>jO g λe=>by rw[e,h]at hk;cases hk⟩
theorem fK.pre {s:Store}{L R:Nat}{ns D G rd:List Int}{E:Ed}(h:fK s L R ns E D G rd):∀e∈E,e.2∈D++G->e.1∈D:=h.ex.elim λ_ h=>h.elim λ_ h=>h.elim λ_ h=>h.2.2.2.pre
theorem fK.sub {s:Store}{L R:Nat}{ns D G rd:List Int}{E:Ed}(h:fK s L R ns E D G rd):∀x∈D++G++rd,x∈ns:=h.ex.elim λ_ h=>h.elim λ_ h=>h.elim λ_ h=>h.2.2.2.sub
theorem fK.dnd {s:Store}{L R:Nat}{ns D G rd:List Int}{E:Ed}(h:fK s L R ns E D G rd):(D++G++rd).Nodup:=h.ex.elim λ_ h=>h.elim λ_ h=>h.elim λ_ h=>h.2.2.2.nd
theorem fK.out {s:Store}{L R:Nat}{ns D G:List Int}{E:Ed}(h:fK s L R ns E D G []){x:Int}(hx:x∈ns)(hp:∀e∈E,e.2=x->e.1∈D):x∈D\/x∈G:=by
 obtain⟨g,_,_,_,_,_,i⟩:=h.ex;by_cases h1:x∈D
 ·exact .inl h1
 by_cases h2:x∈G
 ·exact .inr h2
 have hz:nIn E D x=0:=List.countP_eq_zero.mpr λe he q=>by
  obtain⟨q1,q2⟩:=and_eq_true_iff.mp q;rw[contains_iff_mem.mpr (hp e he (eq_of_beq q1))]at q2;cases q2
 have:=(i.rdm x hx h1 h2).mpr (by rw[i.npE x h1 h2,hz];rfl);exact absurd this not_mem_nil
end Internal
end
section
open PySem
namespace Internal
namespace P05
noncomputable def four:List Int:=[0,1,2,3]
theorem O1 {f:Int->Int}(h1:∀x∈four,f x∈four)(h2:∀x∈four,∀y∈four,f x=f y->x=y){z:Int}(hz:z∈four):∃x∈four,f x=z:=by
 by_cases hm:z∈four.map f
 ·refine aF (mem_map.mp hm) λx hx e=>?_;exact⟨x,hx,e⟩
 ·exfalso;have hn:(four.map f).Nodup:=by
   refine pairwise_map.mpr (Pairwise.imp_of_mem (R:=(·≠·)) (λ{a b} ha hb hab e=>hab (h2 a ha b hb e)) (by decide))
  have:=List.Nodup.length_le_of_subset (l₂:=four) (nodup_cons.mpr ⟨hm,hn⟩) λx hx=>by
   rcases mem_cons.mp hx with rfl|hx
   ·exact hz
   ·refine aF (mem_map.mp hx) λy hy e=>?_;exact e▸h1 y hy
  rw[length_cons,length_map]at this;exact absurd this (by decide)
structure Way (w v:Int->Int):Prop where
 wf:∀g∈four,w g∈four/\v (w g)=g
 vf:∀h∈four,v h∈four/\w (v h)=h
theorem Way.swap {w v:Int->Int}(h:Way w v):Way v w:=⟨h.vf,h.wf⟩
theorem Way.of {w v:Int->Int}(h1:∀g∈four,w g∈four)(h2:∀g∈four,v (w g)=g):Way w v:=by
 refine⟨λg hg=>⟨h1 g hg,h2 g hg⟩,λh hh=>?_⟩;obtain⟨x,hx,rfl⟩:=O1 h1 (λx hx y hy e=>by rw[<-h2 x hx,<-h2 y hy,e]) hh;rw[h2 x hx];exact⟨hx,rfl⟩
noncomputable def uV (G:Int->Int->Nat):Prop:=∀g∈four,∀h∈four,∀h'∈four,G g h=G g h'->h=h'
noncomputable def St (G H:Int->Int->Nat)(w v:Int->Int):Prop:=∀g∈four,∀h∈four,G g (w g)<=G g h\/H h (v h)<=H h g
theorem St.swap {G H:Int->Int->Nat}{w v:Int->Int}(h:St G H w v):St H G v w:=λg hg k hk=>(h k hk g hg).symm
section
variable {G H:Int->Int->Nat}{w v w' v':Int->Int}
noncomputable def best (G:Int->Int->Nat)(w w':Int->Int)(g:Int):Int:=if G g (w g)<=G g (w' g) then w g else w' g
noncomputable def qU (G:Int->Int->Nat)(w w':Int->Int)(g:Int):Int:=if G g (w g)<=G g (w' g) then w' g else w g
theorem H9 (g:Int):G g (best G w w' g)=min (G g (w g)) (G g (w' g)):=by
 unfold best;rw[Nat.min_def];split <;> rfl
theorem RC (g:Int):G g (qU G w w' g)=max (G g (w g)) (G g (w' g)):=by
 unfold qU;rw[Nat.max_def];split <;> rfl
theorem qcb {h k:Int}(tH:uV H)(h1:v h∈four)(h2:v' h∈four)(hh:h∈four):(H h (v' h)<=H h (v h)->qU H v v' h=v h)/\(H h (v h)<=H h (v' h)->qU H v v' h=v' h):=by
 unfold qU;constructor
 ·intro e;split
  ·rename_i e2;exact tH h hh _ h2 _ h1 (Nat.le_antisymm e e2)
  ·rfl
 ·intro e;rw[if_pos e]
theorem meet (tG:uV G)(tH:uV H)(a:Way w v)(b:Way w' v')(sa:St G H w v)(sb:St G H w' v'):Way (best G w w') (qU H v v')/\St G H (best G w w') (qU H v v'):=by
 have hw:∀g∈four,best G w w' g∈four:=λg hg=>by
  unfold best;split
  ·exact(a.wf g hg).1
  ·exact(b.wf g hg).1
 refine⟨Way.of hw λg hg=>?_,λg hg h hh=>?_⟩
 ·have h1:=(a.wf g hg).2;have h2:=(b.wf g hg).2;unfold best;split
  ·rename_i e;have hh:=(a.wf g hg).1;have hv:=(b.vf _ hh);rcases lt_or_ge (G g (w g)) (G g (w' g)) with q|q
   ·have:=(sb g hg _ hh).resolve_left (Nat.not_le_of_lt q);exact((qcb (k:=0) tH (a.vf _ hh).1 hv.1 hh).1 (by rw[h1];exact this)).trans h1
   ·have e3:=tG g hg _ hh _ (b.wf g hg).1 (Nat.le_antisymm e q);have e4:v' (w g)=g:=by rw[e3];exact h2
    unfold qU;split
    ·exact e4
    ·exact h1
  ·rename_i e;have hh:=(b.wf g hg).1;have:=(sa g hg _ hh).resolve_left e;exact((qcb (k:=0) tH (a.vf _ hh).1 (b.vf _ hh).1 hh).2 (by rw[h2];exact this)).trans h2
 ·rw[H9 (G:=G),RC (G:=H)];rcases sa g hg h hh with q|q
  ·exact .inl (le_trans (Nat.min_le_left _ _) q)
  ·rcases sb g hg h hh with q2|q2
   ·exact .inl (le_trans (Nat.min_le_right _ _) q2)
   ·exact .inr (Nat.max_le.mpr ⟨q,q2⟩)
end
section
variable {G H:Int->Int->Nat}{c:Int->Nat->Int}
noncomputable def Ok (G H:Int->Int->Nat)(c:Int->Nat->Int)(r:Int->Nat):Prop:=(∀g∈four,r g<4)/\∀g∈four,∀h∈four,G g h<r g->∃k∈four,c k (r k)=h/\H h k<H h g
noncomputable def wO (r:Int->Nat):Nat:=r 0+r 1+r 2+r 3
theorem there (tH:uV H)(hc:∀g∈four,∀k,k<4->c g k∈four/\G g (c g k)=k)(hG:∀g∈four,∀h∈four,G g h<4/\c g (G g h)=h):∀(n:Nat) (r:Int->Nat),Ok G H c r->16<n+wO r->∃w v,Way w v/\St G H w v
 | 0=>λr h hn=>by
  have h0:=h.1 0 (by decide);have h1:=h.1 1 (by decide);have h2:=h.1 2 (by decide);have h3:=h.1 3 (by decide);unfold wO at hn;exact absurd (Nat.lt_trans hn (by rw[zero_add];exact lt_of_lt_of_le (Nat.add_lt_add (Nat.add_lt_add (Nat.add_lt_add h0 h1) h2) h3) (by decide))) (lt_irrefl _)
 | n+1=>λr h hn=>by
  have hcf:∀g∈four,c g (r g)∈four:=λg hg=>(hc g hg _ (h.1 g hg)).1;by_cases inj:∀x∈four,∀y∈four,c x (r x)=c y (r y)->x=y
  ·have hs:∀h∈four,∃g∈four,c g (r g)=h:=λh hh=>O1 hcf inj hh;let v:Int->Int:=λh=>(four.find? λg=>c g (r g)==h).getD 0;have hv:∀h∈four,v h∈four/\c (v h) (r (v h))=h:=λh hh=>by
    refine aF (hs h hh) λg hg e=>?_;show (four.find? _).getD 0∈four/\c ((four.find? _).getD 0) (r ((four.find? _).getD 0))=h;cases q:four.find? λg=>c g (r g)==h with
    | none=>exact absurd (beq_iff_eq.mpr e) (List.find?_eq_none.mp q g hg)
    | some x=>exact⟨List.mem_of_find?_eq_some q,eq_of_beq (List.find?_some (p:=λg=>c g (r g)==h) q)⟩
   refine⟨λg=>c g (r g),v,⟨λg hg=>⟨hcf g hg,inj _ (hv _ (hcf g hg)).1 _ hg (hv _ (hcf g hg)).2⟩,hv⟩,λg hg k hk=>?_⟩;show G g (c g (r g))<=_\/_;rw[(hc g hg _ (h.1 g hg)).2];rcases lt_or_ge (G g k) (r g) with q|q
   ·refine bM (h.2 g hg k hk q) λx hx e l=>?_;have:v k=x:=inj _ (hv k hk).1 _ hx ((hv k hk).2.trans e.symm);rw[this];exact .inr (Nat.le_of_lt l)
   ·exact .inl q
  ·have:∃x∈four,∃y∈four,c x (r x)=c y (r y)/\H (c x (r x)) x<H (c x (r x)) y:=by
    refine Classical.byContradiction λq=>inj λx hx y hy e=>?_;rcases Nat.lt_trichotomy (H (c x (r x)) x) (H (c x (r x)) y) with l|l|l
    ·exact absurd ⟨x,hx,y,hy,e,l⟩ q
    ·exact tH _ (hcf x hx) _ hx _ hy l
    ·exact absurd ⟨y,hy,x,hx,e.symm,by rw[<-e];exact l⟩ q
   obtain⟨x,hx,y,hy,e,l⟩:=this;have hxy:x≠y:=λq=>by subst q;exact lt_irrefl _ l
   have hr:r y+1<4:=by
    refine Classical.byContradiction λq=>?_;have h3:r y=3:=by have:=h.1 y hy;exact bG (aA (aK 0x0f38a148f0a1 rfl this)) (aA (aK 0x38f0a1f0a481 rfl (aA q)))
    have hold:∀k∈four,∃g,g∈four/\g≠y/\c g (r g)=k:=λk hk=>by
     rcases lt_or_ge (G y k) (r y) with p|p
     ·refine bM (h.2 y hy k hk p) λg hg e1 l1=>?_;exact⟨g,hg,λe=>by subst e;exact lt_irrefl _ l1,e1⟩
     ·have e5:G y k=r y:=by have:=(hG y hy k hk).1;exact bG (aA (aB 0x1f0a1f0a48148f1a1 rfl this (aA q))) (aA (aB 0x1f0a1011 rfl p))
      have:c y (r y)=k:=by rw[<-e5];exact(hG y hy k hk).2
      exact⟨x,hx,hxy,e.trans this⟩
    let f:Int->Int:=λk=>if p:∃g,g∈four/\g≠y/\c g (r g)=k then Classical.choose p else 0
    have hf:∀k∈four,f k∈four/\f k≠y/\c (f k) (r (f k))=k:=λk hk=>by
     show (dite _ _ _:Int)∈four/\_;rw[show f k=Classical.choose (hold k hk) from dif_pos (hold k hk),dif_pos (hold k hk)];exact Classical.choose_spec (hold k hk)
    refine aF (O1 (λk hk=>(hf k hk).1) (λa ha b hb q=>by rw[<-(hf a ha).2.2,<-(hf b hb).2.2,q]) hy) λk hk ek=>?_;exact(hf k hk).2.1 ek
   have hne:∀g,g≠y->(if g=y then r g+1 else r g)=r g:=λg q=>if_neg q;refine there tH hc hG n (λg=>if g=y then r g+1 else r g) ⟨λg hg=>?_,λg hg k hk q=>?_⟩ ?_
   ·dsimp only;split
    ·rename_i q;rw[q];exact hr
    ·exact h.1 g hg
   ·have key:∃z∈four,c z (r z)=k/\(H k z<H k g):=by
     dsimp only at q;split at q
     ·rename_i e1;subst e1;rcases lt_or_ge (G g k) (r g) with p|p
      ·exact h.2 g hy k hk p
      ·have e5:G g k=r g:=bG (aA (aB 0x1f0a1f0af1a1 rfl q)) (aA (aB 0x1f0a1011 rfl p));have e6:c g (r g)=k:=by rw[<-e5];exact(hG g hy k hk).2
       exact⟨x,hx,e.trans e6,by rw[<-e6,<-e];exact l⟩
     ·exact h.2 g hg k hk q
    refine bM (key) λz hz e1 l1=>?_;by_cases hzy:z=y
    ·subst hzy;refine⟨x,hx,?_,?_⟩
     ·dsimp only;rw[hne x hxy,e];exact e1
     ·rw[e,e1]at l;exact Nat.lt_trans l l1
    ·refine⟨z,hz,?_,l1⟩;dsimp only;rw[hne z hzy];exact e1
   ·have:wO (λg=>if g=y then r g+1 else r g)=wO r+1:=by
     unfold wO;rcases mem_cons.mp hy with rfl|hy
     ·simp;exact bG (aA (aL 0x321f0aaaaff3210aaaaa1 rfl)) (aA (aL 0xf3210aaaaf321f0aaaaa1 rfl))
     rcases mem_cons.mp hy with rfl|hy
     ·simp;exact bG (aA (aL 0x32f1a0aaaff3210aaaaa1 rfl)) (aA (aL 0xf3210aaaaf32f1a0aaaa1 rfl))
     rcases mem_cons.mp hy with rfl|hy
     ·simp;exact bG (aA (aL 0x3f2a10aaaff3210aaaaa1 rfl)) (aA (aL 0xf3210aaaaf3f2a10aaaa1 rfl))
     rcases mem_singleton.mp hy with rfl
     ·simp;exact bG (aA (aL 0xf3a210aaaff3210aaaaa1 rfl)) (aA (aL 0xf3210aaaaff3a210aaaa1 rfl))
    exact ltN (aC 0x010910a12f0aaf0109a11f2a1 rfl (aW this) hn)
end
theorem BP {a b:Int}(h:a<=b)(n:a≠b):a<b:=Int.lt_iff_le_and_ne.mpr ⟨h,n⟩
noncomputable def ix (p:List Int)(g:Int):Int:=p.getD g.toNat 0
noncomputable def iW (p q:List Int):Prop:=∀g∈four,ix p g<=ix q g
structure sY (L:List (List Int)):Prop where
 ext:∀p∈L,∀q∈L,(∀g∈four,ix p g=ix q g)->p=q
 mn:∀p∈L,∀q∈L,∃m∈L,∀g∈four,ix m g<=ix p g/\ix m g<=ix q g/\(ix m g=ix p g\/ix m g=ix q g)
 mx:∀p∈L,∀q∈L,∃m∈L,∀g∈four,ix p g<=ix m g/\ix q g<=ix m g/\(ix m g=ix p g\/ix m g=ix q g)
 ne:∃p,p∈L
structure gV (L:List (List Int)) (p q:List Int):Prop where
 pl:p∈L
 ql:q∈L
 ne:p≠q
 le:iW p q
 btw:∀r∈L,iW p r->iW r q->r=p\/r=q
noncomputable abbrev dK:=List (Int×Int)
noncomputable def cG (p q:List Int):dK:=(four.filter λg=>ix p g != ix q g).map λg=>(g,ix p g)
noncomputable def cI (c:dK)(s:List Int):Bool:=decide (ix s (c.headD (0,0)).1>(c.headD (0,0)).2)
section
variable {L:List (List Int)}(hL:sY L)
include hL
theorem qfM {p q:List Int}(hp:p∈L)(hq:q∈L)(h1:iW p q)(h2:iW q p):p=q:=hL.ext p hp q hq λg hg=>le_antisymm (h1 g hg) (h2 g hg)
theorem differ {p q:List Int}(h:gV L p q):∃g∈four,ix p g<ix q g:=by
 refine Classical.byContradiction λn=>h.ne (hL.ext p h.pl q h.ql λg hg=>le_antisymm (h.le g hg) (not_lt.mp λl=>n ⟨g,hg,l⟩))
theorem first {p q:List Int}(h:gV L p q):∃g∈four,ix p g<ix q g/\(cG p q).headD (0,0)=(g,ix p g):=by
 refine aF (differ hL h) λg hg l=>?_;have hm:g∈four.filter λg=>ix p g != ix q g:=mem_filter.mpr ⟨hg,bne_iff_ne.mpr (Int.ne_of_lt l)⟩;unfold cG;cases e:four.filter λg=>ix p g != ix q g with
 | nil=>rw[e]at hm;cases hm
 | cons a r =>
  have ha:a∈four.filter λg=>ix p g != ix q g:=by rw[e];exact mem_cons_self
  refine bI (mem_filter.mp ha) λh1 h2=>?_;exact⟨a,h1,BP (h.le a h1) (bne_iff_ne.mp h2),rfl⟩
noncomputable def wY (p:List Int):Int:=ix p 0+ix p 1+ix p 2+ix p 3
omit hL in
theorem qey {P:Int->Prop}(h:∀g∈four,P g):P 0/\P 1/\P 2/\P 3:=⟨h 0 (by decide),h 1 (by decide),h 2 (by decide),h 3 (by decide)⟩
theorem qac {p q:List Int}(hp:p∈L)(hq:q∈L)(h:iW p q)(hne:p≠q):wY p<wY q:=by
 have hn:¬(ix p 0=ix q 0/\ix p 1=ix q 1/\ix p 2=ix q 2/\ix p 3=ix q 3):=λ⟨a,b,c,d⟩=>hne (hL.ext p hp q hq λg hg=>by
  rcases mem_cons.mp hg with rfl|hg
  ·exact a
  rcases mem_cons.mp hg with rfl|hg
  ·exact b
  rcases mem_cons.mp hg with rfl|hg
  ·exact c
  rcases mem_singleton.mp hg with rfl;exact d)
 refine xZ (qey h) λa b c d=>?_;unfold wY;exact ltI λU=>(nEI (nB (nA hn (jC (bV (cN 0x1f0a1011 rfl a)) (bV (zY 0x1f0a12513614717650aaa4321aaa1 rfl U d c b)))) ⟨(jC (bV (cN 0x1f0a1011 rfl c)) (bV (zY 0x1f0a12513614717065aaa4132aaa1 rfl U d b a))),(jC (bV (cN 0x1f0a1011 rfl d)) (bV (zY 0x1f0a12513614710765aaa1432aaa1 rfl U c b a)))⟩) ((zY 0x1f0a12513614717605aaa4312aaa1 rfl U d c a)) (cN 0x1f0a1011 rfl b))
theorem cover {q:List Int}(hq:q∈L):∀(n:Nat) (m:List Int),m∈L->iW m q->m≠q->(wY q-wY m).toNat<=n->∃p,gV L p q/\iW m p
 | 0=>λm hm h hne hn=>absurd (Int.pos_iff_toNat_pos.mp (Int.sub_pos_of_lt (qac hL hm hq h hne))) (Nat.not_lt.mpr hn)
 | n+1=>λm hm h hne hn=>by
  by_cases c:∃r∈L,iW m r/\iW r q/\r≠m/\r≠q
  ·refine yC (c) λr hr h1 h2 h3 h4=>?_;have l1:=qac hL hm hr h1 h3.symm;refine aF (cover hq n r hr h2 h4 (Int.toNat_le.mpr (Int.le_trans (Int.sub_le_sub_left l1 _) (by rw[<-Int.sub_sub];exact Int.le_trans (Int.sub_le_sub_right (Int.toNat_le.mp hn) 1) (Int.le_of_eq (Int.add_sub_cancel (n:Int) 1)))))) λp hp l=>?_;exact⟨p,hp,λg hg=>Int.le_trans (h1 g hg) (l g hg)⟩
  ·exact⟨m,⟨hm,hq,hne,h,λr hr h1 h2=>Classical.byContradiction λn=>c ⟨r,hr,h1,h2,λe=>n (.inl e),λe=>n (.inr e)⟩⟩,λg hg=>Int.le_refl _⟩
theorem pU {p q:List Int}(h:gV L p q):∃g∈four,ix p g<ix q g/\∀s,cI (cG p q) s=true↔ix p g<ix s g:=by
 refine bM (first hL h) λg hg l e=>?_;refine⟨g,hg,l,λs=>?_⟩;unfold cI;rw[e];exact decide_eq_true_iff
theorem sep {s s':List Int}(hs:s∈L)(hs':s'∈L)(h:∀p q,gV L p q->cI (cG p q) s=cI (cG p q) s'):iW s s':=by
 refine Classical.byContradiction λn=>?_;refine aF (hL.mn s hs s' hs') λm hm em=>?_;have hle:iW m s:=λg hg=>(em g hg).1;have hne:m≠s:=λe=>n λg hg=>by have:=em g hg;rw[e]at this;exact bV (cN 0x1f0a1011 rfl this.2.1)
 refine aF (cover hL hs _ m hm hle hne (le_refl _)) λp hc hmp=>?_;refine bM (pU hL hc) λg hg l iff=>?_;have h1:=(iff s).mpr l;rw[h p s hc,iff]at h1;have h2:=hmp g hg;have:=em g hg;exact Or.elim this.2.2 (λU=>(mX 0x0f2a1211101 rfl (mV U) h2 l)) λU=>(mX 0x0f2a1211101 rfl (mV U) h2 h1)
theorem same {p q p' q':List Int}(a:gV L p q)(b:gV L p' q')(h:∀s∈L,cI (cG p q) s=cI (cG p' q') s):∀x∈four,ix p x<ix q x->ix p' x<ix q' x/\ix p' x<=ix p x:=by
 refine bM (pU hL a) λg hg l iff=>?_;refine bM (pU hL b) λg' hg' l' pY=>?_;have e1:ix p g<ix q' g:=(iff q').mp (by rw[h q' b.ql];exact(pY q').mpr l');have e2:ix p' g<=ix p g:=not_lt.mp λn=>by
  have:=(iff p').mpr n;rw[h p' b.pl,pY]at this;exact Int.lt_irrefl _ this
 refine aF (hL.mx p a.pl q' b.ql) λm1 hm1 f1=>?_;refine aF (hL.mn q a.ql m1 hm1) λm2 hm2 f2=>?_;have k1:m2=q:=by
  refine(a.btw m2 hm2 (λx hx=>?_) λx hx=>?_).resolve_left λe=>?_
  ·exact(f2 x hx).2.2.elim (λz=>z▸a.le x hx) λz=>z▸(f1 x hx).1
  ·have:=f2 x hx;exact bV (cN 0x1f0a1011 rfl this.1)
  ·have k:=(f2 g hg).2.2;rw[e]at k;exact k.elim (λz=>Int.lt_irrefl _ (z▸l)) λz=>Int.lt_irrefl _ (Int.lt_of_lt_of_le e1 (z▸(f1 g hg).2.1))
 refine aF (hL.mn q a.ql p' b.pl) λm3 JQ f3=>?_;refine aF (hL.mx p a.pl m3 JQ) λm4 hm4 f4=>?_;have k2:m4=p:=by
  refine(a.btw m4 hm4 (λx hx=>?_) λx hx=>?_).resolve_right λe=>?_
  ·have:=f4 x hx;exact bV (cN 0x1f0a1011 rfl this.1)
  ·exact(f4 x hx).2.2.elim (λz=>z▸a.le x hx) λz=>z▸(f3 x hx).1
  ·have k:=(f4 g hg).2.2;rw[e]at k;exact k.elim (λz=>Int.lt_irrefl _ (z▸l)) λz=>Int.lt_irrefl _ (Int.lt_of_lt_of_le l (z▸Int.le_trans (f3 g hg).2.1 e2))
 intro x hx hlt;have q1:ix q x<=ix m1 x:=k1▸(f2 x hx).2.1;have q2:ix m3 x<=ix p x:=k2▸(f4 x hx).2.1;have q3:ix p' x<=ix p x:=(f3 x hx).2.2.elim (λz=>absurd (Int.lt_of_lt_of_le hlt (z▸q2)) (Int.lt_irrefl _)) λz=>z▸q2;have q4:ix q x<=ix q' x:=(f1 x hx).2.2.elim (λz=>absurd (Int.lt_of_lt_of_le hlt (z▸q1)) (Int.lt_irrefl _)) λz=>z▸q1;exact⟨Int.lt_of_le_of_lt q3 (Int.lt_of_lt_of_le hlt q4),q3⟩
theorem qbk {p q p' q':List Int}(a:gV L p q)(b:gV L p' q')(h:∀s∈L,cI (cG p q) s=cI (cG p' q') s):cG p q=cG p' q':=by
 have h1:=same hL a b h;have h2:=same hL b a λs hs=>(h s hs).symm;have e:(four.filter λg=>ix p g != ix q g)=four.filter λg=>ix p' g != ix q' g:=filter_congr λx hx=>by
  rw[Bool.eq_iff_iff,bne_iff_ne,bne_iff_ne];exact⟨λn=>Int.ne_of_lt (h1 x hx (BP (a.le x hx) n)).1,λn=>Int.ne_of_lt (h2 x hx (BP (b.le x hx) n)).1⟩
 unfold cG;rw[e];refine map_congr_left λx hx=>?_;refine bI (mem_filter.mp hx) λhx hne=>?_;have k1:=h2 x hx (BP (b.le x hx) (bne_iff_ne.mp hne));have:ix p x=ix p' x:=le_antisymm k1.2 (h1 x hx k1.1).2;rw[this]
theorem least {P:List Int->Prop}(hP:∀p∈L,∀q∈L,∀m∈L,(∀g∈four,ix m g<=ix p g/\ix m g<=ix q g/\(ix m g=ix p g\/ix m g=ix q g))->P p->P q->P m):∀(l:List (List Int)),(∀s∈l,s∈L)->∀(u:List Int),u∈L->P u->∃u'∈L,P u'/\iW u' u/\∀s∈l,P s->iW u' s
 | []=>λ_ u hu pu=>⟨u,hu,pu,λg hg=>Int.le_refl _,λs hs=>absurd hs not_mem_nil⟩
 | t::l=>λhl u hu pu=>by
  by_cases pt:P t
  ·refine aF (hL.mn u hu t (hl t mem_cons_self)) λm hm em=>?_;refine cL (least hP l (λs hs=>hl s (mem_cons_of_mem _ hs)) m hm (hP u hu t (hl t mem_cons_self) m hm em pu pt)) λu' h1 h2 h3 h4=>?_;refine⟨u',h1,h2,λg hg=>?_,λs hs ps=>?_⟩
   ·exact Int.le_trans (h3 g hg) (em g hg).1
   ·rcases mem_cons.mp hs with rfl|hs
    ·exact λg hg=>Int.le_trans (h3 g hg) (em g hg).2.1
    ·exact h4 s hs ps
  ·refine cL (least hP l (λs hs=>hl s (mem_cons_of_mem _ hs)) u hu pu) λu' h1 h2 h3 h4=>?_;refine⟨u',h1,h2,h3,λs hs ps=>?_⟩;rcases mem_cons.mp hs with rfl|hs
   ·exact absurd ps pt
   ·exact h4 s hs ps
theorem build {rings:List dK}(hr:∀c∈rings,∃p q,gV L p q/\c=cG p q):∀(C:List dK),(∀c∈C,c∈rings)->∃s∈L,(∀c∈C,cI c s=true)/\∀j∈rings,cI j s=true->∃c∈C,∀t∈L,cI c t=true->cI j t=true
 | []=>λ_=>by
  refine dH (hL.ne) λu0 hu0=>?_;refine cL (least hL (P:=λ_=>True) (λ_ _ _ _ _ _ _ _ _=>trivial) L (λ_ h=>h) u0 hu0 trivial) λu hu _ _ h4=>?_;refine⟨u,hu,λc hc=>absurd hc not_mem_nil,λj hj hg=>?_⟩;obtain⟨p,q,hc,rfl⟩:=hr j hj;refine bM (pU hL hc) λg hg' l iff=>?_;exact absurd (Int.lt_of_lt_of_le ((iff u).mp hg) (h4 p hc.pl trivial g hg')) (Int.lt_irrefl _)
 | c::C=>λhC=>by
  refine bM (build hr C λc hc=>hC c (mem_cons_of_mem _ hc)) λs hs h1 h2=>?_;refine fM (hr c (hC c mem_cons_self)) λp q hc ec=>?_;refine bM (pU hL hc) λg hg l iff=>?_;rw[<-ec]at iff;refine cL (least hL (P:=λs=>cI c s=true) (λa _ b _ m _ em ha hb=>by
   rw[iff]at ha hb ⊢;have:=em g hg;exact ltI λU=>(Or.elim this.2.2 (λnH=>(mX 0x0f2a1211101 rfl (mV nH) U ha)) λnH=>(mX 0x0f2a1211101 rfl (mV nH) U hb))) L (λ_ h=>h) q hc.ql ((iff q).mpr l)) λu hu pu _ hmin=>?_
  refine aF (hL.mx s hs u hu) λm hm em=>?_;refine⟨m,hm,λd hd=>?_,λj hj hg=>?_⟩
  ·have up:∀d∈rings,∀t,iW t m->cI d t=true->cI d m=true:=λd hd t ht e=>by
    obtain⟨p',q',hc',rfl⟩:=hr d hd;refine bM (pU hL hc') λg' hg' l' pY=>?_;rw[pY]at e ⊢;have:=ht g' hg';exact ltI (mX 0x1012f1a1021 rfl this e)
   rcases mem_cons.mp hd with rfl|hd
   ·exact up d (hC d mem_cons_self) u (λg hg=>by have:=em g hg;exact bV (cN 0x1f0a1011 rfl this.2.1)) pu
   ·exact up d (hC d (mem_cons_of_mem _ hd)) s (λg hg=>by have:=em g hg;exact bV (cN 0x1f0a1011 rfl this.1)) (h1 d hd)
  ·obtain⟨p',q',hc',rfl⟩:=hr j hj;refine bM (pU hL hc') λg' hg' l' pY=>?_;have hg2:=(pY m).mp hg;by_cases q:ix p' g'<ix s g'
   ·refine aF (h2 _ hj ((pY s).mpr q)) λd hd k=>?_;exact⟨d,mem_cons_of_mem _ hd,k⟩
   ·refine⟨c,mem_cons_self,λt ht e=>(pY t).mpr ?_⟩;exact(em g' hg').2.2.elim (λz=>absurd (z▸hg2) q) λz=>Int.lt_of_lt_of_le (z▸hg2) (hmin t ht e g' hg')
end
noncomputable def fX (p:List Int)(g:Nat):Int:=p.getD g 0
noncomputable def uJ (p q:List Int):List Int:=zipWith min p q
noncomputable def qT (p q:List Int):List Int:=zipWith max p q
noncomputable def p7 (x:List Int):List (List Int)->List (List Int)
 | []=>[x]
 | y::r=>uJ x y::p7 (qT x y) r
noncomputable def qQ:List (List Int)->List (List Int)
 | []=>[]
 | x::r=>p7 x (qQ r)
theorem H6 {f:Int->Int->Int}{p q:List Int}{n g:Nat}(hp:p.length=n)(hq:q.length=n)(hg:g<n):fX (zipWith f p q) g=f (fX p g) (fX q g):=by
 unfold fX;rw[getD_eq_getElem?_getD,getD_eq_getElem?_getD,getD_eq_getElem?_getD,List.getElem?_zipWith,getElem?_eq_getElem (by rw[hp];exact hg),getElem?_eq_getElem (by rw[hq];exact hg)];rfl
theorem qfs {x:Int}:∀{l:List Int},(∀y∈l,x<=y)->o6 x l=x::l
 | []=>λ_=>rfl
 | y::l=>λh=>if_pos (h y mem_cons_self)
section
variable {n:Nat}
theorem ZG:∀{l:List (List Int)} {x:List Int},x.length=n->(∀y∈l,y.length=n)->(∀y∈p7 x l,y.length=n)/\(p7 x l).length=l.length+1
 | [],x,hx,_=>⟨λy hy=>by rw[mem_singleton.mp hy];exact hx,rfl⟩
 | y::l,x,hx,h=>by
  have hy:=h y mem_cons_self;have e:∀f:Int->Int->Int,(zipWith f x y).length=n:=λf=>by rw[List.length_zipWith,hx,hy,Nat.min_self]
  refine bI (ZG (l:=l) (x:=qT x y) (e _) λz hz=>h z (mem_cons_of_mem _ hz)) λh1 h2=>?_;refine⟨λz hz=>?_,congrArg Nat.succ h2⟩;rcases mem_cons.mp hz with rfl|hz
  ·exact e _
  ·exact h1 z hz
theorem ZD {g:Nat}(hg:g<n):∀{l:List (List Int)} {x:List Int},x.length=n->(∀y∈l,y.length=n)->(l.map λy=>fX y g).Pairwise (·<=·)->(p7 x l).map (λy=>fX y g)=o6 (fX x g) (l.map λy=>fX y g)
 | [],x,hx,_,_=>rfl
 | y::l,x,hx,h,hs=>by
  have hy:=h y mem_cons_self;refine bI (pairwise_cons.mp hs) λs1 s2=>?_;have e:∀f:Int->Int->Int,(zipWith f x y).length=n:=λf=>by rw[List.length_zipWith,hx,hy,Nat.min_self]
  have ih:=ZD hg (l:=l) (x:=qT x y) (e _) (λz hz=>h z (mem_cons_of_mem _ hz)) s2;show fX (uJ x y) g::(p7 (qT x y) l).map _=if fX x g<=fX y g then _ else _
  rw[ih];unfold uJ qT;rw[H6 hx hy hg,H6 hx hy hg];by_cases c:fX x g<=fX y g
  ·rw[if_pos c,Int.min_eq_left c,max_eq_right c,qfs s1]
  ·have c2:=le_of_lt (not_le.mp c);rw[if_neg c,Int.min_eq_right c2,max_eq_left c2]
theorem qbH:∀{l:List (List Int)},(∀y∈l,y.length=n)->(∀y∈qQ l,y.length=n)/\(qQ l).length=l.length/\∀g,g<n->(qQ l).map (λy=>fX y g)=sortI (l.map λy=>fX y g)
 | []=>λ_=>⟨λy hy=>absurd hy not_mem_nil,rfl,λ_ _=>rfl⟩
 | x::l=>λh=>by
  refine cQ (qbH (l:=l) λy hy=>h y (mem_cons_of_mem _ hy)) λh1 h2 h3=>?_;have hx:=h x mem_cons_self;refine bI (ZG hx h1) λk1 k2=>?_;refine⟨k1,k2.trans (congrArg Nat.succ h2),λg hg=>?_⟩;show (p7 x (qQ l)).map _=_;rw[ZD hg hx h1 (by rw[h3 g hg];exact sV _),h3 g hg];rfl
variable {L:List (List Int)}(h1:∀p∈L,∀q∈L,uJ p q∈L)(h2:∀p∈L,∀q∈L,qT p q∈L)
include h1 h2
theorem ZF:∀{l:List (List Int)} {x:List Int},x∈L->(∀y∈l,y∈L)->∀y∈p7 x l,y∈L
 | [],x,hx,_,y,hy=>by rw[mem_singleton.mp hy];exact hx
 | z::l,x,hx,h,y,hy=>by
  have hz:=h z mem_cons_self;rcases mem_cons.mp hy with rfl|hy
  ·exact h1 _ hx _ hz
  ·exact ZF (h2 _ hx _ hz) (λy hy=>h y (mem_cons_of_mem _ hy)) y hy
theorem qbI:∀{l:List (List Int)},(∀y∈l,y∈L)->∀y∈qQ l,y∈L
 | []=>λ_ y hy=>absurd hy not_mem_nil
 | x::l=>λh y hy=>ZF h1 h2 (h x mem_cons_self) (qbI λy hy=>h y (mem_cons_of_mem _ hy)) y hy
theorem qgm (hn:∀p∈L,p.length=n){hands:List (List Int)}(hh:∀y∈hands,y∈L){i:Nat}(hi:i<hands.length):∃m∈L,∀g,g<n->fX m g=(sortI (hands.map λy=>fX y g)).getD i 0:=by
 refine cQ (qbH (n:=n) (l:=hands) λy hy=>hn y (hh y hy)) λk1 k2 k3=>?_;have hl:i<(qQ hands).length:=by rw[k2];exact hi
 refine⟨(qQ hands)[i],qbI h1 h2 hh _ (getElem_mem hl),λg hg=>?_⟩;rw[<-k3 g hg,getD_eq_getElem?_getD,getElem?_map,getElem?_eq_getElem hl];rfl
end
theorem qjP {f:Int->Int}(hf:∀a b,a<=b->f a<=f b)(l:List Int):sortI (l.map f)=(sortI l).map f :=
 qbJ ((sortI_perm l).symm.map f) (pairwise_map.mpr ((sV l).imp λh=>hf _ _ h))
theorem qjQ (l:List Int):sortI (l.map λx=>-x)=((sortI l).map λx=>-x).reverse :=
 qbJ (((sortI_perm l).symm.map _).trans (List.reverse_perm _).symm) (List.pairwise_reverse.mpr (pairwise_map.mpr ((sV l).imp λh=>neg_le_neg h)))
theorem qgw {l:List Int}{i:Nat}(hi:i<l.length):(sortI (l.map λx=>-x)).getD i 0=-(sortI l).getD (l.length-1-i) 0:=by
 have hl:=uI l;have h2:l.length-1-i<(sortI l).length:=ltN (aL 0x1012f3a1311021 rfl (aW hl) (eV _ _) (aM (aA (aB 0xff0a10f1a1 rfl hi))));rw[qjQ,getD_eq_getElem?_getD,List.getElem?_reverse (by rw[length_map];exact ltN (aC 0x1012f1a1021 rfl (aW hl) hi)),length_map,getElem?_map,hl,getD_eq_getElem?_getD,getElem?_eq_getElem h2];rfl
theorem qgr {f:Int->Int}(hf:∀a b,a<=b->f a<=f b){l:List Int}{i:Nat}(hi:i<l.length):(sortI (l.map f)).getD i 0=f ((sortI l).getD i 0):=by
 have h2:i<(sortI l).length:=by rw[uI];exact hi
 rw[qjP hf,getD_eq_getElem?_getD,getElem?_map,getD_eq_getElem?_getD,getElem?_eq_getElem h2];rfl
noncomputable def every (n:Nat):List Int:=(List.range n).map λ(i:Nat)=>(i:Int)
theorem vO {n:Nat}:(every n).Nodup:=pairwise_map.mpr (Pairwise.imp (λh e=>h (ofNat.inj e)) List.nodup_range)
theorem qI {n:Nat}{k:Int}:k∈every n↔∃i,i<n/\k=(i:Int):=by
 unfold every;rw[mem_map];exact⟨λ⟨i,h,e⟩=>⟨i,mem_range.mp h,e.symm⟩,λ⟨i,h,e⟩=>⟨i,mem_range.mpr h,e.symm⟩⟩
noncomputable def gK (S:List (List Int))(l:List Int):List (List Int):=l.foldl (λS k=>S++S.map (·++[k])) S
theorem DW (l:List Int)(k:Int):gK [[]] (l++[k])=gK [[]] l++(gK [[]] l).map (·++[k]):=by
 unfold gK;rw[List.foldl_append];rfl
theorem DX:∀{l:List Int} {x:List Int},x∈gK [[]] l↔x.Sublist l:=by
 intro l;rw[<-List.reverse_reverse l];generalize l.reverse=m
 induction m with
 | nil=>intro x;rw[List.reverse_nil,List.sublist_nil];exact mem_singleton
 | cons k m ih =>
  intro x;rw[reverse_cons,DW,mem_append,ih,mem_map,List.sublist_append_iff];constructor
  ·rintro(h|⟨y,hy,e⟩)
   ·exact⟨x,[],(append_nil x).symm,h,List.nil_sublist _⟩
   ·exact⟨y,[k],e.symm,ih.mp hy,List.Sublist.refl _⟩
  ·rintro⟨a,b,e,ha,hb⟩;rcases(show b=[]\/b=[k] from by
    cases hb with
    | cons _ h=>exact .inl (List.sublist_nil.mp h)
    | cons_cons _ h=>exact .inr (congrArg _ (List.sublist_nil.mp h))) with rfl|rfl
   ·left;rw[e,append_nil];exact ha
   ·right;exact⟨a,ih.mpr ha,e.symm⟩
theorem qiE {l:List Int}:l.Nodup->(gK [[]] l).Nodup:=by
 rw[<-List.reverse_reverse l];generalize l.reverse=m
 induction m with
 | nil=>intro _;exact nodup_cons.mpr ⟨not_mem_nil,nodup_nil⟩
 | cons k m ih =>
  intro h;rw[reverse_cons]at h ⊢;rw[DW];refine cQ (nodup_append.mp h) λh1 h2 h3=>?_;refine nodup_append.mpr ⟨ih h1,pairwise_map.mpr ((ih h1).imp λhab e=>hab (List.append_cancel_right e)),λa ha b hb e=>?_⟩;subst e;refine aF (mem_map.mp hb) λy hy e=>?_;exact h3 k ((DX.mp ha).subset (by rw[<-e];exact mem_append_right _ mem_cons_self)) k mem_cons_self rfl
theorem qjZ {x l:List Int}(h:x.Sublist l):l.Nodup->l.filter (λk=>x.contains k)=x:=by
 induction h with
 | slnil=>intro _;rfl
 | @cons x l a h ih =>
  intro hn;refine bI (nodup_cons.mp hn) λh1 h2=>?_;rw[filter_cons,if_neg (by rw[contains_iff_mem];exact λq=>h1 (h.subset q))];exact ih h2
 | @cons_cons x l a h ih =>
  intro hn;refine bI (nodup_cons.mp hn) λh1 h2=>?_;rw[filter_cons,if_pos (contains_iff_mem.mpr mem_cons_self)];refine congrArg (a::·) ((filter_congr λk hk=>?_).trans (ih h2));rw[Bool.eq_iff_iff,contains_iff_mem,contains_iff_mem,mem_cons];exact⟨λq=>q.resolve_left λe=>h1 (e▸hk),.inr⟩
theorem UW {α:Type}{p q:α->Bool}{s:α}(g1:q s=true)(g2:¬p s=true):∀{l:List α},(∀x∈l,p x=true->q x=true)->s∈l->l.countP p<l.countP q
 | []=>λ_ hs=>absurd hs not_mem_nil
 | a::l=>λh hs=>by
  have h':∀x∈l,p x=true->q x=true:=λx hx=>h x (mem_cons_of_mem _ hx);have hm:l.countP p<=l.countP q:=List.countP_mono_left h';rw[countP_cons,countP_cons];rcases mem_cons.mp hs with rfl|hs
  ·rw[if_pos g1,if_neg g2];exact Nat.lt_succ_of_le hm
  ·have:=UW g1 g2 h' hs;have h4:=h a mem_cons_self;by_cases c:p a=true
   ·rw[if_pos c,if_pos (h4 c)];exact Nat.succ_lt_succ this
   ·rw[if_neg c];exact lt_of_lt_of_le this (Nat.le_add_right _ _)
noncomputable def rg (rings:List dK)(k:Int):dK:=rings.getD k.toNat []
noncomputable def cT (rings:List dK)(s:List Int):List Int:=(every rings.length).filter λk=>cI (rg rings k) s
noncomputable def iJ (ev:List Int)(gone:List (List Int))(k:Int):List Int:=ev.filter λj=>decide (j≠k)&&(gone.filter λone=>one.contains k&&!one.contains j).isEmpty
noncomputable def GD (ev:List Int)(gone:List (List Int))(x:List Int):Prop:=∀k∈x,∀j∈iJ ev gone k,j∈x
section
variable {L:List (List Int)}(hL:sY L)(hn:L.Nodup){rings:List dK}(rn:rings.Nodup)(r1:∀c∈rings,∃p q,gV L p q/\c=cG p q)(r2:∀p q,gV L p q->cG p q∈rings)
theorem uG {k:Int}(hk:k∈every rings.length):rg rings k∈rings:=by
 obtain⟨i,h,rfl⟩:=qI.mp hk;show rings.getD i []∈rings;rw[getD_eq_getElem?_getD,getElem?_eq_getElem h];exact getElem_mem h
theorem rW {s:List Int}{k:Int}(hk:k∈every rings.length):(cT rings s).contains k=cI (rg rings k) s:=by
 rw[Bool.eq_iff_iff,contains_iff_mem];exact⟨λh=>(mem_filter.mp h).2,λh=>mem_filter.mpr ⟨hk,h⟩⟩
theorem M7 {k j:Int}(hk:k∈every rings.length):j∈iJ (every rings.length) (L.map (cT rings)) k↔j∈every rings.length/\j≠k/\∀s∈L,cI (rg rings k) s=true->cI (rg rings j) s=true:=by
 unfold iJ;rw[mem_filter,and_eq_true,decide_eq_true_iff,List.isEmpty_iff,List.filter_eq_nil_iff];refine and_congr_right λhj=>and_congr_right λ_=>⟨λh s hs g=>?_,λh one ho=>?_⟩
 ·have:=h _ (mem_map_of_mem hs);rw[rW hk,rW hj,g]at this
  revert this
  cases cI (rg rings j) s
  ·exact λq=>absurd rfl q
  ·exact λ_=>rfl
 ·obtain⟨s,hs,rfl⟩:=mem_map.mp ho;rw[rW hk,rW hj];have:=h s hs
  revert this
  cases cI (rg rings k) s <;> cases cI (rg rings j) s <;> simp
include rn in
theorem qim {k j:Int}(hk:k∈every rings.length)(hj:j∈every rings.length)(e:rg rings k=rg rings j):k=j:=by
 obtain⟨i,hi,rfl⟩:=qI.mp hk;obtain⟨m,hm,rfl⟩:=qI.mp hj;have e:rings.getD i []=rings.getD m []:=e;rw[getD_eq_getElem?_getD,getD_eq_getElem?_getD,getElem?_eq_getElem hi,getElem?_eq_getElem hm]at e;have e:rings[i]=rings[m]:=e;rw[<-rn.idxOf_getElem i hi,<-rn.idxOf_getElem m hm,e]
include hL rn r1 in
theorem qgv {k j:Int}(hk:k∈every rings.length)(hj:j∈iJ (every rings.length) (L.map (cT rings)) k):L.length-L.countP (cI (rg rings j))<L.length-L.countP (cI (rg rings k)):=by
 refine cQ ((M7 hk).mp hj) λh1 h2 h3=>?_;have:∃s∈L,cI (rg rings j) s=true/\¬cI (rg rings k) s=true:=by
  refine Classical.byContradiction λn=>h2 (qim rn h1 hk ?_);refine fM (r1 _ (uG h1)) λp q c e=>?_;refine fM (r1 _ (uG hk)) λp' q' c' e'=>?_;rw[e,e'];refine qbk hL c c' λs hs=>?_;rw[<-e,<-e',Bool.eq_iff_iff];exact⟨λg=>Classical.byContradiction λm=>n ⟨s,hs,g,m⟩,h3 s hs⟩
 refine bM (this) λs hs g1 g2=>?_;have hlt:=UW g1 g2 h3 hs;have:=List.countP_le_length (p:=cI (rg rings j)) (l:=L);exact ltN (bN 0x101431a120a413f2a1 rfl hlt (aR _ _) (aM (aA (aB 0x1f0a1011 rfl this))))
include hL hn r2 in
theorem XF:∀s∈L,∀s'∈L,cT rings s=cT rings s'->s=s':=λs hs s' hs' e=>by
 have key:∀p q,gV L p q->cI (cG p q) s=cI (cG p q) s':=λp q c=>by
  have hm:=r2 p q c;have hk:((rings.idxOf (cG p q):Nat):Int)∈every rings.length:=qI.mpr ⟨_,idxOf_lt_length_of_mem hm,rfl⟩;have hr:rg rings ((rings.idxOf (cG p q):Nat):Int)=cG p q:=by
   show rings.getD (rings.idxOf (cG p q)) []=_;rw[getD_eq_getElem?_getD,getElem?_eq_getElem (idxOf_lt_length_of_mem hm),List.getElem_idxOf];rfl
  rw[<-hr,<-rW hk,<-rW hk,e]
 exact qfM hL hs hs' (sep hL hs hs' key) (sep hL hs' hs λp q c=>(key p q c).symm)
include hL hn r2 in
theorem qeK:(L.map (cT rings)).Nodup:=pairwise_map.mpr (hn.imp_of_mem λha hb hab e=>hab (XF hL hn r2 _ ha _ hb e))
include hL hn r1 r2 in
theorem qiC {can:List Int->Bool}(hcan:∀x,x.Sublist (every rings.length)->(can x=true↔GD (every rings.length) (L.map (cT rings)) x)):((gK [[]] (every rings.length)).filter can).Perm (L.map (cT rings)):=by
 refine(List.perm_ext_iff_of_nodup ((qiE vO).filter _) (qeK hL hn r2)).mpr λx=>?_;rw[mem_filter,DX];constructor
 ·rintro⟨hx,hc⟩;have hc:=(hcan x hx).mp hc;refine bM (build hL r1 (x.map (rg rings)) λc hc=>by
   obtain⟨k,hk,rfl⟩:=mem_map.mp hc;exact uG (hx.subset hk)) λs hs h1 h2=>?_
  refine mem_map.mpr ⟨s,hs,?_⟩;rw[<-qjZ hx vO];refine filter_congr λk hk=>?_;rw[Bool.eq_iff_iff,contains_iff_mem];constructor
  ·intro g;refine aF (h2 _ (uG hk) g) λc hc' h3=>?_;obtain⟨j,hj,rfl⟩:=mem_map.mp hc';by_cases e:k=j
   ·rw[e];exact hj
   ·exact hc j hj k ((M7 (hx.subset hj)).mpr ⟨hk,e,h3⟩)
  ·exact λg=>h1 _ (mem_map_of_mem g)
 ·intro h;obtain⟨s,hs,rfl⟩:=mem_map.mp h;refine⟨List.filter_sublist,(hcan _ List.filter_sublist).mpr λk hk j hj=>?_⟩;refine bI (mem_filter.mp hk) λhk1 hk2=>?_;refine cQ ((M7 hk1).mp hj) λhj1 _ hj2=>?_;exact mem_filter.mpr ⟨hj1,hj2 s hs hk2⟩
end
end P05
end Internal
end
section
open PySem
set_option maxRecDepth 100000
namespace Internal
namespace P05
noncomputable def qaS:Nat->List Int->List (List Int)
 | 0,_=>[[]]
 | n+1,row=>if row=[] then[[]] else row.flatMap λone=>(qaS n (row.filter (· != one))).map (one::·)
@[irreducible] noncomputable def perms:List (List Int):=qaS 5 four
noncomputable def io (r:List Int)(h:Int):Int:=(r.idxOf h:Nat)
theorem oE:∀r∈perms,r.length=4/\∀g∈four,r[g.toNat]?=some (ix r g)/\ix r g∈four/\io r (ix r g)=g/\io r g∈four/\ix r (io r g)=g:=by decide +kernel
theorem qg4:∀a∈four,∀b∈four,∀c∈four,∀d∈four,a≠b->a≠c->a≠d->b≠c->b≠d->c≠d->[a,b,c,d]∈perms:=by decide +kernel
theorem qg1:∀r∈perms,∀r'∈perms,(∀g∈four,ix r g=ix r' g)->r=r':=by decide +kernel
theorem qaY:∀r∈perms,∀k,k<4->(∀h∈r.take k,h∈four)/\∀h∈four,h∈r.take k↔r.idxOf h<k:=by decide +kernel
theorem qg3:perms.Nodup:=by decide +kernel
noncomputable def cU (gs:List (List Int))(g:Int):List Int:=gs.getD g.toNat []
noncomputable def Gf (gs:List (List Int))(g h:Int):Nat:=(cU gs g).idxOf h
noncomputable def bQ (gs:List (List Int))(w:List Int):List Int:=four.map λg=>io (cU gs g) (ix w g)
noncomputable def heldOf (hs:List (List Int))(w:List Int):List Int:=four.map λh=>io (cU hs h) (io w h)
noncomputable def blk (gs hs:List (List Int))(w:List Int):List Int:=four.flatMap λg=>(((cU gs g).take (ix (bQ gs w) g).toNat).filter λh=>decide (io (cU hs h) g<ix (heldOf hs w) h)).map λ_=>g
noncomputable def ways (gs hs:List (List Int)):List (List Int):=perms.filter λw=>decide (blk gs hs w=[])
structure gM (gs:List (List Int)):Prop where
 len:gs.length=4
 row:∀r∈gs,r∈perms
theorem jW:∀g∈four,g.toNat<4/\(g.toNat:Int)=g:=by decide
theorem gM.at {gs:List (List Int)}(h:gM gs){g:Int}(hg:g∈four):gs[g.toNat]?=some (cU gs g)/\cU gs g∈perms:=by
 have hl:g.toNat<gs.length:=by rw[h.len];exact(jW g hg).1
 have e:gs[g.toNat]?=some (cU gs g):=by
  unfold cU;rw[getD_eq_getElem?_getD,getElem?_eq_getElem hl];rfl
 exact⟨e,h.row _ (mem_of_getElem? e)⟩
theorem qO {gs:List (List Int)}{w:List Int}{g:Int}(hg:g∈four):ix (bQ gs w) g=io (cU gs g) (ix w g):=by
 rcases mem_cons.mp hg with rfl|hg
 ·rfl
 rcases mem_cons.mp hg with rfl|hg
 ·rfl
 rcases mem_cons.mp hg with rfl|hg
 ·rfl
 rcases mem_singleton.mp hg with rfl;rfl
theorem zK {gs:List (List Int)}{w:List Int}{g:Int}(hg:g∈four):ix (heldOf gs w) g=io (cU gs g) (io w g):=by
 rcases mem_cons.mp hg with rfl|hg
 ·rfl
 rcases mem_cons.mp hg with rfl|hg
 ·rfl
 rcases mem_cons.mp hg with rfl|hg
 ·rfl
 rcases mem_singleton.mp hg with rfl;rfl
section
variable {gs hs:List (List Int)}(pg:gM gs)(ph:gM hs)
include pg in
theorem tell:uV (Gf gs):=λg hg h hh h' hh' e=>by
 have o:=(oE _ (pg.at hg).2).2;rw[<-(o h hh).2.2.2.2,<-(o h' hh').2.2.2.2];exact congrArg (λi:Nat=>ix (cU gs g) (i:Int)) e
include pg in
theorem GF {g h:Int}(hg:g∈four)(hh:h∈four):Gf gs g h<4:=by
 have o:=((oE _ (pg.at hg).2).2 h hh).2.2.2.1;exact ofNat_lt.mp ((by decide:∀x∈four,x<4) _ o)
theorem mD {w:List Int}(hw:w∈perms):Way (ix w) (io w) :=
 ⟨λg hg=>by have o:=(oE w hw).2 g hg;exact⟨o.2.1,o.2.2.1⟩,λg hg=>by have o:=(oE w hw).2 g hg;exact⟨o.2.2.2.1,o.2.2.2.2⟩⟩
theorem qfW {w v:Int->Int}(h:Way w v):∃l∈perms,(∀g∈four,ix l g=w g)/\∀k∈four,io l k=v k:=by
 have hl:=λg hg=>(h.wf g hg).1;have inj:∀x∈four,∀y∈four,x≠y->w x≠w y:=λx hx y hy n e=>n (by rw[<-(h.wf x hx).2,<-(h.wf y hy).2,e]);have hm:[w 0,w 1,w 2,w 3]∈perms:=qg4 _ (hl 0 (by decide)) _ (hl 1 (by decide)) _ (hl 2 (by decide)) _ (hl 3 (by decide)) (inj _ (by decide) _ (by decide) (by decide)) (inj _ (by decide) _ (by decide) (by decide)) (inj _ (by decide) _ (by decide) (by decide)) (inj _ (by decide) _ (by decide) (by decide)) (inj _ (by decide) _ (by decide) (by decide)) (inj _ (by decide) _ (by decide) (by decide));have e1:∀g∈four,ix [w 0,w 1,w 2,w 3] g=w g:=λg hg=>by
  rcases mem_cons.mp hg with rfl|hg
  ·rfl
  rcases mem_cons.mp hg with rfl|hg
  ·rfl
  rcases mem_cons.mp hg with rfl|hg
  ·rfl
  rcases mem_singleton.mp hg with rfl;rfl
 refine⟨_,hm,e1,λk hk=>?_⟩;have o:=(mD hm).vf k hk;exact(h.wf _ o.1).2.symm.trans (congrArg v ((e1 _ o.1).symm.trans o.2))
include pg in
theorem QQ {w:List Int}(hw:w∈perms):w∈ways gs hs↔St (Gf gs) (Gf hs) (ix w) (io w):=by
 have W:=mD hw;unfold ways;rw[mem_filter,decide_eq_true_iff];have key:blk gs hs w=[]↔∀g∈four,∀h∈four,Gf gs g h<Gf gs g (ix w g)->¬Gf hs h g<Gf hs h (io w h):=by
  unfold blk;rw[List.flatMap_eq_nil_iff];refine forall_congr' λg=>forall_congr' λhg=>?_;have ht:=qaY _ (pg.at hg).2 _ (GF pg hg (W.wf g hg).1);have e:(ix (bQ gs w) g).toNat=Gf gs g (ix w g):=by rw[qO hg];rfl
  rw[e,List.map_eq_nil_iff,List.filter_eq_nil_iff];constructor
  ·intro k h hh l q;refine k h ((ht.2 h hh).mpr l) (decide_eq_true ?_);rw[zK hh];exact ofNat_lt.mpr q
  ·intro k h hm q;have hh:=ht.1 h hm;have q:=of_decide_eq_true q;rw[zK hh]at q;exact k h hh ((ht.2 h hh).mp hm) (ofNat_lt.mp q)
 rw[key];constructor
 ·intro h g hg k hk;rcases lt_or_ge (Gf gs g k) (Gf gs g (ix w g)) with q|q
  ·exact .inr (Nat.not_lt.mp (h.2 g hg k hk q))
  ·exact .inl q
 ·intro h;refine⟨hw,λg hg k hk l q=>?_⟩;rcases h g hg k hk with z|z
  ·exact lt_irrefl _ (lt_of_lt_of_le l z)
  ·exact lt_irrefl _ (lt_of_lt_of_le q z)
theorem jA {w:List Int}(h:w∈ways gs hs):w∈perms:=(mem_filter.mp h).1
include pg in
theorem RB {w v:Int->Int}(h:Way w v)(s:St (Gf gs) (Gf hs) w v):∃l∈ways gs hs,(∀g∈four,ix l g=w g)/\∀k∈four,io l k=v k:=by
 refine bM (qfW h) λl hl e1 e2=>?_;refine⟨l,(QQ pg hl).mpr λg hg k hk=>?_,e1,e2⟩;rw[e1 g hg,e2 k hk];exact s g hg k hk
include pg ph in
theorem qca:∃w,w∈ways gs hs:=by
 refine fM (there (G:=Gf gs) (H:=Gf hs) (c:=λg k=>ix (cU gs g) (k:Nat)) (tell ph) (λg hg k hk=>by
  have tR:((k:Nat):Int)∈four:=(by decide:∀k,k<4->((k:Nat):Int)∈four) k hk;have o:=(oE _ (pg.at hg).2).2 _ tR;exact⟨o.2.1,ofNat.inj o.2.2.1⟩) (λg hg h hh=>⟨GF pg hg hh,((oE _ (pg.at hg).2).2 h hh).2.2.2.2⟩) 17 (λ_=>0) ⟨λ_ _=>Nat.succ_pos 3,λ_ _ _ _ q=>absurd q (not_lt_zero _)⟩ (by decide)) λw v h s=>?_
 refine aF (RB pg h s) λl hl _=>?_;exact⟨l,hl⟩
noncomputable def fL (gs hs:List (List Int))(w:List Int):List Int:=bQ gs w++(heldOf hs w).map λx=>-x
theorem HB (w:List Int):(fL gs hs w).length=8:=rfl
theorem eight {a b c d e f g h a' b' c' d' e' f' g' h':Int}(h1:a=a')(h2:b=b')(h3:c=c')(h4:d=d')(h5:e=e')(h6:f=f')(h7:g=g')(h8:h=h'):[a,b,c,d,e,f,g,h]=[a',b',c',d',e',f',g',h']:=by
 rw[h1,h2,h3,h4,h5,h6,h7,h8]
theorem T6 {f:Int->Int->Int}{w w' l:List Int}(h1:∀g∈four,io (cU gs g) (ix l g)=f (io (cU gs g) (ix w g)) (io (cU gs g) (ix w' g)))(h2:∀g∈four,-io (cU hs g) (io l g)=f (-io (cU hs g) (io w g)) (-io (cU hs g) (io w' g))):fL gs hs l=zipWith f (fL gs hs w) (fL gs hs w'):=by
 exact eight (h1 0 (by decide)) (h1 1 (by decide)) (h1 2 (by decide)) (h1 3 (by decide)) (h2 0 (by decide)) (h2 1 (by decide)) (h2 2 (by decide)) (h2 3 (by decide))
theorem qgo {m a b:Int}(h:m=min a b):m<=a/\m<=b/\(m=a\/m=b):=by
 subst h;refine⟨Int.min_le_left _ _,Int.min_le_right _ _,?_⟩;rcases le_total a b with q|q
 ·exact .inl (Int.min_eq_left q)
 ·exact .inr (Int.min_eq_right q)
theorem qgf {m a b:Int}(h:m=max a b):a<=m/\b<=m/\(m=a\/m=b):=by
 subst h;refine⟨Int.le_max_left _ _,Int.le_max_right _ _,?_⟩;rcases le_total a b with q|q
 ·exact .inr (max_eq_right q)
 ·exact .inl (max_eq_left q)
theorem qgx (a b:Int):-(max a b)=min (-a) (-b):=by
 rcases le_total a b with q|q
 ·rw[max_eq_right q,Int.min_eq_right (neg_le_neg q)]
 ·rw[max_eq_left q,Int.min_eq_left (neg_le_neg q)]
theorem qgy (a b:Int):-(min a b)=max (-a) (-b):=by
 rcases le_total a b with q|q
 ·rw[Int.min_eq_left q,max_eq_left (neg_le_neg q)]
 ·rw[Int.min_eq_right q,max_eq_right (neg_le_neg q)]
theorem qaK (a b:Nat):((min a b:Nat):Int)=min (a:Int) b:=by
 rcases Nat.le_total a b with q|q
 ·rw[min_eq_left q,Int.min_eq_left (ofNat_le.mpr q)]
 ·rw[min_eq_right q,Int.min_eq_right (ofNat_le.mpr q)]
theorem qaJ (a b:Nat):((max a b:Nat):Int)=max (a:Int) b:=by
 rcases Nat.le_total a b with q|q
 ·rw[Nat.max_eq_right q,max_eq_right (ofNat_le.mpr q)]
 ·rw[Nat.max_eq_left q,max_eq_left (ofNat_le.mpr q)]
include pg ph in
theorem HD {w w':List Int}(a:w∈ways gs hs)(b:w'∈ways gs hs):(∃l∈ways gs hs,fL gs hs l=uJ (fL gs hs w) (fL gs hs w'))/\∃l∈ways gs hs,fL gs hs l=qT (fL gs hs w) (fL gs hs w'):=by
 have wa:=mD (jA a);have wb:=mD (jA b);have sa:=(QQ pg (jA a)).mp a;have sb:=(QQ pg (jA b)).mp b;constructor
 ·refine bI (meet (tell pg) (tell ph) wa wb sa sb) λm1 m2=>?_;refine bM (RB pg m1 m2) λl hl e1 e2=>?_;refine⟨l,hl,T6 (λg hg=>?_) λk hk=>?_⟩
  ·rw[e1 g hg];exact(congrArg ofNat (H9 (G:=Gf gs) g)).trans (qaK _ _)
  ·rw[e2 k hk];have:=(congrArg ofNat (RC (G:=Gf hs) (w:=io w) (w':=io w') k)).trans (qaJ _ _);show -((Gf hs k _:Nat):Int)=min (-((Gf hs k _:Nat):Int)) (-((Gf hs k _:Nat):Int));exact(congrArg (λx:Int=>-x) this).trans (qgx _ _)
 ·refine bI (meet (tell ph) (tell pg) wa.swap wb.swap sa.swap sb.swap) λm1 m2=>?_;refine bM (RB pg m1.swap m2.swap) λl hl e1 e2=>?_;refine⟨l,hl,T6 (λg hg=>?_) λk hk=>?_⟩
  ·rw[e1 g hg];exact(congrArg ofNat (RC (G:=Gf gs) g)).trans (qaJ _ _)
  ·rw[e2 k hk];have:=(congrArg ofNat (H9 (G:=Gf hs) (w:=io w) (w':=io w') k)).trans (qaK _ _);show -((Gf hs k _:Nat):Int)=max (-((Gf hs k _:Nat):Int)) (-((Gf hs k _:Nat):Int));exact(congrArg (λx:Int=>-x) this).trans (qgy _ _)
theorem v8 {w:List Int}{g:Int}(hg:g∈four):fX (fL gs hs w) g.toNat=ix (bQ gs w) g:=by
 rcases mem_cons.mp hg with rfl|hg
 ·rfl
 rcases mem_cons.mp hg with rfl|hg
 ·rfl
 rcases mem_cons.mp hg with rfl|hg
 ·rfl
 rcases mem_singleton.mp hg with rfl;rfl
theorem ZX {w:List Int}{g:Int}(hg:g∈four):fX (fL gs hs w) (g.toNat+4)=-ix (heldOf hs w) g:=by
 rcases mem_cons.mp hg with rfl|hg
 ·rfl
 rcases mem_cons.mp hg with rfl|hg
 ·rfl
 rcases mem_cons.mp hg with rfl|hg
 ·rfl
 rcases mem_singleton.mp hg with rfl;rfl
include pg in
theorem Q0 {w w':List Int}(hw:w∈perms)(hw':w'∈perms)(h:∀g∈four,ix (bQ gs w) g=ix (bQ gs w') g):w=w':=qg1 w hw w' hw' λg hg=>by
 have:=h g hg;rw[qO hg,qO hg]at this;exact tell pg g hg _ ((mD hw).wf g hg).1 _ ((mD hw').wf g hg).1 (ofNat.inj this)
noncomputable def seats (gs hs:List (List Int)):List (List Int):=(ways gs hs).map (bQ gs)
include pg ph in
theorem lat:sY (seats gs hs):=by
 have cl:∀w∈ways gs hs,∀w'∈ways gs hs,∀l f,fL gs hs l=zipWith f (fL gs hs w) (fL gs hs w')->∀g∈four,ix (bQ gs l) g=f (ix (bQ gs w) g) (ix (bQ gs w') g):=λw _ w' _ l f e g hg=>by
  rw[<-v8 (hs:=hs) hg,<-v8 (hs:=hs) hg,<-v8 (hs:=hs) hg,e];exact H6 (HB w) (HB w') (lt_of_lt_of_le (jW g hg).1 (by decide))
 refine⟨λp hp q hq h=>?_,λp hp q hq=>?_,λp hp q hq=>?_,?_⟩
 ·obtain⟨w,hw,rfl⟩:=mem_map.mp hp;obtain⟨w',hw',rfl⟩:=mem_map.mp hq;rw[Q0 pg (jA hw) (jA hw') h]
 ·obtain⟨w,hw,rfl⟩:=mem_map.mp hp;obtain⟨w',hw',rfl⟩:=mem_map.mp hq;refine aF ((HD pg ph hw hw').1) λl hl e=>?_;exact⟨_,mem_map_of_mem hl,λg hg=>qgo (cl w hw w' hw' l min e g hg)⟩
 ·obtain⟨w,hw,rfl⟩:=mem_map.mp hp;obtain⟨w',hw',rfl⟩:=mem_map.mp hq;refine aF ((HD pg ph hw hw').2) λl hl e=>?_;exact⟨_,mem_map_of_mem hl,λg hg=>qgf (cl w hw w' hw' l max e g hg)⟩
 ·refine dH (qca pg ph) λw hw=>?_;exact⟨_,mem_map_of_mem hw⟩
include pg in
theorem qbu:(seats gs hs).Nodup:=pairwise_map.mpr ((qg3.filter _).imp_of_mem λha hb hab e=>hab (Q0 pg (jA ha) (jA hb) λg hg=>by rw[e]))
end
theorem V7 {l:List Int}{i:Nat}(hi:i<l.length)(τ:Int):τ<(sortI l).getD i 0↔l.length-i<=l.countP (λx=>decide (τ<x)):=by
 have h:=qeG hi (τ+1);have e:l.countP (λx=>decide (x<τ+1))+l.countP (λx=>decide (τ<x))=l.length:=by
  clear h hi
  induction l with
  | nil=>rfl
  | cons a l ih =>
   rw[countP_cons,countP_cons,length_cons];by_cases c:τ<a
   ·rw[decide_eq_false (show ¬a<τ+1 by exact(cN 0xf1af0a10f1a1 rfl c)),decide_eq_true c,if_pos rfl,if_neg Bool.false_ne_true];exact bG (aA (aC 0xf2a081aaff0aa1021a1 rfl (aQ ih))) (aA (aC 0xf2aff1a080aaa110a21 rfl (aW ih)))
   ·rw[decide_eq_true (show a<τ+1 by exact ltI (cN 0x1f0a1011 rfl (bV c))),decide_eq_false c,if_pos rfl,if_neg Bool.false_ne_true];exact bG (aA (aC 0x082af1aaff0aa1021a1 rfl (aQ ih))) (aA (aC 0xf2af081af0aaa110a21 rfl (aW ih)))
 refine(show _↔_ from not_lt.symm).trans ((not_congr h).trans (Nat.not_lt.trans ?_));rw[<-e,Nat.sub_le_iff_le_add,Nat.add_comm (l.countP λx=>decide (τ<x)) i];exact Nat.add_le_add_iff_right.symm
theorem qgd {α:Type}{hands:List α}{p:α->Bool}{i:Nat}(hi:i<hands.length):(sortI (hands.map λx=>if p x then(1:Int) else 0)).getD i 0=1↔hands.length-i<=hands.countP p:=by
 have hl:i<(hands.map λx=>if p x then(1:Int) else 0).length:=by rw[length_map];exact hi
 have h:=V7 hl 0;rw[length_map,countP_map]at h;have e:hands.countP ((λx=>decide ((0:Int)<x)) ∘ λx=>if p x then(1:Int) else 0)=hands.countP p:=List.countP_congr λx _=>by
  show decide ((0:Int)<if p x then 1 else 0)=true↔_;cases p x <;> simp
 rw[e]at h;rw[<-h];have hm:=getD_mem hl;refine aF (mem_map.mp hm) λx _ hx=>?_;rw[<-hx];cases p x <;> simp
section
variable {gs hs:List (List Int)}(pg:gM gs)(ph:gM hs)
include pg ph
theorem qgn {hands:List (List Int)}(hh:∀w∈hands,w∈ways gs hs){i:Nat}(hi:i<hands.length):∃w∈ways gs hs,
  (∀g∈four,ix (bQ gs w) g=(sortI (hands.map λx=>ix (bQ gs x) g)).getD i 0)/\∀h∈four,ix (heldOf hs w) h=(sortI (hands.map λx=>ix (heldOf hs x) h)).getD (hands.length-1-i) 0:=by
 have c1:∀p∈(ways gs hs).map (fL gs hs),∀q∈(ways gs hs).map (fL gs hs),uJ p q∈(ways gs hs).map (fL gs hs)/\qT p q∈(ways gs hs).map (fL gs hs):=λp hp q hq=>by
  refine hide λH gH=>?_;obtain⟨w,hw,rfl⟩:=mem_map.mp hp;obtain⟨w',hw',rfl⟩:=mem_map.mp hq;obtain⟨⟨l,hl,e⟩,l',hl',e'⟩:=HD pg ph hw hw';refine gH ?_;rw[<-e,<-e'];exact⟨mem_map_of_mem hl,mem_map_of_mem hl'⟩
 refine hide λH gH=>?_;refine aF (qgm (n:=8) (λp hp q hq=>(c1 p hp q hq).1) (λp hp q hq=>(c1 p hp q hq).2) (λp hp=>by
  obtain⟨w,_,rfl⟩:=mem_map.mp hp;exact HB w) (hands:=hands.map (fL gs hs)) (λy hy=>by
  obtain⟨w,hw,rfl⟩:=mem_map.mp hy;exact mem_map_of_mem (hh w hw)) (i:=i) (by rw[length_map];exact hi)) λm hm em=>?_
 obtain⟨w,hw,rfl⟩:=mem_map.mp hm;refine gH ?_;refine⟨w,hw,λg hg=>?_,λg hg=>?_⟩
 ·have:=em g.toNat (lt_of_lt_of_le (jW g hg).1 (by decide));rw[v8 hg,map_map]at this;rw[this];refine congrArg (λl=>(sortI l).getD i 0) (map_congr_left λx _=>?_);exact v8 hg
 ·have:=em (g.toNat+4) (Nat.add_lt_add_right (jW g hg).1 4);rw[ZX hg,map_map]at this;have e:(hands.map ((λy=>fX y (g.toNat+4)) ∘ fL gs hs))=(hands.map λx=>ix (heldOf hs x) g).map λx=>-x:=by
   rw[map_map];exact map_congr_left λx _=>ZX hg
  rw[e,qgw (by rw[length_map];exact hi),length_map]at this;exact Int.neg_inj.mp this
variable {rings:List dK}(r1:∀c∈rings,∃p q,gV (seats gs hs) p q/\c=cG p q)
include r1
theorem qgl {hands:List (List Int)}{i:Nat}(hi:i<hands.length){w:List Int}(hw:∀g∈four,ix (bQ gs w) g=(sortI (hands.map λx=>ix (bQ gs x) g)).getD i 0){c:dK}(hc:c∈rings) :
  cI c (bQ gs w)=true↔hands.length-i<=hands.countP λx=>cI c (bQ gs x):=by
 refine hide λH gH=>?_;obtain⟨p,q,cv,rfl⟩:=r1 c hc;refine bM (pU (lat pg ph) cv) λg hg l iff=>?_;refine gH ?_;rw[iff,hw g hg,V7 (by rw[length_map];exact hi),length_map,countP_map];have e:hands.countP ((λx=>decide (ix p g<x)) ∘ λx=>ix (bQ gs x) g)=hands.countP λx=>cI (cG p q) (bQ gs x):=List.countP_congr λx _=>by
  rw[iff];exact decide_eq_true_iff
 rw[e]
end
theorem pW:nM P:=⟨rfl,rfl,rfl,rfl,rfl,rfl,rfl,rfl,rfl,rfl,rfl,rfl,rfl⟩
noncomputable abbrev XX:aU:=⟨P.globs,bD P 29⟩
noncomputable def dF (r:List Int):O:=.list (r.map .int)
noncomputable def gD:D:=.list [.ref 0,.ref 1,.ref 2,.ref 3]
noncomputable def hD:D:=.list [.ref 4,.ref 5,.ref 6,.ref 7]
noncomputable def NQ:List Int:=[0,1,2,3,4,5,6,7]
noncomputable def rows0:List (List Int):=[[0,1,2,3],[1,0,3,2],[2,3,0,1],[3,2,1,0],[3,2,1,0],[2,3,0,1],[1,0,3,2],[0,1,2,3]]
noncomputable def wQ (r:List Int)(k:Int):List Int:=(r.set k.toNat (ix r (k+1))).set (k+1).toNat (ix r k)
theorem qj8:∀r∈perms,∀k∈([0,1,2]:List Int),wQ r k∈perms/\r[k.toNat]?=some (ix r k)/\r[(k+1).toNat]?=some (ix r (k+1))/\k.toNat<r.length/\(k+1).toNat<r.length/\0<=k/\0<=k+1:=by decide +kernel
noncomputable def FJ:List S:=[.assign (.tup [(.name 4),(.name 5)]) (.bi .divmod [.ite (.cmp .GtE (.var 3) (.int 0)) (.bin .Mult (.int 2) (.var 3)) (.bin .Sub (.bin .Mult (.neg (.int 2)) (.var 3)) (.int 1)),.int 8]),.assign (.name 6) (.idx (.bin .Add (.var 1) (.var 2)) (.var 5)),.assign (.name 7) (.bin .Mod (.var 4) (.int 3)),.assign (.tup [(.sub (.var 6) (.var 7)),(.sub (.var 6) (.bin .Add (.var 7) (.int 1)))]) (.tup [.idx (.var 6) (.bin .Add (.var 7) (.int 1)),.idx (.var 6) (.var 7)])]
theorem qgQ:∀j∈NQ,0<=j/\j.toNat<8/\([D.ref 0,.ref 1,.ref 2,.ref 3]++[D.ref 4,.ref 5,.ref 6,.ref 7])[j.toNat]?=some (.ref j.toNat):=by
 intro j hj;have:=(by decide:∀j∈NQ,0<=j/\j.toNat<8) j hj;refine⟨this.1,this.2,?_⟩;rcases mem_cons.mp hj with rfl|hj
 ·rfl
 rcases mem_cons.mp hj with rfl|hj
 ·rfl
 rcases mem_cons.mp hj with rfl|hj
 ·rfl
 rcases mem_cons.mp hj with rfl|hj
 ·rfl
 rcases mem_cons.mp hj with rfl|hj
 ·rfl
 rcases mem_cons.mp hj with rfl|hj
 ·rfl
 rcases mem_cons.mp hj with rfl|hj
 ·rfl
 rcases mem_singleton.mp hj with rfl;rfl
theorem qj4 {rows:List (List Int)}(hl:rows.length=8)(hp:∀w∈rows,w∈perms){r:Loc}(hr:r.length=59){x:Int}(g1:r[1]?=some (some gD))(g2:r[2]?=some (some hD)) :
  ∃(r':Loc) (sJ:List (List Int)),sJ.length=8/\(∀w∈sJ,w∈perms)/\exs XX 1000 FJ (r.set 3 (some (.int x))) (rows.map dF)=some (.next,r',sJ.map dF)/\Kp [3,4,5,6,7] r r':=by
 let m:Int:=if 0<=x then 2*x else -2*x-1
 have qfa:ev XX (.ite (.cmp .GtE (.var 3) (.int 0)) (.bin .Mult (.int 2) (.var 3)) (.bin .Sub (.bin .Mult (.neg (.int 2)) (.var 3)) (.int 1))) (r.set 3 (some (.int x))) (rows.map dF)=some (.int m,rows.map dF):=by
  have h3:(r.set 3 (some (.int x)))[3]?=some (some (.int x)):=by repeat' (first|assumption|exact rfl|apply ln|exact bC (by repeat' (first|assumption|apply ln)) (by decide)|refine aH ?_ rfl)
  refine bnd (cR (X:=XX) (x:=.int x) (y:=.int 0) (b:=decide (0<=x)) (aO h3) rfl rfl) (bnd (a:=decide (0<=x)) rfl ?_);by_cases q:0<=x
  ·rw[decide_eq_true q,show m=2*x from if_pos q];exact fZ (x:=.int 2) rfl (aO h3) (wG _ _ rfl)
  ·rw[decide_eq_false q,show m=-2*x-1 from if_neg q];exact fZ (x:=.int (-2*x)) (fZ (x:=.int (-2)) rfl (aO h3) (wG _ _ rfl)) rfl rfl
 have hw:m.fmod 8∈NQ:=Z6 (n:=8) (Int.fmod_nonneg_of_pos m (by decide)) (Int.fmod_lt_of_pos m (by decide));have hk:(m.fdiv 8).fmod 3∈([0,1,2]:List Int):=Z6 (n:=3) (Int.fmod_nonneg_of_pos _ (by decide)) (Int.fmod_lt_of_pos _ (by decide));generalize qfe:m.fmod 8=who at hw;generalize hkk:(m.fdiv 8).fmod 3=k at hk;refine cQ (qgQ who hw) λw0 w1 w2=>?_;have hlt:who.toNat<rows.length:=by rw[hl];exact w1
 have hrow:rows[who.toNat]?=some rows[who.toNat]:=getElem?_eq_getElem hlt;have hpr:=hp _ (getElem_mem hlt);generalize rows[who.toNat]=row at hrow hpr;refine qdB (qj8 row hpr k hk) λs1 s2 s3 s4 s5 s6 s7=>?_;have hσ:(rows.map dF)[who.toNat]?=some (dF row):=by rw[getElem?_map,hrow];rfl
 have hd:mQ .divmod (rows.map dF) [.int m,.int 8]=some (.tup [.int (m.fdiv 8),.int who],rows.map dF):=by
  show (if (8:Int)≠0/\small 8=true then some (D.tup [.int (m.fdiv 8),.int (m.fmod 8)],_) else .none)=_;rw[if_pos ⟨by decide,rfl⟩,qfe]
 have JQ:binOp .Mod (.int (m.fdiv 8)) (.int 3)=some (.int k):=by
  show (if (3:Int)=0 then .none else some (D.int ((m.fdiv 8).fmod 3)))=_;rw[if_neg (by decide),hkk]
 have g6:∀{i v:Int},0<=i->row[i.toNat]?=some v->getItem (rows.map dF) (.ref who.toNat) (.int i)=some (.int v):=λ{i v} h0 hi=>item_at hσ (by
  show gQ (row.map D.int) i true=_;unfold gQ;rw[if_pos h0,getElem?_map,hi];rfl)
 let r6:=(((r.set 3 (some (.int x))).set 4 (some (.int (m.fdiv 8)))).set 5 (some (.int who))).set 6 (some (.ref who.toNat));let r7:=r6.set 7 (some (.int k));have a6:r7[6]?=some (some (.ref who.toNat)):=by repeat' (first|assumption|exact rfl|apply ln|exact bC (by repeat' (first|assumption|apply ln)) (by decide)|refine aH ?_ rfl)
 have a7:r7[7]?=some (some (.int k)):=by repeat' (first|assumption|exact rfl|apply ln|exact bC (by repeat' (first|assumption|apply ln)) (by decide)|refine aH ?_ rfl)
 have ek1:∀s,ev XX (.bin .Add (.var 7) (.int 1)) r7 s=some (.int (k+1),s):=λs=>fZ (aO a7) rfl rfl;refine⟨r7,rows.set who.toNat (wQ row k),(length_set ..).trans hl,λw hw=>?_,?_,((((Kp.set rfl).trans (Kp.set rfl)).trans (Kp.set rfl)).trans (Kp.set rfl)).trans (Kp.set rfl)⟩
 ·rcases List.mem_or_eq_of_mem_set hw with q|q
  ·exact hp w q
  ·rw[q];exact s1
 ·refine aP (lN (d:=.tup [.int (m.fdiv 8),.int who]) (lL (vP qfa (λ_=>nofun) (y:=.int 8) rfl (λ_=>nofun)) hd) rfl) ?_;refine aP (cH (d:=.ref who.toNat) (eF (y:=.int who) (xJ (l:=[.ref 0,.ref 1,.ref 2,.ref 3]) (l':=[.ref 4,.ref 5,.ref 6,.ref 7]) (aO (by repeat' (first|assumption|exact rfl|apply ln|exact bC (by repeat' (first|assumption|apply ln)) (by decide)|refine aH ?_ rfl))) (aO (by repeat' (first|assumption|exact rfl|apply ln|exact bC (by repeat' (first|assumption|apply ln)) (by decide)|refine aH ?_ rfl))) (by decide)) (aO (by repeat' (first|assumption|exact rfl|apply ln|exact bC (by repeat' (first|assumption|apply ln)) (by decide)|refine aH ?_ rfl))) (nZ w0 w2))) ?_;refine aP (cH (d:=.int k) (fZ (aO (i:=4) (d:=.int (m.fdiv 8)) (by repeat' (first|assumption|exact rfl|apply ln|exact bC (by repeat' (first|assumption|apply ln)) (by decide)|refine aH ?_ rfl))) rfl JQ)) ?_;have qfg:((rows.map dF).set who.toNat (.list ((row.map D.int).set k.toNat (.int (ix row (k+1))))))[who.toNat]?=some (.list ((row.map D.int).set k.toNat (.int (ix row (k+1))))):=cZ hσ;refine aP (r':=r7) (s':=(rows.set who.toNat (wQ row k)).map dF) (lN (d:=.tup [.int (ix row (k+1)),.int (ix row k)]) (s1:=rows.map dF) ?_ ?_) rfl
  ·refine bnd (a:=([.int (ix row (k+1)),.int (ix row k)],rows.map dF)) (vP (eF (aO a6) (ek1 _) (g6 s7 s3)) (λ_=>nofun) (eF (aO a6) (aO a7) (g6 s6 s2)) (λ_=>nofun)) rfl
  ·refine bnd (a:=[D.int (ix row (k+1)),.int (ix row k)]) rfl (bnd (a:=(r7,(rows.map dF).set who.toNat (.list ((row.map D.int).set k.toNat (.int (ix row (k+1))))))) (xO (aO a6) (aO a7) (CX hσ (if_pos ⟨s6,by rw[length_map];exact s4⟩) rfl)) (xO (aO a6) (ek1 _) (CX qfg (if_pos ⟨s7,by rw[length_set,length_map];exact s5⟩) ?_)));rw[set_set,map_set];show _=(rows.map dF).set who.toNat (.list ((wQ row k).map .int));unfold wQ;rw[map_set,map_set]
theorem qbT:∀(l:List Int) {rows:List (List Int)} {r:Loc},rows.length=8->(∀w∈rows,w∈perms)->r.length=59->r[1]?=some (some gD)->r[2]?=some (some hD) ->
  ∃(r':Loc) (sJ:List (List Int)),sJ.length=8/\(∀w∈sJ,w∈perms)/\forL (exs XX 1000 FJ) (cA XX (.name 3)) (l.map .int) r (rows.map dF)=some (.next,r',sJ.map dF)/\Kp [3,4,5,6,7] r r'
 | [],rows,r,h1,h2,_,_,_=>⟨r,rows,h1,h2,rfl,Kp.refl⟩
 | x::l,rows,r,h1,h2,h3,h4,h5=>by
  refine hide λH gH=>?_;refine c7 (qj4 h1 h2 h3 (x:=x) h4 h5) λr1 qkN a1 a2 a3 a4=>?_;refine c7 (qbT l a1 a2 (a4.len.trans h3) (a4.at_ _ _ rfl h4) (a4.at_ _ _ rfl h5)) λr2 qiq b1 b2 b3 b4=>?_;refine gH ?_;exact⟨r2,qiq,b1,b2,iB rfl a3 b3,a4.trans b4⟩
noncomputable def XH:E:=.comp false (.comp true (.bin .BitXor (.var 30) (.var 31)) [.mk [31] false (.e (.bi .range [.int 4])) []]) [.mk [30] false (.e (.bi .range [.int 4])) []]
noncomputable def YX:E:=.comp false (.comp true (.bin .BitXor (.bin .BitXor (.var 32) (.int 3)) (.var 33)) [.mk [33] false (.e (.bi .range [.int 4])) []]) [.mk [32] false (.e (.bi .range [.int 4])) []]
theorem start (xs:List Int):∃(r:Loc) (rows:List (List Int)),rows.length=8/\(∀w∈rows,w∈perms)/\exs XX 1000 [.assign (.name 1) XH,.assign (.name 2) YX,.fore (.name 3) (.slice (.var 0) .none (some (.int 4))) FJ] ((some (aD xs))::replicate 58 .none) []=some (.next,r,rows.map dF) /\
  r.length=59/\r[0]?=some (some (aD xs))/\r[1]?=some (some gD)/\r[2]?=some (some hD):=by
 let r0:Loc:=(some (aD xs))::replicate 58 .none;let r2:Loc:=(r0.set 1 (some gD)).set 2 (some hD);have L:r2.length=59:=rfl;refine c7 (qbT (xs.take 4) (rows:=rows0) (r:=r2) rfl (by decide +kernel) L rfl rfl) λr rows h1 h2 h3 h4=>?_;refine⟨r,rows,h1,h2,?_,h4.len.trans L,h4.at_ _ _ rfl rfl,h4.at_ _ _ rfl rfl,h4.at_ _ _ rfl rfl⟩;refine aP (r':=r0.set 1 (some gD)) (s':=(rows0.take 4).map dF) (cH (by kernel_rfl)) ?_;refine aP (r':=r2) (s':=rows0.map dF) (cH (by kernel_rfl)) ?_;refine aP (yX (l:=(xs.take 4).map .int) (s':=rows0.map dF) ?_ h3) rfl;refine bnd (a:=(aD xs,rows0.map dF)) rfl (bnd (a:=(.none,rows0.map dF)) rfl (bnd (a:=(some (.int 4),rows0.map dF)) rfl (bnd (a:=xs.map .int) rfl (bnd (a:=(xs.take 4).map .int) ?_ rfl))));show (if (0:Int)<=4 then some ((xs.map D.int).take 4) else .none)=_;rw[if_pos (by decide),List.map_take]
end P05
end Internal
end
section
open PySem
set_option maxRecDepth 100000
namespace Internal
section
variable {X:aU}{r:Loc}{s s1 s2:Store}{t:Nat}{x:D}{α:Type}{em:α->D}
theorem qaV {f:D->Store->Option (List D×Store)}{g:α->List D}:∀{l:List α},(∀i∈l,f (em i) s=some (g i,s))->j6 f (l.map em) s=some (l.flatMap g,s)
 | []=>λ_=>rfl
 | i::l=>λh=>CQ (h i mem_cons_self) (qaV (l:=l) λx hx=>h x (mem_cons_of_mem _ hx))
theorem qd5 {e elt c:E}{l:List α}{b:α->Bool}{g:α->D}(he:ev X e r s=some (x,s1))(hx:treeOf x=some (l.map em))(hc:∀i∈l,ev X c (r.set t (some (em i))) s1=some (.bool (b i),s1))(hv:∀i∈l,ev X elt (r.set t (some (em i))) s1=some (g i,s1)) :
  nU X [.mk [t] false (.e e) [c]] (ev X elt) r s=some ((l.filter b).map g,s1) :=
 bnd (a:=(l.map em,s1,.none)) (bnd he (K5 hx)) (bnd (wK (b:=b) (g:=g) λi hi=>bnd (a:=r.set t (some (em i))) rfl (bnd (vN (hc i hi)) (by
  cases b i
  ·rfl
  ·exact bnd (hv i hi) rfl))) rfl)
theorem qdl {e elt:E}{g2:G}{l:List α}{g:α->List D}(he:ev X e r s=some (x,s1))(hx:treeOf x=some (l.map em))(hl:(l.flatMap g).length<=lim)(h:∀i∈l,nU X [g2] (ev X elt) (r.set t (some (em i))) s1=some (g i,s1)) :
  ev X (.comp false elt [.mk [t] false (.e e) [],g2]) r s=some (.list (l.flatMap g),s1) :=
 bnd (a:=(l.flatMap g,s1)) (bnd (a:=(l.map em,s1,.none)) (bnd he (K5 hx)) (bnd (qaV (g:=g) λi hi=>bnd (a:=r.set t (some (em i))) rfl (bnd (a:=(true,s1)) rfl (h i hi))) rfl)) (bnd (show pB (l.flatMap g)=some (.list (l.flatMap g)) from if_pos hl) rfl)
theorem yP {o e:E}{j:Nat}{row:List Int}{v:Int}(h1:ev X o r s=some (.ref j,s))(hs:s[j]?=some (.list (row.map .int)))(h2:ev X e r s=some (.int v,s))(he:∀q,e≠.star q)(hv:v∈row):ev X (.bmeth o .index [e]) r s=some (.int (row.idxOf v:Nat),s):=by
 refine gA h1 (kZ hs) (dW h2 he) ?_;show (asList s (.ref j)).bind _=_;refine bnd (a:=row.map .int) (bnd (f:=j5) hs rfl) (bnd (Z8 hv) rfl)
theorem IV {o e:E}{row:List Int}{v:Int}(h1:ev X o r s=some (aD row,s))(h2:ev X e r s=some (.int v,s))(he:∀q,e≠.star q)(hv:v∈row):ev X (.bmeth o .index [e]) r s=some (.int (row.idxOf v:Nat),s) :=
 gA h1 rfl (dW h2 he) (bnd (Z8 hv) rfl)
end
namespace P05
structure HR (gs hs:List (List Int)) (s:Store):Prop where
 g:∀g∈four,s[g.toNat]?=some (dF (cU gs g))
 h:∀g∈four,s[4+g.toNat]?=some (dF (cU hs g))
theorem HR.keep {gs hs:List (List Int)}{s s':Store}(h:HR gs hs s)(k:∀j,j<8->s'[j]?=s[j]?):HR gs hs s' :=
 ⟨λg hg=>(k _ (lt_of_lt_of_le (jW g hg).1 (by decide))).trans (h.g g hg),λg hg=>(k _ (Nat.add_lt_add_left (jW g hg).1 4)).trans (h.h g hg)⟩
theorem HR.set {gs hs:List (List Int)}{s:Store}{k:Nat}{o:O}(h:HR gs hs s)(hk:8<=k):HR gs hs (s.set k o):=h.keep λj hj=>getElem?_set_ne (Nat.ne_of_gt (lt_of_lt_of_le hj hk))
theorem HR.app {gs hs:List (List Int)}{s t:Store}(h:HR gs hs s)(eQ:8<=s.length):HR gs hs (s++t):=h.keep λj hj=>getElem?_append_left (lt_of_lt_of_le hj eQ)
theorem HR.of {rows:List (List Int)}(hl:rows.length=8):HR (rows.take 4) (rows.drop 4) (rows.map dF):=by
 have key:∀j,j<8->(rows.map dF)[j]?=some (dF (rows.getD j [])):=λj hj=>by
  rw[getElem?_map,getD_eq_getElem?_getD,getElem?_eq_getElem (by rw[hl];exact hj)];rfl
 refine⟨λg hg=>(key _ (lt_of_lt_of_le (jW g hg).1 (by decide))).trans ?_,λg hg=>(key _ (Nat.add_lt_add_left (jW g hg).1 4)).trans ?_⟩
 ·unfold cU;rw[getD_eq_getElem?_getD,getD_eq_getElem?_getD,List.getElem?_take_of_lt (jW g hg).1]
 ·unfold cU;rw[getD_eq_getElem?_getD,getD_eq_getElem?_getD,List.getElem?_drop]
theorem qha {rows:List (List Int)}(hl:rows.length=8)(hp:∀w∈rows,w∈perms):gM (rows.take 4)/\gM (rows.drop 4) :=
 ⟨⟨by rw[length_take,hl];rfl,λr hr=>hp r (List.mem_of_mem_take hr)⟩,⟨by rw[length_drop,hl],λr hr=>hp r (List.mem_of_mem_drop hr)⟩⟩
theorem sI:∀r∈perms,∀v∈four,v∈r:=by decide +kernel
theorem qg2:∀r∈perms,r.length=4:=by decide +kernel
theorem pD {X:aU}{r:Loc}{s:Store}:ev X (.bi .range [.int 4]) r s=some (.rng 0 4,s):=rfl
theorem pG:treeOf (.rng 0 4)=some (four.map .int):=rfl
section
variable {X:aU}{r:Loc}{s:Store}{gs hs:List (List Int)}
theorem I9 {k:Nat}{g:Int}(g1:r[1]?=some (some gD))(gk:r[k]?=some (some (.int g)))(hg:g∈four):ev X (.idx (.var 1) (.var k)) r s=some (.ref g.toNat,s):=by
 refine eF (y:=.int g) (aO g1) (aO gk) (nZ (by have:=(jW g hg).2;exact bV (cN 0x08f0a11081011 rfl (jG this) (uB _))) ?_);rcases mem_cons.mp hg with rfl|hg
 ·rfl
 rcases mem_cons.mp hg with rfl|hg
 ·rfl
 rcases mem_cons.mp hg with rfl|hg
 ·rfl
 rcases mem_singleton.mp hg with rfl;rfl
theorem yO {k:Nat}{g:Int}(g2:r[2]?=some (some hD))(gk:r[k]?=some (some (.int g)))(hg:g∈four):ev X (.idx (.var 2) (.var k)) r s=some (.ref (4+g.toNat),s):=by
 refine eF (y:=.int g) (aO g2) (aO gk) (nZ (by have:=(jW g hg).2;exact bV (cN 0x08f0a11081011 rfl (jG this) (uB _))) ?_);rcases mem_cons.mp hg with rfl|hg
 ·rfl
 rcases mem_cons.mp hg with rfl|hg
 ·rfl
 rcases mem_cons.mp hg with rfl|hg
 ·rfl
 rcases mem_singleton.mp hg with rfl;rfl
theorem oZ {o:E}{k:Nat}{w:List Int}{g:Int}(ho:ev X o r s=some (aD w,s))(gk:r[k]?=some (some (.int g)))(hw:w[g.toNat]?=some (ix w g))(hg:g∈four):ev X (.idx o (.var k)) r s=some (.int (ix w g),s) :=
 eF (y:=.int g) ho (aO gk) (qbr (by have:=(jW g hg).2;exact bV (cN 0x08f0a11081011 rfl (jG this) (uB _))) hw)
theorem PX (w:List Int):∀g∈four,(bQ gs w)[g.toNat]?=some (ix (bQ gs w) g):=by
 intro g hg;rcases mem_cons.mp hg with rfl|hg
 ·rfl
 rcases mem_cons.mp hg with rfl|hg
 ·rfl
 rcases mem_cons.mp hg with rfl|hg
 ·rfl
 rcases mem_singleton.mp hg with rfl;rfl
theorem qeV (w:List Int):∀g∈four,(heldOf gs w)[g.toNat]?=some (ix (heldOf gs w) g):=by
 intro g hg;rcases mem_cons.mp hg with rfl|hg
 ·rfl
 rcases mem_cons.mp hg with rfl|hg
 ·rfl
 rcases mem_cons.mp hg with rfl|hg
 ·rfl
 rcases mem_singleton.mp hg with rfl;rfl
variable (hr:r.length=59)(pg:gM gs)(ph:gM hs)(B:HR gs hs s)(g1:r[1]?=some (some gD))(g2:r[2]?=some (some hD)){w:List Int}(hw:w∈perms)
include hr pg ph B g1 g2 hw
theorem qd1 (J6:r[10]?=some (some (aD w))):ev X (.comp false (.bmeth (.idx (.var 1) (.var 34)) .index [.idx (.var 10) (.var 34)]) [.mk [34] false (.e (.bi .range [.int 4])) []]) r s=some (aD (bQ gs w),s):=by
 show _=some (D.list ((four.map _).map D.int),s);rw[map_map];refine lJ (em:=D.int) (l:=four) pD pG (by decide) λg hg=>?_;have o:=(oE w hw).2 g hg;have hk:(r.set 34 (some (D.int g)))[34]?=some (some (.int g)):=by repeat' (first|assumption|exact rfl|apply ln|exact bC (by repeat' (first|assumption|apply ln)) (by decide)|refine aH ?_ rfl)
 exact yP (I9 (aH g1 rfl) hk hg) (B.g g hg) (oZ (aO (aH J6 rfl)) hk o.1 hg) (λ_=>nofun) (sI _ (pg.at hg).2 _ o.2.1)
theorem qdV (J6:r[10]?=some (some (aD w))):ev X (.comp false (.bmeth (.idx (.var 2) (.var 35)) .index [.bmeth (.var 10) .index [.var 35]]) [.mk [35] false (.e (.bi .range [.int 4])) []]) r s=some (aD (heldOf hs w),s):=by
 show _=some (D.list ((four.map _).map D.int),s);rw[map_map];refine lJ (em:=D.int) (l:=four) pD pG (by decide) λg hg=>?_;have o:=(oE w hw).2 g hg;have hk:(r.set 35 (some (D.int g)))[35]?=some (some (.int g)):=by repeat' (first|assumption|exact rfl|apply ln|exact bC (by repeat' (first|assumption|apply ln)) (by decide)|refine aH ?_ rfl)
 exact yP (yO (aH g2 rfl) hk hg) (B.h g hg) (IV (aO (aH J6 rfl)) (aO hk) (λ_=>nofun) (sI w hw g hg)) (λ_=>nofun) (sI _ (ph.at hg).2 _ o.2.2.2.1)
theorem qc1:(blk gs hs w).length<=16:=by
 have:∀l:List Int,(∀g∈l,g∈four)->(l.flatMap λg=>(((cU gs g).take (ix (bQ gs w) g).toNat).filter λh=>decide (io (cU hs h) g<ix (heldOf hs w) h)).map λ_=>g).length<=l.length*4:=λl hl=>by
  induction l with
  | nil=>exact zero_le _
  | cons a l ih =>
   have h1:=ih λg hg=>hl g (mem_cons_of_mem _ hg);have h2:=qg2 _ (pg.at (hl a mem_cons_self)).2;rw[List.flatMap_cons,length_append,length_cons,Nat.succ_mul,length_map];have h3:=length_filter_le (λh=>decide (io (cU hs h) a<ix (heldOf hs w) h)) ((cU gs a).take (ix (bQ gs w) a).toNat);rw[length_take]at h3;exact le_trans (le_of_eq (Nat.add_comm _ _)) (add_le_add h1 (le_trans h3 (le_trans (Nat.min_le_right _ _) (le_of_eq h2))))
 exact this four λ_ h=>h
theorem qdO (g11:r[11]?=some (some (aD (bQ gs w))))(g12:r[12]?=some (some (aD (heldOf hs w)))) :
  ev X (.comp false (.var 36) [.mk [36] false (.e (.bi .range [.int 4])) [],.mk [37] false (.e (.slice (.idx (.var 1) (.var 36)) .none (some (.idx (.var 11) (.var 36))))) [.cmp .Lt (.bmeth (.idx (.var 2) (.var 37)) .index [.var 36]) (.idx (.var 12) (.var 37))]]) r s=some (aD (blk gs hs w),s):=by
 have e0:aD (blk gs hs w)=.list (four.flatMap λg=>((((cU gs g).take (ix (bQ gs w) g).toNat).filter λh=>decide (io (cU hs h) g<ix (heldOf hs w) h)).map λ_=>D.int g)):=by
  unfold aD blk;rw[List.map_flatMap];refine congrArg D.list (congrArg (λf=>four.flatMap f) (funext λg=>?_));rw[map_map];rfl
 have hl:=qc1 hr pg ph B g1 g2 hw;rw[e0];refine qdl (em:=D.int) (l:=four) pD pG ?_ λg hg=>?_
 ·injection e0 with h2
  rw[<-h2,length_map];exact le_trans hl (by decide)
 ·have hk:(r.set 36 (some (D.int g)))[36]?=some (some (.int g)):=by repeat' (first|assumption|exact rfl|apply ln|exact bC (by repeat' (first|assumption|apply ln)) (by decide)|refine aH ?_ rfl)
  have W:=mD hw;have ht:=qaY _ (pg.at hg).2 _ (GF pg hg (W.wf g hg).1);have es:(ix (bQ gs w) g).toNat=Gf gs g (ix w g):=by rw[qO hg];rfl
  have h0:0<=ix (bQ gs w) g:=by rw[qO hg];exact natCast_nonneg _
  refine qd5 (em:=D.int) (l:=(cU gs g).take (ix (bQ gs w) g).toNat) (x:=.list (((cU gs g).take (ix (bQ gs w) g).toNat).map .int)) ?_ rfl (λh hh=>?_) λh hh=>aO (aH hk rfl)
  ·refine bnd (I9 (aH g1 rfl) hk hg) (bnd (a:=(.none,s)) rfl (bnd (a:=(some (.int (ix (bQ gs w) g)),s)) (bnd (oZ (aO (aH g11 rfl)) hk (PX w g hg) hg) rfl) (bnd (a:=(cU gs g).map .int) (bnd (f:=j5) (B.g g hg) rfl) (bnd (a:=((cU gs g).take (ix (bQ gs w) g).toNat).map .int) ?_ rfl))));show (if 0<=ix (bQ gs w) g then some (((cU gs g).map D.int).take _) else .none)=_;rw[if_pos h0,List.map_take]
  ·rw[es]at hh;have hf:=ht.1 h hh;have hk2:((r.set 36 (some (D.int g))).set 37 (some (D.int h)))[37]?=some (some (.int h)):=by repeat' (first|assumption|exact rfl|apply ln|exact bC (by repeat' (first|assumption|apply ln)) (by decide)|refine aH ?_ rfl)
   exact cR (x:=.int (io (cU hs h) g)) (y:=.int (ix (heldOf hs w) h)) (yP (yO (aH (aH g2 rfl) rfl) hk2 hf) (B.h h hf) (aO (aH hk rfl)) (λ_=>nofun) (sI _ (ph.at hf).2 g hg)) (oZ (aO (aH (aH g12 rfl) rfl)) hk2 (qeV w h hf) hf) rfl
end
end P05
end Internal
end
section
open PySem
set_option maxRecDepth 100000
namespace Internal
namespace P05
noncomputable def qb9:List S:=[.assign (.name 11) (.comp false (.bmeth (.idx (.var 1) (.var 34)) .index [.idx (.var 10) (.var 34)]) [.mk [34] false (.e (.bi .range [.int 4])) []]),.assign (.name 12) (.comp false (.bmeth (.idx (.var 2) (.var 35)) .index [.bmeth (.var 10) .index [.var 35]]) [.mk [35] false (.e (.bi .range [.int 4])) []]),.ife (.cmp .Eq (.comp false (.var 36) [.mk [36] false (.e (.bi .range [.int 4])) [],.mk [37] false (.e (.slice (.idx (.var 1) (.var 36)) .none (some (.idx (.var 11) (.var 36))))) [.cmp .Lt (.bmeth (.idx (.var 2) (.var 37)) .index [.var 36]) (.idx (.var 12) (.var 37))]]) (.list false [])) [.expr (.bmeth (.var 8) .append [.var 10]),.expr (.bmeth (.var 9) .append [.var 11])] []]
theorem qgS {m:Nat}{s0:Store}:bD P (m+5) 20 [aD [0,1,2,3]] s0=some (.list (perms.map aD),s0):=by
 unfold perms
 kernel_rfl
theorem GC:XX.F=bD P 29:=rfl
theorem qkF {s:Store}:XX.F 20 [aD [0,1,2,3]] s=some (.list (perms.map aD),s):=by
 have h:=qgS (m:=24) (s0:=s);exact(congrFun (congrFun (congrFun GC 20) _) _).trans h
theorem qfT {X:aU}{r:Loc}{s:Store}:evs X [.list false [.int 0,.int 1,.int 2,.int 3]] r s=some ([aD [0,1,2,3]],s):=by kernel_rfl
theorem qaX:perms.length=24:=by decide +kernel
section
variable {gs hs:List (List Int)}(pg:gM gs)(ph:gM hs)
include pg ph
theorem R9 {A K:Nat}(hA:8<=A)(hK:8<=K)(zJ:A≠K):∀(l acc:List (List Int)) {r:Loc} {s:Store},(∀w∈l,w∈perms)->acc.length+l.length<1000->r.length=59->HR gs hs s->r[1]?=some (some gD)->r[2]?=some (some hD)->r[8]?=some (some (.ref A))->r[9]?=some (some (.ref K)) ->
  s[A]?=some (.list (acc.map aD))->s[K]?=some (.list (acc.map λw=>aD (bQ gs w))) ->
  ∃(r':Loc) (s':Store),forL (exs XX 1000 qb9) (cA XX (.name 10)) (l.map aD) r s=some (.next,r',s')/\Kp [10,11,12] r r'/\HR gs hs s'/\s'[A]?=some (.list ((acc++l.filter λw=>decide (blk gs hs w=[])).map aD))/\s'[K]?=some (.list ((acc++l.filter λw=>decide (blk gs hs w=[])).map λw=>aD (bQ gs w)))
 | []=>λacc {r} {s} _ _ _ B _ _ _ _ a1 a2=>⟨r,s,rfl,Kp.refl,B,by rw[List.filter_nil,append_nil];exact a1,by rw[List.filter_nil,append_nil];exact a2⟩
 | w::l=>λacc {r} {s} hl hn hr B g1 g2 g8 g9 a1 a2=>by
  have hw:=hl w mem_cons_self;rw[length_cons]at hn;have L1:(r.set 10 (some (aD w))).length=59:=ln hr;have e1:=qd1 (X:=XX) (r:=r.set 10 (some (aD w))) (s:=s) L1 pg ph B (aH g1 rfl) (aH g2 rfl) hw (by repeat' (first|assumption|exact rfl|apply ln|exact bC (by repeat' (first|assumption|apply ln)) (by decide)|refine aH ?_ rfl));have L2:((r.set 10 (some (aD w))).set 11 (some (aD (bQ gs w)))).length=59:=ln L1;have e2:=qdV (X:=XX) (r:=(r.set 10 (some (aD w))).set 11 (some (aD (bQ gs w)))) (s:=s) L2 pg ph B (by repeat' (first|assumption|exact rfl|apply ln|exact bC (by repeat' (first|assumption|apply ln)) (by decide)|refine aH ?_ rfl)) (by repeat' (first|assumption|exact rfl|apply ln|exact bC (by repeat' (first|assumption|apply ln)) (by decide)|refine aH ?_ rfl)) hw (by repeat' (first|assumption|exact rfl|apply ln|exact bC (by repeat' (first|assumption|apply ln)) (by decide)|refine aH ?_ rfl));let r3:=((r.set 10 (some (aD w))).set 11 (some (aD (bQ gs w)))).set 12 (some (aD (heldOf hs w)));have L3:r3.length=59:=ln L2;have e3:=qdO (X:=XX) (r:=r3) (s:=s) L3 pg ph B (by repeat' (first|assumption|exact rfl|apply ln|exact bC (by repeat' (first|assumption|apply ln)) (by decide)|refine aH ?_ rfl)) (by repeat' (first|assumption|exact rfl|apply ln|exact bC (by repeat' (first|assumption|apply ln)) (by decide)|refine aH ?_ rfl)) hw (by repeat' (first|assumption|exact rfl|apply ln|exact bC (by repeat' (first|assumption|apply ln)) (by decide)|refine aH ?_ rfl)) (by repeat' (first|assumption|exact rfl|apply ln|exact bC (by repeat' (first|assumption|apply ln)) (by decide)|refine aH ?_ rfl));have K3:Kp [10,11,12] r r3:=((Kp.set rfl).trans (Kp.set rfl)).trans (Kp.set rfl);have ht:test XX (.cmp .Eq (.comp false (.var 36) [.mk [36] false (.e (.bi .range [.int 4])) [],.mk [37] false (.e (.slice (.idx (.var 1) (.var 36)) .none (some (.idx (.var 11) (.var 36))))) [.cmp .Lt (.bmeth (.idx (.var 2) (.var 37)) .index [.var 36]) (.idx (.var 12) (.var 37))]]) (.list false [])) r3 s=some (decide (blk gs hs w=[]),s) :=
   qR (cR (y:=aD []) e3 rfl (I3 _ _))
  have hl':∀v∈l,v∈perms:=λv hv=>hl v (mem_cons_of_mem _ hv);rw[filter_cons];cases hb:decide (blk gs hs w=[])
  ·rw[hb]at ht;refine eE (R9 hA hK zJ l acc (r:=r3) hl' (ltN (aB 0x10a3e8913e89ff1a0aa1 rfl hn)) L3 B (by repeat' (first|assumption|exact rfl|apply ln|exact bC (by repeat' (first|assumption|apply ln)) (by decide)|refine aH ?_ rfl)) (by repeat' (first|assumption|exact rfl|apply ln|exact bC (by repeat' (first|assumption|apply ln)) (by decide)|refine aH ?_ rfl)) (by repeat' (first|assumption|exact rfl|apply ln|exact bC (by repeat' (first|assumption|apply ln)) (by decide)|refine aH ?_ rfl)) (by repeat' (first|assumption|exact rfl|apply ln|exact bC (by repeat' (first|assumption|apply ln)) (by decide)|refine aH ?_ rfl)) a1 a2) λr' s' f1 f2 f3 f4 f5=>?_;exact⟨r',s',iB rfl (aP (cH e1) (aP (cH e2) (aP (jL ht (λq=>nomatch q) λ_=>rfl) rfl))) f1,K3.trans f2,f3,f4,f5⟩
  ·rw[hb]at ht;have b1:(s.set A (.list ((acc++[w]).map aD)))[K]?=some (.list (acc.map λw=>aD (bQ gs w))):=bB a2 zJ;refine eE (R9 hA hK zJ l (acc++[w]) (r:=r3) (s:=(s.set A (.list ((acc++[w]).map aD))).set K (.list ((acc++[w]).map λw=>aD (bQ gs w)))) hl' (by rw[length_append];show acc.length+1+l.length<1000;exact ltN (aB 0x1f0aa3e8913e89ff1a0aa1 rfl hn)) L3 ((B.set hA).set hK) (by repeat' (first|assumption|exact rfl|apply ln|exact bC (by repeat' (first|assumption|apply ln)) (by decide)|refine aH ?_ rfl)) (by repeat' (first|assumption|exact rfl|apply ln|exact bC (by repeat' (first|assumption|apply ln)) (by decide)|refine aH ?_ rfl)) (by repeat' (first|assumption|exact rfl|apply ln|exact bC (by repeat' (first|assumption|apply ln)) (by decide)|refine aH ?_ rfl)) (by repeat' (first|assumption|exact rfl|apply ln|exact bC (by repeat' (first|assumption|apply ln)) (by decide)|refine aH ?_ rfl)) (bB (cZ a1) (Ne.symm zJ)) (cZ b1)) λr' s' f1 f2 f3 f4 f5=>?_;rw[append_assoc]at f4 f5;refine⟨r',s',iB rfl (aP (cH e1) (aP (cH e2) (aP (jL ht (λ_=>?_) λq=>nomatch q) rfl))) f1,K3.trans f2,f3,f4,f5⟩;refine aP (jH (d:=.none) (s1:=s.set A (.list ((acc++[w]).map aD))) (gA (d:=.ref A) (l:=[aD w]) (aO (by repeat' (first|assumption|exact rfl|apply ln|exact bC (by repeat' (first|assumption|apply ln)) (by decide)|refine aH ?_ rfl))) (kZ a1) (dW (aO (by repeat' (first|assumption|exact rfl|apply ln|exact bC (by repeat' (first|assumption|apply ln)) (by decide)|refine aH ?_ rfl))) (λ_=>nofun)) (pJ a1 (by rw[length_map];exact ltN (aB 0x03e8913e89ff1a0aa1 rfl hn)) (by rw[map_append];rfl)))) ?_;exact aP (jH (d:=.none) (gA (d:=.ref K) (l:=[aD (bQ gs w)]) (aO (by repeat' (first|assumption|exact rfl|apply ln|exact bC (by repeat' (first|assumption|apply ln)) (by decide)|refine aH ?_ rfl))) (kZ b1) (dW (aO (by repeat' (first|assumption|exact rfl|apply ln|exact bC (by repeat' (first|assumption|apply ln)) (by decide)|refine aH ?_ rfl))) (λ_=>nofun)) (pJ b1 (by rw[length_map];exact ltN (aB 0x03e8913e89ff1a0aa1 rfl hn)) (congrArg (λl=>List.set (s.set A (.list ((acc++[w]).map aD))) K (O.list l)) (map_append (f:=λw=>aD (bQ gs w)) (l₁:=acc) (l₂:=[w])).symm)))) rfl
theorem qg0 {r:Loc}{s:Store}(hr:r.length=59)(B:HR gs hs s)(eQ:8<=s.length)(g1:r[1]?=some (some gD))(g2:r[2]?=some (some hD)) :
  ∃(r':Loc) (s':Store),(∀{zs R},exs XX 1000 zs r' s'=R->exs XX 1000 (.assign (.name 8) (.list true [])::.assign (.name 9) (.list true [])::.fore (.name 10) (.call 20 [.list false [.int 0,.int 1,.int 2,.int 3]]) qb9::.freeze 8::.freeze 9::zs) r s=R) /\
   Kp [8,9,10,11,12] r r'/\HR gs hs s'/\8<=s'.length/\r'[8]?=some (some (.list ((ways gs hs).map aD)))/\r'[9]?=some (some (.list ((seats gs hs).map aD))):=by
 let s1:Store:=s++[.list []]++[.list []];have eo:XX.F 20 [aD [0,1,2,3]] s1=some (.list (perms.map aD),s1):=qkF;have l1:(s++[O.list []]).length=s.length+1:=by rw[length_append];rfl
 have a1:s1[s.length]?=some (.list []):=eH jV;have a2:s1[s.length+1]?=some (.list []):=by rw[<-l1];exact jV
 let r1:=(r.set 8 (some (.ref s.length))).set 9 (some (.ref (s.length+1)));have L1:r1.length=59:=ln (ln hr);have B1:HR gs hs s1:=(B.app eQ).app (by rw[l1];exact aA (aK 0x88ff0aa10881 rfl eQ));refine eE (R9 pg ph (A:=s.length) (K:=s.length+1) eQ (aA (aK 0x88ff0aa10881 rfl eQ)) (λU=>(aK 0x0f0a1 rfl (aW U))) perms [] (r:=r1) (s:=s1) (λ_ h=>h) (by rw[qaX];decide) L1 B1 (aH (aH g1 rfl) rfl) (aH (aH g2 rfl) rfl) (aH (bC hr (by decide)) rfl) (bC (ln hr) (by decide)) a1 a2) λr2 s2 f1 f2 f3 f4 f5=>?_;rw[nil_append]at f4 f5;have L2:=f2.len.trans L1;have g8:r2[8]?=some (some (.ref s.length)):=f2.at_ _ _ rfl (aH (bC hr (by decide)) rfl);have g9:r2[9]?=some (some (.ref (s.length+1))):=f2.at_ _ _ rfl (bC (ln hr) (by decide));have f5':(s2.set s.length .dead)[s.length+1]?=some (.list ((perms.filter λw=>decide (blk gs hs w=[])).map λw=>aD (bQ gs w))):=bB f5 (λU=>(aK 0x0f0a1 rfl (aW U)));refine⟨(r2.set 8 (some (.list ((ways gs hs).map aD)))).set 9 (some (.list ((seats gs hs).map aD))),(s2.set s.length .dead).set (s.length+1) .dead,λ{zs R} k=>?_,?_,((f3.set eQ).set (aA (aK 0x88ff0aa10881 rfl eQ))),?_,?_,bC (ln L2) (by decide)⟩
 ·refine aP (cH (d:=.ref s.length) (s':=s++[.list []]) rfl) ?_;refine aP (r':=r1) (s':=s1) (cH (bnd (a:=([],s++[.list []])) rfl (bnd (a:=.list []) rfl (by rw[<-l1];rfl)))) ?_;refine aP (yX (l:=perms.map aD) (s':=s1) (I8 (X:=XX) (l:=[aD [0,1,2,3]]) (s1:=s1) qfT eo) f1) ?_;refine aP (yR g8 f4 rfl) ?_;refine aP (yR (aH g9 rfl) f5' rfl) ?_;rw[show (perms.filter λw=>decide (blk gs hs w=[])).map (λw=>aD (bQ gs w))=(seats gs hs).map aD from by unfold seats ways;rw[map_map];rfl];exact k
 ·refine Kp.trans ⟨?_,λi d hi g=>?_⟩ ((Kp.set (k:=8) rfl).trans (Kp.set (k:=9) rfl))
  ·exact f2.len.trans (L1.trans hr.symm)
  ·have h1:∀j∈[8,9,10,11,12],j≠i:=λj hj e=>by rw[<-e,contains_iff_mem.mpr hj]at hi;cases hi
   refine f2.at_ _ _ ?_ (jO (jO g (h1 8 (by decide))) (h1 9 (by decide)));cases q:[10,11,12].contains i
   ·rfl
   ·rw[contains_iff_mem]at q;exact absurd rfl (h1 i (by
     rcases mem_cons.mp q with e|q
     ·rw[e];decide
     rcases mem_cons.mp q with e|q
     ·rw[e];decide
     rw[mem_singleton.mp q];decide))
 ·rw[length_set,length_set];have:=q9 f4;exact aA (aB 0x88f0a118810f1a1 rfl this eQ)
 ·exact aH (bC L2 (by decide)) rfl
end
end P05
end Internal
end
section
open PySem
set_option maxRecDepth 100000
namespace Internal
section
variable {α:Type}[DecidableEq α]
noncomputable def mG (em:α->D)(m:Nat):Prop:=∀x y,bY m (em x) (em y)=some (decide (x=y))
theorem yD (m:Nat):mG D.int (m+1):=λx y=>congrArg some (Bool.eq_iff_iff.mpr (by rw[decide_eq_true_iff];exact beq_iff_eq))
theorem W6 {em:α->D}{m:Nat}(h:mG em m):∀(a b:List α),a.length=b.length->gO (bY m) (a.map em) (b.map em)=some (decide (a=b))
 | [],[],_=>rfl
 | x::a,y::b,q=>by
  show ((bY m (em x) (em y)).bind λu=>(gO (bY m) (a.map em) (b.map em)).bind λv=>some (u&&v))=_;rw[h x y,W6 h a b (Nat.succ.inj q)];show some (decide (x=y)&&decide (a=b))=_;refine congrArg some (Bool.eq_iff_iff.mpr ?_);rw[and_eq_true,decide_eq_true_iff,decide_eq_true_iff,decide_eq_true_iff,List.cons.injEq]
theorem yE {em:α->D}{m:Nat}(h:mG em m):mG (λl:List α=>D.list (l.map em)) (m+1):=λa b=>by
 show (if (a.map em).length==(b.map em).length then gO (bY m) (a.map em) (b.map em) else some false)=_;rw[length_map,length_map];by_cases q:a.length=b.length
 ·rw[if_pos (beq_iff_eq.mpr q),W6 h a b q]
 ·rw[if_neg (λe=>q (eq_of_beq e)),decide_eq_false λe=>q (by rw[e])]
theorem I6 {em:α->D}(h:mG em deep)(v:α):∀l:List α,eqs (em v) (l.map em)=some (l.map λb=>decide (b=v))
 | []=>rfl
 | b::l=>bnd (h b v) (bnd (I6 h v l) rfl)
theorem in_of {em:α->D}(h:mG em deep)(v:α)(l:List α)[Decidable (v∈l)]:pZ (em v) (l.map em)=some (decide (v∈l)):=by
 refine bnd (I6 h v l) (congrArg some ?_);rw[any_map,Bool.eq_iff_iff,any_eq_true,decide_eq_true_iff];exact⟨λ⟨a,h,e⟩=>of_decide_eq_true e▸h,λh=>⟨v,h,decide_eq_true rfl⟩⟩
theorem qfk [BEq α][LawfulBEq α]{em:α->D}(h:mG em deep){v:α}{l:List α}(hv:v∈l):zW (em v) (l.map em)=some (l.idxOf v):=by
 refine bnd (I6 h v l) ?_;show (l.map λb=>decide (b=v)).findIdx? id=_;rw[List.findIdx?_map];show l.findIdx? (λb=>decide (b=v))=_;have e:(λb=>decide (b=v))=λb=>b==v:=funext λb=>Bool.eq_iff_iff.mpr (by rw[decide_eq_true_iff,beq_iff_eq]);rw[e];exact List.findIdx?_eq_some_iff_findIdx_eq.mpr ⟨idxOf_lt_length_of_mem hv,rfl⟩
end
theorem qdL:mG aD deep:=yE (yD 6)
noncomputable def bZ (l:List (List Int)):D:=.list (l.map aD)
theorem yF:mG bZ deep:=yE (yE (yD 5))
noncomputable def pairD (e:Int×Int):D:=.tup [.int e.1,.int e.2]
theorem qdJ (m:Nat):mG pairD (m+2):=λx y=>by
 show (if true then some ((x.1==y.1)&&((x.2==y.2)&&true)) else .none)=_;rw[if_pos rfl,Bool.and_true];refine congrArg some (Bool.eq_iff_iff.mpr ?_);rw[and_eq_true,beq_iff_eq,beq_iff_eq,decide_eq_true_iff,Prod.ext_iff]
namespace P05
noncomputable def fH (c:dK):D:=.list (c.map pairD)
theorem qdK:mG fH deep:=yE (qdJ 5)
noncomputable def nT (p q:List Int):Bool:=!decide (p=q)&&decide ((four.filter λg=>decide (ix q g<ix p g))=[])
theorem u9 {p q:List Int}:nT p q=true↔p≠q/\iW p q:=by
 unfold nT;rw[and_eq_true,decide_eq_true_iff,List.filter_eq_nil_iff,not_eq_true',decide_eq_false_iff_not];refine and_congr_right λ_=>forall_congr' λg=>forall_congr' λhg=>?_;rw[decide_eq_true_iff];exact not_lt
noncomputable def nJ (p:List Int):Prop:=∀g∈four,p[g.toNat]?=some (ix p g)
theorem qcW {m:Nat}{s:Store}{p q:List Int}(hp:nJ p)(hq:nJ q):bD P (m+1) 27 [aD p,aD q] s=some (.bool (nT p q),s):=by
 apply call_of (fn:=yU) (r:=[some (aD p),some (aD q),.none]) rfl rfl rfl;refine oF (vM (cR (x:=aD p) (y:=aD q) rfl rfl (MK p q)) λ_=>cR (y:=aD []) (x:=aD (four.filter λg=>decide (ix q g<ix p g))) ?_ rfl (I3 _ _));refine oY (em:=D.int) (l:=four) (g:=D.int) (b:=λg=>decide (ix q g<ix p g)) pD pG (by decide) (λg hg=>?_) λg hg=>rfl;exact cR (x:=.int (ix p g)) (y:=.int (ix q g)) (oZ (w:=p) rfl rfl (hp g hg) hg) (oZ (w:=q) rfl rfl (hq g hg) hg) rfl
theorem qkD {s:Store}{p q:List Int}(hp:nJ p)(hq:nJ q):XX.F 27 [aD p,aD q] s=some (.bool (nT p q),s) :=
 (congrFun (congrFun (congrFun GC 27) _) _).trans (qcW (m:=28) hp hq)
theorem I7 {r:Loc}{s:Store}{p q:List Int}{i j:Nat}(hp:nJ p)(hq:nJ q)(gi:r[i]?=some (some (aD p)))(gj:r[j]?=some (some (aD q))):ev XX (.call 27 [.var i,.var j]) r s=some (.bool (nT p q),s) :=
 I8 (vP (aO gi) (λ_=>nofun) (aO gj) (λ_=>nofun)) (qkD hp hq)
noncomputable def pM (L:List (List Int))(p q:List Int):Bool:=nT p q&&decide ((L.filter λr=>nT p r&&nT r q)=[])
noncomputable def oV (acc:List dK)(c:dK):List dK:=if c∈acc then acc else acc++[c]
noncomputable def oG (L:List (List Int))(p:List Int)(acc:List dK)(l:List (List Int)):List dK:=l.foldl (λacc q=>if pM L p q then oV acc (cG p q) else acc) acc
noncomputable def bR (L:List (List Int)):List dK:=L.foldl (λacc p=>oG L p acc L) []
theorem VB {L:List (List Int)}{p q:List Int}(hp:p∈L)(hq:q∈L):pM L p q=true↔gV L p q:=by
 unfold pM;rw[and_eq_true,decide_eq_true_iff,List.filter_eq_nil_iff,u9];constructor
 ·rintro⟨⟨h1,h2⟩,h3⟩;refine⟨hp,hq,h1,h2,λr hr a b=>?_⟩;by_cases e:p=r
  ·exact .inl e.symm
  by_cases e2:r=q
  ·exact .inr e2
  exact absurd (and_eq_true_iff.mpr ⟨u9.mpr ⟨e,a⟩,u9.mpr ⟨e2,b⟩⟩) (h3 r hr)
 ·intro c;refine⟨⟨c.ne,c.le⟩,λr hr q=>?_⟩;refine bI (and_eq_true_iff.mp q) λa b=>?_;refine bI (u9.mp a) λa1 a2=>?_;refine bI (u9.mp b) λb1 b2=>?_;exact(c.btw r hr a2 b2).elim (λe=>a1 e.symm) b1
theorem qcC {acc:List dK}{c d:dK}:d∈oV acc c↔d∈acc\/d=c:=by
 unfold oV;split
 ·rename_i h;exact⟨.inl,λq=>q.elim id λe=>e▸h⟩
 ·rw[mem_append,mem_singleton]
theorem qcD {acc:List dK}{c:dK}(h:acc.Nodup):(oV acc c).Nodup:=by
 unfold oV;split
 ·exact h
 ·rename_i q;exact nodup_append.mpr ⟨h,nodup_cons.mpr ⟨not_mem_nil,nodup_nil⟩,λa ha b hb e=>q (by rw[<-mem_singleton.mp hb,<-e];exact ha)⟩
theorem qcB {acc:List dK}{c:dK}:(oV acc c).length<=acc.length+1:=by
 unfold oV;split
 ·exact le_succ _
 ·rw[length_append];exact le_refl _
theorem DN {L:List (List Int)}{p:List Int}:∀(l:List (List Int)) {acc:List dK},acc.Nodup->(oG L p acc l).Nodup/\(∀d,d∈oG L p acc l↔d∈acc\/∃q∈l,pM L p q=true/\d=cG p q)/\(oG L p acc l).length<=acc.length+l.length
 | [],acc,h=>⟨h,λd=>⟨.inl,λq=>q.elim id λ⟨_,h,_⟩=>absurd h not_mem_nil⟩,le_refl _⟩
 | q::l,acc,h=>by
  unfold oG;rw[foldl_cons];cases c:pM L p q
  ·rw[if_neg Bool.false_ne_true];refine cQ (DN (L:=L) (p:=p) l h) λh1 h2 h3=>?_;refine⟨h1,λd=>(h2 d).trans ?_,le_trans h3 (by rw[length_cons];exact aA (aB 0x10aff1a0aa1 rfl))⟩;refine or_congr_right ⟨λ⟨q',a,b⟩=>⟨q',mem_cons_of_mem _ a,b⟩,λ⟨q',a,b⟩=>?_⟩;rcases mem_cons.mp a with rfl|a
   ·rw[c]at b;exact absurd b.1 Bool.false_ne_true
   ·exact⟨q',a,b⟩
  ·rw[if_pos rfl];refine cQ (DN (L:=L) (p:=p) l (qcD (c:=cG p q) h)) λh1 h2 h3=>?_;have:=qcB (acc:=acc) (c:=cG p q);refine⟨h1,λd=>(h2 d).trans ?_,le_trans h3 (by rw[length_cons];exact aA (aC 0x12aff1a0aa1f0a21 rfl this))⟩;rw[qcC,or_assoc];refine or_congr_right ⟨λh=>?_,λ⟨q',a,b⟩=>?_⟩
   ·rcases h with rfl|⟨q',a,b⟩
    ·exact⟨q,mem_cons_self,c,rfl⟩
    ·exact⟨q',mem_cons_of_mem _ a,b⟩
   ·rcases mem_cons.mp a with rfl|a
    ·exact .inl b.2
    ·exact .inr ⟨q',a,b⟩
theorem PP {L:List (List Int)}:∀(l:List (List Int)) {acc:List dK},acc.Nodup->(l.foldl (λacc p=>oG L p acc L) acc).Nodup/\∀d,d∈l.foldl (λacc p=>oG L p acc L) acc↔d∈acc\/∃p∈l,∃q∈L,pM L p q=true/\d=cG p q
 | [],acc,h=>⟨h,λd=>⟨.inl,λq=>q.elim id λ⟨_,h,_⟩=>absurd h not_mem_nil⟩⟩
 | p::l,acc,h=>by
  rw[foldl_cons];refine cQ (DN (L:=L) (p:=p) L h) λa1 a2 _=>?_;refine bI (PP (L:=L) l a1) λh1 h2=>?_;refine⟨h1,λd=>(h2 d).trans ?_⟩;rw[a2,or_assoc];refine or_congr_right ⟨λh=>?_,λ⟨q',a,b⟩=>?_⟩
  ·rcases h with h|⟨q',a,b⟩
   ·exact⟨p,mem_cons_self,h⟩
   ·exact⟨q',mem_cons_of_mem _ a,b⟩
  ·rcases mem_cons.mp a with rfl|a
   ·exact .inl b
   ·exact .inr ⟨q',a,b⟩
theorem qbn {L:List (List Int)}:(bR L).Nodup:=(PP (L:=L) L nodup_nil).1
theorem qN {L:List (List Int)}:(∀c∈bR L,∃p q,gV L p q/\c=cG p q)/\∀p q,gV L p q->cG p q∈bR L:=by
 have h:=(PP (L:=L) L nodup_nil).2;refine⟨λc hc=>?_,λp q c=>(h _).mpr (.inr ⟨p,c.pl,q,c.ql,(VB c.pl c.ql).mpr c,rfl⟩)⟩;rcases(h c).mp hc with hc|⟨p,hp,q,hq,h1,h2⟩
 ·exact absurd hc not_mem_nil
 ·exact⟨p,q,(VB hp hq).mp h1,h2⟩
noncomputable def qbj:E:=.comp false (.tup [.var 39,.idx (.var 14) (.var 39)]) [.mk [39] false (.e (.bi .range [.int 4])) [.cmp .NotEq (.idx (.var 14) (.var 39)) (.idx (.var 15) (.var 39))]]
noncomputable def V9:E:=.and (.call 27 [.var 14,.var 15]) (.cmp .Eq (.comp false (.var 38) [.mk [38] false (.e (.var 9)) [.and (.call 27 [.var 14,.var 38]) (.call 27 [.var 38,.var 15])]]) (.list false []))
noncomputable def PN:List S:=[.ife V9 [.assign (.name 16) qbj,.ife (.cmp .NotIn (.var 16) (.var 13)) [.expr (.bmeth (.var 13) .append [.var 16])] []] []]
section
variable {L:List (List Int)}(hL:∀p∈L,nJ p)(hn:L.length<=24){r:Loc}{s:Store}(hr:r.length=59)(g9:r[9]?=some (some (bZ L))){p q:List Int}(hp:p∈L)(hq:q∈L)(mW:r[14]?=some (some (aD p)))(zA:r[15]?=some (some (aD q)))
include hL hn hr g9 hp hq mW zA
theorem qdP:ev XX V9 r s=some (.bool (pM L p q),s):=by
 refine vM (I7 (hL p hp) (hL q hq) mW zA) λ_=>cR (x:=bZ (L.filter λr=>nT p r&&nT r q)) (y:=bZ []) ?_ rfl (yF _ _);refine oY (em:=aD) (l:=L) (g:=aD) (aO g9) rfl (le_trans hn (by decide)) (λv hv=>?_) λv hv=>aO (by repeat' (first|assumption|exact rfl|apply ln|exact bC (by repeat' (first|assumption|apply ln)) (by decide)|refine aH ?_ rfl));exact vM (I7 (hL p hp) (hL v hv) (aH mW rfl) (by repeat' (first|assumption|exact rfl|apply ln|exact bC (by repeat' (first|assumption|apply ln)) (by decide)|refine aH ?_ rfl))) λ_=>I7 (hL v hv) (hL q hq) (by repeat' (first|assumption|exact rfl|apply ln|exact bC (by repeat' (first|assumption|apply ln)) (by decide)|refine aH ?_ rfl)) (aH zA rfl)
theorem qd0:ev XX qbj r s=some (fH (cG p q),s):=by
 unfold fH cG;rw[map_map];refine oY (em:=D.int) (l:=four) (b:=λg=>ix p g != ix q g) pD pG (by decide) (λg hg=>?_) λg hg=>?_
 all_goals have hk:(r.set 39 (some (D.int g)))[39]?=some (some (.int g)):=by repeat' (first|assumption|exact rfl|apply ln|exact bC (by repeat' (first|assumption|apply ln)) (by decide)|refine aH ?_ rfl)
 ·exact cR (x:=.int (ix p g)) (y:=.int (ix q g)) (oZ (aO (aH mW rfl)) hk (hL p hp g hg) hg) (oZ (aO (aH zA rfl)) hk (hL q hq g hg) hg) rfl
 ·exact bnd (vP (aO hk) (λ_=>nofun) (oZ (aO (aH mW rfl)) hk (hL p hp g hg) hg) (λ_=>nofun)) rfl
end
end P05
theorem Kp.mono {ks ks':List Nat}{r r':Loc}(h:Kp ks r r')(hk:ks.all (λi=>ks'.contains i)=true):Kp ks' r r':=⟨h.len,λi d hi g=>h.at_ i d (by
 cases q:ks.contains i
 ·rfl
 ·have:=all_eq_true.mp hk i (contains_iff_mem.mp q);rw[hi]at this;cases this) g⟩
namespace P05
section
variable {L:List (List Int)}(hL:∀p∈L,nJ p)(hn:L.length<=24)
include hL hn
theorem DK {K:Nat}{p:List Int}(hp:p∈L):∀(l:List (List Int)) {acc:List dK} {r:Loc} {s:Store},(∀q∈l,q∈L)->acc.length+l.length<1000->r.length=59->r[9]?=some (some (bZ L))->r[14]?=some (some (aD p))->r[13]?=some (some (.ref K))->s[K]?=some (.list (acc.map fH)) ->
  ∃(r':Loc) (s':Store),forL (exs XX 1000 PN) (cA XX (.name 15)) (l.map aD) r s=some (.next,r',s')/\Kp [15,16] r r'/\s'[K]?=some (.list ((oG L p acc l).map fH))/\aV (·=K) s s'
 | [],acc,r,s,_,_,_,_,_,_,a=>⟨r,s,rfl,Kp.refl,a,aV.refl⟩
 | q::l,acc,r,s,hl,hb,hr,g9,mW,lQ,a=>by
  have hq:=hl q mem_cons_self;have hl':∀v∈l,v∈L:=λv hv=>hl v (mem_cons_of_mem _ hv);rw[length_cons]at hb;have L1:(r.set 15 (some (aD q))).length=59:=ln hr;have SM:(r.set 15 (some (aD q)))[15]?=some (some (aD q)):=bC hr (by decide);have ec:=qdP hL hn (r:=r.set 15 (some (aD q))) (s:=s) L1 (aH g9 rfl) hp hq (aH mW rfl) SM;have er:=qd0 hL hn (r:=r.set 15 (some (aD q))) (s:=s) L1 (aH g9 rfl) hp hq (aH mW rfl) SM;unfold oG;rw[foldl_cons];cases c:pM L p q
  ·rw[c]at ec;rw[if_neg Bool.false_ne_true];refine c7 (DK hp l (acc:=acc) (r:=r.set 15 (some (aD q))) (s:=s) hl' (ltN (aB 0x10a3e8913e89ff1a0aa1 rfl hb)) L1 (aH g9 rfl) (aH mW rfl) (aH lQ rfl) a) λr' s' f1 f2 f3 f4=>?_;exact⟨r',s',iB rfl (aP (lU ec) rfl) f1,(Kp.set rfl).trans f2,f3,f4⟩
  ·rw[c]at ec;rw[if_pos rfl];let r2:=(r.set 15 (some (aD q))).set 16 (some (fH (cG p q)));have L2:r2.length=59:=ln L1;have K2:Kp [15,16] r r2:=(Kp.set rfl).trans (Kp.set rfl);have SN:r2[16]?=some (some (fH (cG p q))):=bC L1 (by decide);have s8:r2[13]?=some (some (.ref K)):=aH (aH lQ rfl) rfl;have hin:ev XX (.cmp .NotIn (.var 16) (.var 13)) r2 s=some (.bool (!decide (cG p q∈acc)),s) :=
    cR (aO SN) (aO s8) (bnd (show isIn s (fH (cG p q)) (.ref K)=some (decide (cG p q∈acc)) from bnd (f:=zU (fH (cG p q))) a (in_of qdK _ _)) rfl)
   by_cases hm:cG p q∈acc
   ·rw[decide_eq_true hm]at hin;rw[show oV acc (cG p q)=acc from if_pos hm];refine c7 (DK hp l (acc:=acc) (r:=r2) (s:=s) hl' (ltN (aB 0x10a3e8913e89ff1a0aa1 rfl hb)) L2 (aH (aH g9 rfl) rfl) (aH (aH mW rfl) rfl) s8 a) λr' s' f1 f2 f3 f4=>?_;exact⟨r',s',iB rfl (aP (jL (qR ec) (λ_=>aP (cH er) (aP (lU hin) rfl)) λq=>nomatch q) rfl) f1,K2.trans f2,f3,f4⟩
   ·rw[decide_eq_false hm]at hin;rw[show oV acc (cG p q)=acc++[cG p q] from if_neg hm];refine c7 (DK hp l (acc:=acc++[cG p q]) (r:=r2) (s:=s.set K (.list ((acc++[cG p q]).map fH))) hl' (by rw[length_append];show acc.length+1+l.length<1000;exact ltN (aB 0x1f0aa3e8913e89ff1a0aa1 rfl hb)) L2 (aH (aH g9 rfl) rfl) (aH (aH mW rfl) rfl) s8 (cZ a)) λr' s' f1 f2 f3 f4=>?_;refine⟨r',s',iB rfl (aP (jL (qR ec) (λ_=>aP (cH er) (aP (jL (qR hin) (λ_=>aP (jH (d:=.none) ?_) rfl) λq=>nomatch q) rfl)) λq=>nomatch q) rfl) f1,K2.trans f2,f3,(aV.set (Y:=(·=K)) rfl).trans f4⟩;exact gA (d:=.ref K) (l:=[fH (cG p q)]) (aO s8) (kZ a) (dW (aO SN) (λ_=>nofun)) (pJ a (by rw[length_map];exact ltN (aB 0x03e8913e89ff1a0aa1 rfl hb)) (by rw[map_append];rfl))
theorem qbm {K:Nat}:∀(l:List (List Int)) {acc:List dK} {r:Loc} {s:Store},(∀q∈l,q∈L)->acc.Nodup->acc.length+l.length*24<1000->r.length=59->r[9]?=some (some (bZ L))->r[13]?=some (some (.ref K))->s[K]?=some (.list (acc.map fH)) ->
  ∃(r':Loc) (s':Store),forL (exs XX 1000 [.fore (.name 15) (.var 9) PN]) (cA XX (.name 14)) (l.map aD) r s=some (.next,r',s')/\Kp [14,15,16] r r'/\s'[K]?=some (.list ((l.foldl (λacc p=>oG L p acc L) acc).map fH))/\aV (·=K) s s'
 | [],acc,r,s,_,_,_,_,_,_,a=>⟨r,s,rfl,Kp.refl,a,aV.refl⟩
 | p::l,acc,r,s,hl,hnd,hb,hr,g9,lQ,a=>by
  rw[length_cons,Nat.succ_mul]at hb;refine hide λH gH=>?_;refine c7 (DK hL hn (hl p mem_cons_self) L (acc:=acc) (r:=r.set 14 (some (aD p))) (s:=s) (λ_ h=>h) (lt_of_le_of_lt (Nat.add_le_add_left (le_trans hn (Nat.le_add_left _ _)) _) hb) (ln hr) (aH g9 rfl) (bC hr (by decide)) (aH lQ rfl) a) λr1 s1 f1 f2 f3 f4=>?_;have K1:Kp [14,15,16] r r1:=(Kp.set rfl).trans (f2.mono rfl);refine cQ (DN (L:=L) (p:=p) L hnd) λk1 k2 k3=>?_;refine c7 (qbm l (r:=r1) (s:=s1) (λq hq=>hl q (mem_cons_of_mem _ hq)) k1 (lt_of_le_of_lt (le_trans (Nat.add_le_add_right (le_trans k3 (Nat.add_le_add_left hn _)) _) (le_of_eq (by rw[add_assoc,Nat.add_comm 24]))) hb) (K1.len.trans hr) (K1.at_ _ _ rfl g9) (K1.at_ _ _ rfl lQ) f3) λr2 s2 e1 e2 e3 e4=>?_;refine gH ?_;exact⟨r2,s2,iB rfl (aP (yX (l:=L.map aD) (aO (aH g9 rfl)) f1) rfl) e1,K1.trans e2,e3,f4.trans e4⟩
theorem qgZ {gs hs:List (List Int)}{r:Loc}{s:Store}(hr:r.length=59)(B:HR gs hs s)(eQ:8<=s.length)(g9:r[9]?=some (some (bZ L))) :
  ∃(r':Loc) (s':Store),(∀{zs R},exs XX 1000 zs r' s'=R->exs XX 1000 (.assign (.name 13) (.list true [])::.fore (.name 14) (.var 9) [.fore (.name 15) (.var 9) PN]::.freeze 13::zs) r s=R)/\Kp [13,14,15,16] r r'/\HR gs hs s'/\8<=s'.length/\r'[13]?=some (some (.list ((bR L).map fH))):=by
 have a1:(s++[O.list []])[s.length]?=some (.list []):=jV;refine c7 (qbm hL hn L (acc:=[]) (r:=r.set 13 (some (.ref s.length))) (s:=s++[.list []]) (λ_ h=>h) nodup_nil (by rw[length_nil];exact lt_of_le_of_lt (le_of_eq (zero_add _)) (lt_of_le_of_lt (Nat.mul_le_mul_right 24 hn) (by decide))) (ln hr) (aH g9 rfl) (bC hr (by decide)) a1) λr1 s1 f1 f2 f3 f4=>?_;have L1:=f2.len.trans (ln hr);have s8:r1[13]?=some (some (.ref s.length)):=f2.at_ _ _ rfl (bC hr (by decide));refine⟨r1.set 13 (some (.list ((bR L).map fH))),s1.set s.length .dead,λ{zs R} k=>?_,((Kp.set rfl).trans (f2.mono rfl)).trans (Kp.set rfl),HR.set ((B.app (t:=[.list []]) eQ).keep λj hj=>?_) eQ,?_,bC L1 (by decide)⟩
 ·refine aP (cH (d:=.ref s.length) (s':=s++[.list []]) rfl) (aP (yX (l:=L.map aD) (aO (aH g9 rfl)) f1) (aP (yR s8 f3 rfl) k))
 ·exact f4.2 j (by rw[length_append];exact ltN (aC 0x210a1088188f2a1 rfl hj eQ)) (λU=>(aB 0x088188f1a1101 rfl (aW U) hj eQ))
 ·rw[length_set];have:=f4.1;rw[length_append]at this;exact aA (aC 0x88f0a11881021a1 rfl this eQ)
end
noncomputable def heads:List (Int×Int):=[(0,0),(0,1),(0,2),(1,0),(1,1),(1,2),(2,0),(2,1),(2,2),(3,0),(3,1),(3,2)]
theorem qeU:∀g∈four,∀v∈four,∀u∈four,v<u->(g,v)∈heads:=by decide
section
variable {L:List (List Int)}(hL:sY L)(h4:∀p∈L,∀g∈four,ix p g∈four)
include hL h4
theorem qbl {c:dK}(hc:c∈bR L):∃e l,c=e::l/\e∈heads/\e.1∈four:=by
 refine hide λH gH=>?_;obtain⟨p,q,cv,rfl⟩:=qN.1 c hc;refine bM (first hL cv) λg hg l e=>?_;refine aF (differ hL cv) λg' hg' l'=>?_;refine gH ?_;have hm:(g',ix p g')∈cG p q:=mem_map.mpr ⟨g',mem_filter.mpr ⟨hg',bne_iff_ne.mpr (Int.ne_of_lt l')⟩,rfl⟩;cases q2:cG p q with
 | nil=>rw[q2]at hm;cases hm
 | cons e0 r =>
  rw[q2]at e;have e:e0=(g,ix p g):=e;refine⟨e0,r,rfl,?_,?_⟩
  ·rw[e];exact qeU g hg _ (h4 p cv.pl g hg) _ (h4 q cv.ql g hg) l
  ·rw[e];exact hg
theorem DP:(bR L).length<=12:=by
 have hnd:((bR L).map λc=>c.headD (0,0)).Nodup:=pairwise_map.mpr (qbn.imp_of_mem λ{c d} hc hd hne e=>hne (by
  refine hide λH gH=>?_;refine fM (qN.1 c hc) λp q cv e1=>?_;refine fM (qN.1 d hd) λp' q' cv' e2=>?_;refine gH ?_;rw[e1,e2];refine qbk hL cv cv' λs _=>?_;rw[<-e1,<-e2];unfold cI;rw[e]))
 have:=List.Nodup.length_le_of_subset (l₂:=heads) hnd λx hx=>by
  refine hide λH gH=>?_;obtain⟨c,hc,rfl⟩:=mem_map.mp hx;obtain⟨e,l,rfl,h1,_⟩:=qbl hL h4 hc;refine gH ?_;exact h1
 rw[length_map]at this;exact this
end
theorem PT (n:Nat):gU 0 n=(every n).map .int:=by
 unfold gU every;rw[map_map,Int.sub_zero];exact map_congr_left λi _=>congrArg D.int (Int.zero_add _)
theorem FZ (n:Nat):treeOf (.rng 0 n)=some ((every n).map .int):=congrArg some (PT n)
theorem lM (n:Nat):(every n).length=n:=by unfold every;rw[length_map,List.length_range]
theorem qiD:∀l:List Int,(gK [[]] l).length=2^l.length:=by
 intro l;rw[<-List.reverse_reverse l];generalize l.reverse=m
 induction m with
 | nil=>rfl
 | cons k m ih =>
  rw[reverse_cons,DW,length_append,length_map,ih,length_append,List.length_singleton,Nat.pow_succ];exact bG (aA (aK 0x00af02ca1 rfl)) (aA (aK 0x02cf00aa1 rfl))
end P05
end Internal
end
section
open PySem
set_option maxRecDepth 100000
namespace Internal
namespace P05
theorem ne_int (j k:Int)(s:Store):cmpOp s .NotEq (.int j) (.int k)=some (!decide (j=k)):=by
 show (bY deep (.int j) (.int k)).bind (λr=>some (!r))=_;rw[show bY deep (.int j) (.int k)=some (decide (j=k)) from yD 7 j k];rfl
theorem qcT {n:Nat}{α:Type}{f:Int->α}{k:Int}(hk:k∈every n):0<=k/\((every n).map f)[k.toNat]?=some (f k):=by
 obtain⟨i,hi,rfl⟩:=qI.mp hk;refine⟨natCast_nonneg _,?_⟩;unfold every;rw[toNat_natCast,getElem?_map,getElem?_map,List.getElem?_range hi];rfl
section
variable {L:List (List Int)}(hL:sY L)(h4:∀p∈L,∀g∈four,ix p g∈four)(hG:∀p∈L,nJ p)(hn:L.length<=24){r:Loc}{s:Store}(hr:r.length=59)
include hL h4
theorem qdS {r:Loc}{s:Store}{k:Int}{j:Nat}(hk:k∈every (bR L).length)(lQ:r[13]?=some (some (.list ((bR L).map fH))))(gj:r[j]?=some (some (.int k))) :
  ∃e:Int×Int,(rg (bR L) k).headD (0,0)=e/\e.1∈four/\ev XX (.idx (.idx (.idx (.var 13) (.var j)) (.int 0)) (.int 0)) r s=some (.int e.1,s)/\ev XX (.idx (.idx (.idx (.var 13) (.var j)) (.int 0)) (.int 1)) r s=some (.int e.2,s):=by
 refine cY (qbl hL h4 (uG hk)) λe l h1 _ h3=>?_;obtain⟨i,hi,rfl⟩:=qI.mp hk;have hg:((bR L).map fH)[((i:Nat):Int).toNat]?=some (fH (rg (bR L) ((i:Nat):Int))):=by
  show _=some (fH ((bR L).getD i []));rw[toNat_natCast,getElem?_map,getD_eq_getElem?_getD,getElem?_eq_getElem hi];rfl
 have e1:ev XX (.idx (.idx (.var 13) (.var j)) (.int 0)) r s=some (pairD e,s):=by
  refine eF (x:=fH (e::l)) (y:=.int 0) ?_ rfl rfl;rw[<-h1];exact eF (aO lQ) (aO gj) (nZ (natCast_nonneg _) hg)
 exact⟨e,by rw[h1];rfl,h3,eF (y:=.int 0) e1 rfl rfl,eF (y:=.int 1) e1 rfl rfl⟩
include hG hn hr
theorem qdT (g9:r[9]?=some (some (bZ L)))(lQ:r[13]?=some (some (.list ((bR L).map fH))))(g17:r[17]?=some (some (.rng 0 (bR L).length))) :
  ev XX (.comp false (.comp false (.var 41) [.mk [41] false (.e (.var 17)) [.cmp .Gt (.idx (.var 40) (.idx (.idx (.idx (.var 13) (.var 41)) (.int 0)) (.int 0))) (.idx (.idx (.idx (.var 13) (.var 41)) (.int 0)) (.int 1))]]) [.mk [40] false (.e (.var 9)) []]) r s=some (bZ (L.map (cT (bR L))),s):=by
 unfold bZ;rw[map_map];refine lJ (em:=aD) (l:=L) (aO g9) rfl (le_trans hn (by decide)) λp hp=>?_;refine oY (em:=D.int) (l:=every (bR L).length) (b:=λk=>cI (rg (bR L) k) p) (g:=D.int) (aO (by repeat' (first|assumption|exact rfl|apply ln|exact bC (by repeat' (first|assumption|apply ln)) (by decide)|refine aH ?_ rfl))) (FZ _) (by rw[lM];exact le_trans (DP hL h4) (by decide)) (λk hk=>?_) λk hk=>aO (by repeat' (first|assumption|exact rfl|apply ln|exact bC (by repeat' (first|assumption|apply ln)) (by decide)|refine aH ?_ rfl));refine cL (qdS hL h4 (r:=(r.set 40 (some (aD p))).set 41 (some (D.int k))) (s:=s) (j:=41) hk (aH (aH lQ rfl) rfl) (by repeat' (first|assumption|exact rfl|apply ln|exact bC (by repeat' (first|assumption|apply ln)) (by decide)|refine aH ?_ rfl))) λe h1 h2 h3 h5=>?_;refine cR (x:=.int (ix p e.1)) (y:=.int e.2) (eF (x:=aD p) (y:=.int e.1) (aO (by repeat' (first|assumption|exact rfl|apply ln|exact bC (by repeat' (first|assumption|apply ln)) (by decide)|refine aH ?_ rfl))) h3 (qbr (by have:=(jW _ h2).2;exact bV (cN 0x08f0a11081011 rfl (jG this) (uB _))) (hG p hp _ h2))) h5 ?_;unfold cI;rw[h1];rfl
omit hL h4 hG hn hr
noncomputable def qaL:List S:=[.expr (.bmeth (.var 19) .append [.comp false (.var 42) [.mk [42] false (.e (.var 17)) [.and (.cmp .NotEq (.var 42) (.var 7)) (.cmp .Eq (.comp false (.var 43) [.mk [43] false (.e (.var 18)) [.and (.cmp .In (.var 7) (.var 43)) (.cmp .NotIn (.var 42) (.var 43))]]) (.list false []))]]]),.assign (.name 20) (.bin .Add (.var 20) (.comp false (.bin .Add (.var 44) (.list false [.var 7])) [.mk [44] false (.e (.var 20)) []]))]
include hr
theorem qdX {n:Nat}(o5:n<=12){gone:List (List Int)}(iU:gone.length<=24){k:Int}(g7:r[7]?=some (some (.int k)))(g17:r[17]?=some (some (.rng 0 n)))(g18:r[18]?=some (some (bZ gone))) :
  ev XX (.comp false (.var 42) [.mk [42] false (.e (.var 17)) [.and (.cmp .NotEq (.var 42) (.var 7)) (.cmp .Eq (.comp false (.var 43) [.mk [43] false (.e (.var 18)) [.and (.cmp .In (.var 7) (.var 43)) (.cmp .NotIn (.var 42) (.var 43))]]) (.list false []))]]) r s=some (aD (iJ (every n) gone k),s):=by
 refine oY (em:=D.int) (l:=every n) (g:=D.int) (aO g17) (FZ n) (by rw[lM];exact le_trans o5 (by decide)) (λj hj=>?_) λj hj=>aO (by repeat' (first|assumption|exact rfl|apply ln|exact bC (by repeat' (first|assumption|apply ln)) (by decide)|refine aH ?_ rfl));have XK:(r.set 42 (some (D.int j)))[42]?=some (some (.int j)):=by repeat' (first|assumption|exact rfl|apply ln|exact bC (by repeat' (first|assumption|apply ln)) (by decide)|refine aH ?_ rfl)
 have e:(decide (j≠k)&&(gone.filter λone=>one.contains k&&!one.contains j).isEmpty)=(!decide (j=k)&&decide ((gone.filter λone=>one.contains k&&!one.contains j)=[])):=by
  rw[Bool.eq_iff_iff,and_eq_true,and_eq_true,decide_eq_true_iff,List.isEmpty_iff,decide_eq_true_iff,not_eq_true',decide_eq_false_iff_not]
 rw[e];refine vM (cR (x:=.int j) (y:=.int k) (aO XK) (aO (aH g7 rfl)) (ne_int j k s)) λ_=>cR (x:=bZ (gone.filter λone=>one.contains k&&!one.contains j)) (y:=bZ []) ?_ rfl (yF _ _);refine oY (em:=aD) (l:=gone) (g:=aD) (aO (aH g18 rfl)) rfl (le_trans iU (by decide)) (λone _=>?_) λone _=>aO (by repeat' (first|assumption|exact rfl|apply ln|exact bC (by repeat' (first|assumption|apply ln)) (by decide)|refine aH ?_ rfl));have XM:((r.set 42 (some (D.int j))).set 43 (some (aD one)))[43]?=some (some (aD one)):=by repeat' (first|assumption|exact rfl|apply ln|exact bC (by repeat' (first|assumption|apply ln)) (by decide)|refine aH ?_ rfl)
 exact vM (cR (aO (aH (aH g7 rfl) rfl)) (aO XM) (JS k one s)) λ_=>cR (aO (aH XK rfl)) (aO XM) (qaO j one s)
theorem qdW {S:List (List Int)}(hS:S.length<=4096)(hS2:∀x∈S,x.length<=12){k:Int}(g7:r[7]?=some (some (.int k)))(nW:r[20]?=some (some (bZ S))) :
  ev XX (.bin .Add (.var 20) (.comp false (.bin .Add (.var 44) (.list false [.var 7])) [.mk [44] false (.e (.var 20)) []])) r s=some (bZ (S++S.map (·++[k])),s):=by
 have e:bZ (S++S.map (·++[k]))=.list (S.map aD++S.map λx=>aD (x++[k])):=by
  unfold bZ;rw[map_append,map_map];rfl
 rw[e];refine xJ (l:=S.map aD) (aO nW) (lJ (em:=aD) (l:=S) (aO nW) rfl (le_trans hS (by decide)) λx hx=>?_) ?_
 ·have e2:aD (x++[k])=.list (x.map D.int++[D.int k]):=by
   unfold aD;rw[map_append];rfl
  rw[e2];refine xJ (l:=x.map D.int) (aO (by repeat' (first|assumption|exact rfl|apply ln|exact bC (by repeat' (first|assumption|apply ln)) (by decide)|refine aH ?_ rfl))) (bnd (a:=([D.int k],s)) (dW (aO (aH g7 rfl)) (λ_=>nofun)) rfl) ?_;rw[length_map];have:=hS2 x hx;show x.length+1<=lim;exact le_trans (Nat.succ_le_succ this) (by decide)
 ·rw[length_map,length_map];exact le_trans (add_le_add hS hS) (by decide)
omit hr
theorem qaM {n:Nat}(o5:n<=12){gone:List (List Int)}(iU:gone.length<=24){K:Nat}:∀(l a:List Int) {r:Loc} {s:Store},a++l=every n->r.length=59->r[17]?=some (some (.rng 0 n))->r[18]?=some (some (bZ gone))->r[19]?=some (some (.ref K))->r[20]?=some (some (bZ (gK [[]] a)))->s[K]?=some (.list (a.map λk=>aD (iJ (every n) gone k))) ->
  ∃(r':Loc) (s':Store),forL (exs XX 1000 qaL) (cA XX (.name 7)) (l.map .int) r s=some (.next,r',s')/\Kp [7,20] r r'/\r'[20]?=some (some (bZ (gK [[]] (every n))))/\s'[K]?=some (.list ((every n).map λk=>aD (iJ (every n) gone k)))/\aV (·=K) s s'
 | []=>λa {r} {s} ha _ _ _ _ nW hs=>by
  rw[append_nil]at ha;subst ha;exact⟨r,s,rfl,Kp.refl,nW,hs,aV.refl⟩
 | k::l=>λa {r} {s} ha hr g17 g18 tL nW hs=>by
  have hal:a.length<n:=by
   have:=congrArg List.length ha;rw[length_append,length_cons,lM]at this;exact ltN (aC 0x1010f2a1a1 rfl (aQ this))
  have hsl:(gK [[]] a).length<=4096:=by
   rw[qiD];exact le_trans (Nat.pow_le_pow_right (by decide) (show a.length<=12 by exact aA (aB 0x0fc8a1c8111f0a1 rfl hal o5))) (by decide)
  have qfc:∀x∈gK [[]] a,x.length<=12:=λx hx=>le_trans (DX.mp hx).length_le (aA (aB 0x0fc8a1c8111f0a1 rfl hal o5));have L1:(r.set 7 (some (.int k))).length=59:=ln hr;have b7:(r.set 7 (some (D.int k)))[7]?=some (some (.int k)):=bC hr (by decide);have en:=qdX (r:=r.set 7 (some (.int k))) (s:=s) L1 o5 iU b7 (aH g17 rfl) (aH g18 rfl);have em:=qdW (r:=r.set 7 (some (.int k))) (s:=s.set K (.list ((a++[k]).map λk=>aD (iJ (every n) gone k)))) L1 hsl qfc b7 (aH nW rfl);rw[<-DW]at em;refine eE (qaM o5 iU l (a++[k]) (r:=(r.set 7 (some (.int k))).set 20 (some (bZ (gK [[]] (a++[k]))))) (s:=s.set K (.list ((a++[k]).map λk=>aD (iJ (every n) gone k)))) (by rw[append_assoc];exact ha) (ln L1) (aH (aH g17 rfl) rfl) (aH (aH g18 rfl) rfl) (aH (aH tL rfl) rfl) (bC L1 (by decide)) (cZ hs)) λr' s' f1 f2 f3 f4 f5=>?_;refine⟨r',s',iB rfl (aP (jH (d:=.none) ?_) (aP (cH em) rfl)) f1,((Kp.set rfl).trans (Kp.set rfl)).trans f2,f3,f4,(aV.set (Y:=(·=K)) rfl).trans f5⟩;exact gA (d:=.ref K) (l:=[aD (iJ (every n) gone k)]) (aO (aH tL rfl)) (kZ hs) (dW en (λ_=>nofun)) (pJ hs (by rw[length_map];exact ltN (aB 0x03e891c8111f0a1 rfl hal o5)) (by rw[map_append];rfl))
end
theorem qgY {n:Nat}(o5:n<=12){gone:List (List Int)}(iU:gone.length<=24){gs hs:List (List Int)}{r:Loc}{s:Store}(hr:r.length=59)(B:HR gs hs s)(eQ:8<=s.length)(g17:r[17]?=some (some (.rng 0 n)))(g18:r[18]?=some (some (bZ gone))) :
  ∃(r':Loc) (s':Store),(∀{zs R},exs XX 1000 zs r' s'=R->exs XX 1000 (.assign (.name 19) (.list true [])::.assign (.name 20) (.list false [.list false []])::.fore (.name 7) (.var 17) qaL::.freeze 19::zs) r s=R)/\Kp [7,19,20] r r'/\HR gs hs s'/\8<=s'.length/\r'[19]?=some (some (.list ((every n).map λk=>aD (iJ (every n) gone k))))/\r'[20]?=some (some (bZ (gK [[]] (every n)))):=by
 have a1:(s++[O.list []])[s.length]?=some (.list []):=jV;let r1:=(r.set 19 (some (.ref s.length))).set 20 (some (bZ [[]]));have L1:r1.length=59:=ln (ln hr);refine eE (qaM o5 iU (K:=s.length) (every n) [] (r:=r1) (s:=s++[.list []]) rfl L1 (aH (aH g17 rfl) rfl) (aH (aH g18 rfl) rfl) (aH (bC hr (by decide)) rfl) (bC (ln hr) (by decide)) a1) λr2 s2 f1 f2 f3 f4 f5=>?_;have L2:=f2.len.trans L1;have b19:r2[19]?=some (some (.ref s.length)):=f2.at_ _ _ rfl (aH (bC hr (by decide)) rfl);refine⟨r2.set 19 (some (.list ((every n).map λk=>aD (iJ (every n) gone k)))),s2.set s.length .dead,λ{zs R} k=>?_,(((Kp.set rfl).trans (Kp.set rfl)).trans (f2.mono rfl)).trans (Kp.set rfl),HR.set ((B.app (t:=[.list []]) eQ).keep λj hj=>?_) eQ,?_,bC L2 (by decide),aH f3 rfl⟩
 ·refine aP (cH (d:=.ref s.length) (s':=s++[.list []]) rfl) (aP (r':=r1) (s':=s++[.list []]) (cH rfl) (aP (X6 (p:=0) (q:=n) (aO (aH (aH g17 rfl) rfl)) (by rw[PT];exact f1)) (aP (yR b19 f4 rfl) k)))
 ·exact f5.2 j (by rw[length_append];exact ltN (aC 0x210a1088188f2a1 rfl hj eQ)) (λU=>(aB 0x088188f1a1101 rfl (aW U) hj eQ))
 ·rw[length_set];have:=f5.1;rw[length_append]at this;exact aA (aC 0x88f0a11881021a1 rfl this eQ)
end P05
end Internal
end
section
open PySem
set_option maxRecDepth 100000
namespace Internal
section
variable {X:aU}{r:Loc}{s s1 s2:Store}{x:D}
theorem WP {e:E}{l:List D}(he:ev X e r s=some (.list l,s)):evs X [.star e] r s=some (l,s):=bnd he (bnd (a:=l) rfl (bnd (a:=([],s)) rfl (by rw[append_nil])))
theorem qd6 {i:Nat}{e:E}{l:List D}(hi:r[i]?=some (some x))(he:ev X e r s=some (.list l,s)):evs X [.var i,.star e] r s=some (x::l,s):=bnd (aO hi) (bnd (WP he) rfl)
end
theorem fK.wl {s:Store}{L R:Nat}{ns D G rd:List Int}{E:Ed}(h:fK s L R ns E D G rd):D.length+G.length+rd.length<=ns.length:=by
 have:=List.Nodup.length_le_of_subset h.dnd h.sub;rw[length_append,length_append]at this;exact this
namespace P05
noncomputable def iR (l:List Int)(nd:Int->List Int):Ed:=l.flatMap λk=>(nd k).map λp=>(p,k)
theorem qaD {l:List Int}{nd:Int->List Int}{e:Int×Int}:e∈iR l nd↔e.2∈l/\e.1∈nd e.2:=by
 unfold iR;rw[List.mem_flatMap];constructor
 ·rintro⟨k,hk,h⟩;obtain⟨p,hp,rfl⟩:=mem_map.mp h;exact⟨hk,hp⟩
 ·rintro⟨h1,h2⟩;exact⟨e.2,h1,mem_map.mpr ⟨e.1,h2,rfl⟩⟩
theorem qdA {l:List Int}{nd:Int->List Int}{k:Int}:iR (l++[k]) nd=iR l nd++(nd k).map λp=>(p,k):=by
 unfold iR;rw[List.flatMap_append,List.flatMap_cons,List.flatMap_nil,append_nil]
theorem HY {nd:Int->List Int}:∀{l:List Int},(∀k∈l,(nd k).length<=12)->(iR l nd).length<=l.length*12
 | []=>λ_=>zero_le _
 | k::l=>λh=>by
  have h1:=HY (l:=l) λk hk=>h k (mem_cons_of_mem _ hk);have h2:=h k mem_cons_self;unfold iR at h1 ⊢;rw[List.flatMap_cons,length_append,length_map,length_cons,Nat.succ_mul];exact aA (aC 0x21afc80ccaa10cc21c811 rfl h2 h1)
section
variable {n:Nat}(hn:n<=12){nd:Int->List Int}(hnd:∀k∈every n,(nd k).Nodup/\∀j∈nd k,j∈every n)
include hn hnd
theorem MJ {k:Int}(hk:k∈every n):(nd k).length<=12:=by
 have:=List.Nodup.length_le_of_subset (hnd k hk).1 (hnd k hk).2;rw[lM]at this;exact le_trans this hn
noncomputable abbrev qcA:List S:=[.expr (.umeth (.var 2) 4 [.var 3,.star (.idx (.var 0) (.var 3))])]
theorem qbV {m L:Nat}:∀(l a:List Int) {g:Gr} {r:Loc} {σ:Store},a++l=every n->3<r.length->fJ σ L g->GE g (iR a nd)->(∀y,y∈g.ns↔y∈a\/∃k∈a,y∈nd k)->r[0]?=some (some (.list ((every n).map λk=>aD (nd k))))->r[2]?=some (some (.ref L)) ->
  ∃(r':Loc) (σ':Store) (g':Gr),forL (exs ⟨P.globs,bD P (m+3)⟩ 1000 qcA) (cA ⟨P.globs,bD P (m+3)⟩ (.name 3)) (l.map .int) r σ=some (.next,r',σ')/\Kp [3] r r'/\fJ σ' L g'/\GE g' (iR (every n) nd)/\(∀y,y∈g'.ns↔y∈every n)/\aV (L<=·) σ σ'
 | []=>λa {g} {r} {σ} ha _ B hg hm _ _=>by
  rw[append_nil]at ha;subst ha;exact⟨r,σ,g,rfl,Kp.refl,B,hg,λy=>(hm y).trans ⟨λh=>h.elim id λ⟨k,hk,h⟩=>(hnd k hk).2 y h,.inl⟩,aV.refl⟩
 | k::l=>λa {g} {r} {σ} ha tU B hg hm g0 g2=>by
  have hka:∀z∈a,z∈every n:=λz hz=>by rw[<-ha];exact mem_append_left _ hz
  have hk:k∈every n:=by rw[<-ha];exact mem_append_right _ mem_cons_self
  have l1:=MJ hn hnd hk;have l2:g.ns.length<=12:=by
   have:=List.Nodup.length_le_of_subset (l₂:=every n) B.nodes.nd λy hy=>((hm y).mp hy).elim (hka y) λ⟨z,hz,h⟩=>(hnd z (hka z hz)).2 y h;rw[lM]at this;exact aA (aB 0x0fc8a1c811101 rfl this hn)
  have l3:(iR a nd).length<=144:=by
   have h1:=HY (l:=a) (nd:=nd) λz hz=>MJ hn hnd (hka z hz);have h2:a.length<=n:=by
    have:=congrArg List.length ha;rw[length_append,lM]at this;exact aA (aC 0x1f0a1021a1 rfl (aQ this))
   exact aA (aC 0x0f0909a1c82c1cc0121c rfl h2 h1 hn)
  refine hide λH gH=>?_;refine bM (qcF pW (m:=m) (x:=k) B (ps:=nd k) (ltN (aB 0x10a38491c811c801 rfl l2 l1)) (λy=>by
   rw[hg.su y];have:=qbS (E:=iR a nd) (x:=y);exact ltN (aC 0x10a38491c811090921201 rfl this l3 l1))) λσ1 e1 B1 f1=>?_
  refine bI (GE.addN (x:=k) (ps:=nd k) hg) λh1 h2=>?_;rw[<-qdA]at h1;have b3:(r.set 3 (some (D.int k)))[3]?=some (some (.int k)):=kY tU;refine VN (qbV (m:=m) l (a++[k]) (r:=r.set 3 (some (.int k))) (by rw[append_assoc];exact ha) (by rw[length_set];exact tU) B1 h1 (λy=>by
   rw[h2,hm];constructor
   ·rintro((h|⟨z,hz,h⟩)|rfl|h)
    ·exact .inl (mem_append_left _ h)
    ·exact .inr ⟨z,mem_append_left _ hz,h⟩
    ·exact .inl (mem_append_right _ mem_cons_self)
    ·exact .inr ⟨k,mem_append_right _ mem_cons_self,h⟩
   ·rintro(h|⟨z,hz,h⟩)
    ·rcases mem_append.mp h with h|h
     ·exact .inl (.inl h)
     ·exact .inr (.inl (mem_singleton.mp h))
    ·rcases mem_append.mp hz with hz|hz
     ·exact .inl (.inr ⟨z,hz,h⟩)
     ·rw[mem_singleton.mp hz]at h;exact .inr (.inr h)) (aH g0 rfl) (aH g2 rfl)) λr' σ' g' k1 k2 k3 k4 k5 k6=>?_
  refine gH ?_;refine⟨r',σ',g',iB rfl (aP (jH (d:=.none) ?_) rfl) k1,(Kp.set rfl).trans k2,k3,k4,k5,f1.trans k6⟩;have ha:=qcT (f:=λk=>aD (nd k)) hk;exact rG (aO (aH g2 rfl)) (rQ B.inst) (qd6 (l:=(nd k).map .int) b3 (eF (aO (aH g0 rfl)) (aO b3) (nZ ha.1 ha.2))) e1
noncomputable abbrev U4:List S:=[.expr (.umeth (.var 2) 8 [.star (.var 6)]),.assign (.name 4) (.comp false (.var 8) [.mk [8] false (.e (.var 4)) [.cmp .NotIn (.var 8) (.var 6)]]),.expr (.bmeth (.var 5) .extend [.umeth (.var 2) 6 []]),.assign (.name 6) (.comp false (.var 9) [.mk [9] false (.e (.var 5)) [.cmp .In (.var 9) (.var 4)]])]
omit hn hnd in
structure Can (E:Ed) (ns x:List Int) (L R W:Nat) (s:Store) (D G wl left now:List Int):Prop where
 t:fK s L R ns E D G []
 w:s[W]?=some (.list (wl.map .int))
 own:∀j,Own L R ns.length j->j≠W
 lw:L<=W
 wm:∀y,y∈wl↔y∈D\/y∈G
 wn:wl.Nodup
 lm:∀y,y∈left↔y∈x/\y∉D
 ln:left.Nodup
 dx:∀y∈D,y∈x
 nw:now=wl.filter λy=>left.contains y
omit hn hnd in
set_option maxHeartbeats 1000000 in
theorem qdc {E:Ed}{ns x:List Int}{L R W m:Nat}{s:Store}{D G wl left now:List Int}{r:Loc}(C:Can E ns x L R W s D G wl left now)(hns:ns.length<=12)(hx:x.length<=12)(hr:r.length=10)(g2:r[2]?=some (some (.ref L)))(g4:r[4]?=some (some (aD left)))(g5:r[5]?=some (some (.ref W)))(g6:r[6]?=some (some (aD now))) :
  ∃(r':Loc) (s':Store) (D' G' oJ left' uD:List Int),exs ⟨P.globs,bD P (m+3)⟩ 1000 U4 r s=some (.next,r',s')/\Can E ns x L R W s' D' G' oJ left' uD/\r'.length=10/\r'[2]?=some (some (.ref L))/\r'[4]?=some (some (aD left'))/\r'[5]?=some (some (.ref W))/\r'[6]?=some (some (aD uD))/\(now≠[]->left'.length<left.length)/\aV (L<=·) s s':=by
 have zP:∀y,y∈now↔y∈wl/\y∈left:=λy=>by rw[C.nw,mem_filter,contains_iff_mem]
 have hnn:now.Nodup:=by rw[C.nw];exact C.wn.filter _
 have hng:∀y∈now,y∈G:=λy hy=>by
  refine bI ((zP y).mp hy) λa b=>?_;exact((C.wm y).mp a).resolve_left ((C.lm y).mp b).2
 have Y5:∀j,Own L R ns.length j->L<=j:=λj hj=>by
  rcases hj with rfl|hj
  ·refine lK (C.t.ex) λg p f _ _ h3 _=>?_;have:=h3.hR;exact aA (aC 0x1f0a1022b281aa1 rfl this)
  ·exact hj.1
 refine lK (qke pW (m:=m+2) C.t hnn hng) λs1 rd G1 e1 XS T1 f1=>?_;have w1:s1[W]?=some (.list (wl.map .int)):=f1.at C.w λq=>C.own W q rfl;let left':=left.filter λy=>!now.contains y;have ll:left.length<=12:=by
  have:=List.Nodup.length_le_of_subset C.ln λy hy=>((C.lm y).mp hy).1;exact aA (aB 0x0fc8a1c811101 rfl this hx)
 have e2:ev ⟨P.globs,bD P (m+3)⟩ (.comp false (.var 8) [.mk [8] false (.e (.var 4)) [.cmp .NotIn (.var 8) (.var 6)]]) r s1=some (aD left',s1) :=
  oY (em:=Internal.D.int) (l:=left) (g:=Internal.D.int) (b:=λy=>!now.contains y) (aO g4) rfl (le_trans ll (by decide)) (λy _=>cR (x:=.int y) (y:=aD now) (aO (kY (ltN (aK 0x88010a81 rfl (aW hr))))) (aO (aH g6 rfl)) (qaO y now s1)) λy _=>aO (kY (ltN (aK 0x88010a81 rfl (aW hr))))
 refine bM (qb0 pW (m:=m+2) T1) λs2 e3 T2 f2=>?_;have w2:s2[W]?=some (.list (wl.map .int)):=f2.at w1 λq=>C.own W q rfl;have hwl:wl.length<=12:=by
  have h1:=List.Nodup.length_le_of_subset C.wn (l₂:=ns) λy hy=>C.t.sub y (mem_append_left _ (mem_append.mpr ((C.wm y).mp hy)));exact aA (aB 0x0fc8a1c811101 rfl h1 hns)
 have hrd:rd.length<=12:=by have:=T1.wl;exact aA (aL 0x0fc8a1c8313021aa1 rfl this hns)
 let oJ:=wl++rd;let s3:=s2.set W (.list (oJ.map .int));have w3:s3[W]?=some (.list (oJ.map .int)):=cZ w2;let r1:=r.set 4 (some (aD left'));have hr1:r1.length=10:=ln hr;have b4:r1[4]?=some (some (aD left')):=kY (ltN (aK 0x48010a81 rfl (aW hr)));let uD:=oJ.filter λy=>left'.contains y;have qff:oJ.length<=24:=by show (wl++rd).length<=24;rw[length_append];exact aA (aB 0x10af0189a1c801c811 rfl hrd hwl)
 have e4:ev ⟨P.globs,bD P (m+3)⟩ (.comp false (.var 9) [.mk [9] false (.e (.var 5)) [.cmp .In (.var 9) (.var 4)]]) r1 s3=some (aD uD,s3) :=
  U9 (em:=Internal.D.int) (l:=oJ) (g:=Internal.D.int) (b:=λy=>left'.contains y) (k:=W) (aO (aH g5 rfl)) w3 (le_trans qff (by decide)) (λy _=>cR (x:=.int y) (y:=aD left') (aO (kY (ltN (aK 0x98010a81 rfl (aW hr1))))) (aO (aH b4 rfl)) (JS y left' _)) λy _=>aO (kY (ltN (aK 0x98010a81 rfl (aW hr1))))
 have T3:fK s3 L R ns E (D++now) (G1++rd) []:=T2.frm (Y:=(·=W)) (aV.set rfl) λj hj e=>C.own j hj e;have qe1:o7 s1 (.ref L)=true:=by
  refine lK (T1.ex) λg p f _ _ h3 _=>?_;exact rQ h3.inst
 have qe0:o7 s (.ref L)=true:=by
  refine lK (C.t.ex) λg p f _ _ h3 _=>?_;exact rQ h3.inst
 refine⟨r1.set 6 (some (aD uD)),s3,D++now,G1++rd,oJ,left',uD,?_,⟨T3,w3,C.own,C.lw,λy=>?_,?_,λy=>?_,C.ln.filter _,λy hy=>?_,rfl⟩,ln hr1,aH (aH g2 rfl) rfl,aH b4 rfl,aH (aH g5 rfl) rfl,kY (ltN (aK 0x68010a81 rfl (aW hr1))),λhne=>?_,?_⟩
 ·refine aP (jH (d:=.none) (s1:=s1) (rG (aO g2) qe0 (WP (aO g6)) e1)) ?_;refine aP (cH e2) ?_;refine aP (r':=r1) (s':=s3) (jH (d:=.none) (gA (d:=.ref W) (s1:=s1) (s2:=s2) (l:=[.tup (rd.map .int)]) (aO (aH g5 rfl)) (kZ w1) (dW (rG (aO (aH g2 rfl)) qe1 (l:=[]) rfl e3) (λ_=>nofun)) (qec w2 (by rw[length_map,length_map];exact ltN (aB 0x10a3e891c801c811 rfl hrd hwl)) (by rw[<-map_append])))) ?_;exact aP (cH e4) rfl
 ·show y∈wl++rd↔_;rw[mem_append,mem_append,mem_append,XS,C.wm,zP];by_cases q:y∈wl/\y∈left
  ·have:=(C.wm y).mp q.1;exact⟨λ_=>.inl (.inr q),λ_=>.inl this⟩
  ·constructor
   ·rintro((h|h)|h)
    ·exact .inl (.inl h)
    ·exact .inr (.inl ⟨h,q⟩)
    ·exact .inr (.inr h)
   ·rintro((h|h)|h|h)
    ·exact .inl (.inl h)
    ·exact absurd h q
    ·exact .inl (.inr h.1)
    ·exact .inr h
 ·refine nodup_append.mpr ⟨C.wn,?_,λa ha b hb e=>?_⟩
  ·exact(nodup_append.mp T1.dnd).2.1
  ·subst e;refine cQ (nodup_append.mp T1.dnd) λ_ _ d3=>?_;refine d3 a ?_ a hb rfl;rw[mem_append,mem_append,XS];by_cases q:a∈now
   ·exact .inl (.inr q)
   ·exact((C.wm a).mp ha).elim (λh=>.inl (.inl h)) λh=>.inr ⟨h,q⟩
 ·show y∈left.filter _↔_;rw[mem_filter,C.lm,mem_append,not_or,not_eq_true',<-not_eq_true,contains_iff_mem,and_assoc]
 ·rcases mem_append.mp hy with h|h
  ·exact C.dx y h
  ·exact((C.lm y).mp ((zP y).mp h).2).1
 ·refine dH (List.exists_mem_of_ne_nil _ hne) λy hy=>?_;have hyl:=((zP y).mp hy).2;show (left.filter _).length<_;refine Nat.lt_of_le_of_ne (length_filter_le _ _) λe=>?_;have:=List.filter_eq_self.mp (List.Sublist.eq_of_length List.filter_sublist e) y hyl;rw[contains_iff_mem.mpr hy]at this;cases this
 ·exact((f1.mono Y5).trans (f2.mono Y5)).trans (aV.set C.lw)
end
end P05
end Internal
end
section
open PySem
set_option maxRecDepth 100000
namespace Internal
namespace P05
theorem U5 {E:Ed}{ns x:List Int}{L R W m:Nat}(hns:ns.length<=12)(hx:x.length<=12):∀(M:Nat) {s:Store} {D G wl left now:List Int} {r:Loc},left.length<M->Can E ns x L R W s D G wl left now->r.length=10->r[2]?=some (some (.ref L))->r[4]?=some (some (aD left))->r[5]?=some (some (.ref W))->r[6]?=some (some (aD now)) ->
  ∃(r':Loc) (s':Store) (D' G' oJ left':List Int),oH (test ⟨P.globs,bD P (m+3)⟩ (.cmp .NotEq (.var 6) (.list false []))) (exs ⟨P.globs,bD P (m+3)⟩ 1000 U4) (exs ⟨P.globs,bD P (m+3)⟩ 1000 []) M r s=some (.next,r',s')/\Can E ns x L R W s' D' G' oJ left' []/\r'[4]?=some (some (aD left'))/\aV (L<=·) s s'
 | 0,_,_,_,_,_,_,_,h,_,_,_,_,_,_=>absurd h (not_lt_zero _)
 | M+1,s,D,G,wl,left,now,r,h,C,hr,g2,g4,g5,g6=>by
  have ht:test ⟨P.globs,bD P (m+3)⟩ (.cmp .NotEq (.var 6) (.list false [])) r s=some (!decide (now=[]),s):=qR (cR (x:=aD now) (y:=aD []) (aO g6) rfl (MK now []));by_cases q:now=[]
  ·rw[decide_eq_true q]at ht;subst q;exact⟨r,s,D,G,wl,left,bnd ht rfl,C,g4,aV.refl⟩
  ·rw[decide_eq_false q]at ht;refine hide λH gH=>?_;obtain⟨r1,s1,D1,G1,wl1,qkL,qkM,e1,C1,k1,k2,k3,k4,k5,k6,f1⟩:=qdc (m:=m) C hns hx hr g2 g4 g5 g6;obtain⟨r2,s2,D2,G2,wl2,qfN,e2,C2,j1,f2⟩:=U5 hns hx M (lt_of_lt_of_le (k6 q) (Nat.le_of_lt_succ h)) C1 k1 k2 k3 k4 k5;refine gH ?_;exact⟨r2,s2,D2,G2,wl2,qfN,bnd ht (bnd e1 e2),C2,j1,f1.trans f2⟩
theorem Can.all {n:Nat}{nd:Int->List Int}{E:Ed}{ns x:List Int}{L R W:Nat}{s:Store}{D G wl left:List Int}(C:Can E ns x L R W s D G wl left [])(hE:∀e,e∈E↔e.2∈every n/\e.1∈nd e.2)(hns:∀y,y∈ns↔y∈every n)(hx:∀y∈x,y∈every n){rank:Int->Nat}(hr:∀e∈E,rank e.1<rank e.2) :
  left=[]↔∀k∈x,∀j∈nd k,j∈x:=by
 constructor
 ·intro h k hk j hj;have hkD:k∈D:=Classical.byContradiction λq=>by
   have:=(C.lm k).mpr ⟨hk,q⟩;rw[h]at this;cases this
  exact C.dx j (C.t.pre (j,k) ((hE _).mpr ⟨hx k hk,hj⟩) (mem_append_left _ hkD))
 ·intro h;have key:∀(c:Nat) (y:Int),rank y<c->y∉left:=λc=>by
   induction c with
   | zero=>exact λy hy=>absurd hy (not_lt_zero _)
   | succ c ih =>
    intro y hy hm;refine bI ((C.lm y).mp hm) λhyx hyD=>?_;have:=C.t.out ((hns y).mpr (hx y hyx)) λe he q=>by
     have h2:=(hE e).mp he;rw[q]at h2;have hex:=h y hyx e.1 h2.2;refine Classical.byContradiction λz=>ih e.1 ?_ ((C.lm e.1).mpr ⟨hex,z⟩);have:=hr e he;rw[q]at this;exact ltN (aC 0x101f0af2a12f1a1 rfl this hy)
    have hG:=this.resolve_left hyD;have:y∈wl.filter λy=>left.contains y:=mem_filter.mpr ⟨(C.wm y).mpr (.inr hG),contains_iff_mem.mpr hm⟩;rw[<-C.nw]at this;cases this
  cases left with
  | nil=>rfl
  | cons y l=>exact absurd mem_cons_self (key (rank y+1) y (lt_succ_self _))
section
variable {n:Nat}(hn:n<=12){nd:Int->List Int}(hnd:∀k∈every n,(nd k).Nodup/\∀j∈nd k,j∈every n){rank:Int->Nat}(hr:∀k∈every n,∀j∈nd k,rank j<rank k)
include hn hnd hr
set_option maxHeartbeats 1000000 in
theorem qdb {m:Nat}{x:List Int}{s:Store}(hx:∀y∈x,y∈every n)(hxn:x.Nodup):∃(s':Store) (b:Bool),bD P (m+4) 26 [.list ((every n).map λk=>aD (nd k)),aD x] s=some (.bool b,s')/\(b=true↔∀k∈x,∀j∈nd k,j∈x)/\aV (λ_=>False) s s':=by
 let r0:Loc:=[some (.list ((every n).map λk=>aD (nd k))),some (aD x),.none,.none,.none,.none,.none,.none,.none,.none];have pX:x.length<=12:=by
  have:=List.Nodup.length_le_of_subset hxn hx;rw[lM]at this;exact aA (aB 0x0fc8a1c811101 rfl this hn)
 refine hide λH gH=>?_;refine bM (qgB pW (σ:=s) (m:=m+2) (r:=r0)) λs1 e1 B1 f1=>?_;let r1:=r0.set 2 (some (.ref s.length));refine VN (qbV hn hnd (m:=m) (every n) [] (r:=r1) rfl (by show 3<10;decide) B1 ge0 (λy=>⟨λh=>absurd h not_mem_nil,λh=>h.elim (λh=>absurd h not_mem_nil) λ⟨_,h,_⟩=>absurd h not_mem_nil⟩) rfl rfl) λr2 s2 g e2 K2 B2 hg hm f2=>?_;have L2:r2.length=10:=K2.len;have b2:r2[2]?=some (some (.ref s.length)):=K2.at_ _ _ rfl rfl;have b1:r2[1]?=some (some (aD x)):=K2.at_ _ _ rfl rfl;have iU:g.ns.length<=12:=by
  have:=List.Nodup.length_le_of_subset (l₂:=every n) B2.nodes.nd λy hy=>(hm y).mp hy;rw[lM]at this;exact aA (aB 0x0fc8a1c811101 rfl this hn)
 have hEl:(iR (every n) nd).length<=144:=by
  have h1:=HY (l:=every n) (nd:=nd) λz hz=>MJ hn hnd hz;rw[lM]at h1;exact aA (aB 0x0f0909a1c81c1cc01 rfl h1 hn)
 have Z2:∀e∈iR (every n) nd,rank e.1<rank e.2:=λe he=>by
  refine bI (qaD.mp he) λa b=>?_;exact hr _ a _ b
 refine eE (qkd pW (m:=m+1) B2 hg (ltN (aB 0x10a38491c801090911 rfl hEl iU)) Z2) λs3 R e3 T3 f3 JF JG=>?_;refine bM (qb0 pW (m:=m+2) T3) λs4 e4 T4 f4=>?_;rw[nil_append]at T4;let rd:=g.ns.filter λx=>nIn (iR (every n) nd) [] x==0;have hrl:rd.length<=12:=le_trans (length_filter_le _ _) iU;let s5:=s4++[O.list (rd.map .int)];have hW:s5[s4.length]?=some (.list (rd.map .int)):=jV;have hlen:s3.length<=s4.length:=f4.1;have hown:∀j,Own s.length R g.ns.length j->j≠s4.length:=λj hj=>by
  rcases hj with rfl|hj
  ·exact λU=>(aC 0x0212f1a1101 rfl (aW U) JF hlen)
  ·exact λU=>(eU 0x42b283aaf1a12f5a1542b283aa1021101 rfl (aW U) hlen JG JF hj.2)
 have T5:fK s5 s.length R g.ns (iR (every n) nd) [] rd []:=T4.frm (Y:=λ_=>False) aV.app λ_ _=>id;let now:=rd.filter λy=>x.contains y;let r3:=(r2.set 4 (some (aD x))).set 5 (some (.ref s4.length));have L3:r3.length=10:=ln (ln L2);have c2:r3[2]?=some (some (.ref s.length)):=aH (aH b2 rfl) rfl;have c4:r3[4]?=some (some (aD x)):=aH (kY (ltN (aK 0x48010a81 rfl (aW L2)))) rfl;have c5:r3[5]?=some (some (.ref s4.length)):=kY (by rw[ln L2];decide);have e6:ev ⟨P.globs,bD P (m+3)⟩ (.comp false (.var 7) [.mk [7] false (.e (.var 5)) [.cmp .In (.var 7) (.var 4)]]) r3 s5=some (aD now,s5) :=
  U9 (em:=D.int) (l:=rd) (g:=D.int) (b:=λy=>x.contains y) (k:=s4.length) (aO c5) hW (le_trans hrl (by decide)) (λy _=>cR (x:=.int y) (y:=aD x) (aO (kY (by rw[L3];decide))) (aO (aH c4 rfl)) (JS y x _)) λy _=>aO (kY (by rw[L3];decide))
 have C0:Can (iR (every n) nd) g.ns x s.length R s4.length s5 [] rd rd x now:=by
  refine⟨T5,hW,hown,?_,λy=>⟨.inr,λh=>h.elim (λh=>absurd h not_mem_nil) id⟩,T3.nd.filter _,λy=>⟨λh=>⟨h,not_mem_nil⟩,λh=>h.1⟩,hxn,λy hy=>absurd hy not_mem_nil,rfl⟩;have:=f3.1;have:=f2.1;have:=f1.1;exact aA (bN 0x1f0a12f4a1432b281aa1021 rfl hlen JG JF)
 refine qdH (U5 (m:=m) iU pX 1000 (r:=r3.set 6 (some (aD now))) (ltN (aK 0x03e891c801 rfl pX)) C0 (ln L3) (aH c2 rfl) (aH c4 rfl) (aH c5 rfl) (kY (by rw[L3];decide))) λr6 s6 D6 G6 wl6 K9 e7 C6 k1 f6=>?_;refine gH ?_;have hin:o7 s2 (.ref s.length)=true:=rQ B2.inst;have qe5:o7 s3 (.ref s.length)=true:=by
  refine lK (T3.ex) λg p f _ _ h3 _=>?_;exact rQ h3.inst
 have hlow:∀{Y:Nat->Prop} {a b:Store},(∀j,Y j->s.length<=j)->aV Y a b->aV (s.length<=·) a b:=λh k=>k.mono h;refine⟨s6,decide (K9=[]),?_,?_,?_⟩
 ·refine call_of (P:=P) (n:=m+3) (f:=26) (fn:=yV) (r:=r0) (r':=r6) rfl rfl rfl ?_;refine aP (cH e1) ?_;refine aP (X6 (p:=0) (q:=n) (lL (l:=[.int n]) (dW ((wA (e:=.var 0) (l:=(every n).map λk=>aD (nd k)) rfl (λ_=>nofun)).trans (by rw[length_map,lM])) (λ_=>nofun)) ?_) (by rw[PT];exact e2)) ?_
  ·show (if nC 0 (n:Int)=true then some (Internal.D.rng 0 (n:Int),s1) else .none)=some (Internal.D.rng 0 (n:Int),s1);rw[if_pos];unfold nC;simp
   omega
  refine aP (jH (d:=.none) (rG (l:=[]) (aO b2) hin rfl e3)) ?_;refine aP (cH (aO b1)) ?_;refine aP (r':=r3) (s':=s5) (cH (d:=.ref s4.length) (lL (l:=[.tup (rd.map .int)]) (s1:=s4) (dW (rG (l:=[]) (aO (aH b2 rfl)) qe5 rfl e4) (λ_=>nofun)) rfl)) ?_;refine aP (cH e6) ?_;refine aP e7 ?_;exact oF (cR (x:=aD K9) (y:=aD []) (aO k1) rfl (I3 K9 []))
 ·rw[decide_eq_true_iff];exact C6.all (n:=n) (nd:=nd) (λe=>qaD) hm hx Z2
 ·have f45:aV (λ_=>False) s4 s5:=aV.app;have hO:∀j,Own s.length R g.ns.length j->s.length<=j:=λj hj=>by
   rcases hj with rfl|hj
   ·have:=f3.1;exact aA (aC 0x1f0a1022b281aa1 rfl JG)
   ·exact hj.1
  have F:=((((hlow (λ_ h=>h.elim) f1).trans f2).trans f3).trans ((f4.mono hO).trans (hlow (λ_ h=>h.elim) f45))).trans f6;exact⟨F.1,λj hj _=>F.2 j hj (Nat.not_le_of_lt hj)⟩
end
end P05
end Internal
end
section
open PySem
set_option maxRecDepth 100000
namespace Internal
section
variable {X:aU}{r:Loc}{t:Nat}{x:D}{α:Type}{em:α->D}
theorem qaW {f:D->Store->Option (List D×Store)}{b:α->Bool}{g:α->D}:∀{l:List α} {s:Store},(∀i∈l,∀s,∃s',f (em i) s=some (if b i then[g i] else[],s')/\aV (λ_=>False) s s')->∃s',j6 f (l.map em) s=some ((l.filter b).map g,s')/\aV (λ_=>False) s s'
 | [],s,_=>⟨s,rfl,aV.refl⟩
 | i::l,s,h=>by
  refine hide λH gH=>?_;refine aF (h i mem_cons_self s) λs1 h1 f1=>?_;refine aF (qaW (l:=l) (s:=s1) λx hx=>h x (mem_cons_of_mem _ hx)) λs2 h2 f2=>?_;refine gH ?_;refine⟨s2,(CQ h1 h2).trans ?_,f1.trans f2⟩;rw[filter_cons];cases b i <;> rfl
theorem qcR {l:List (List Int)}(h:l≠[]):iM (l.map aD)=.none:=by
 cases l with
 | nil=>exact absurd rfl h
 | cons a l=>rfl
theorem S7:∀l:List (List Int),uY (l.map aD)=some l
 | []=>rfl
 | a::l=>by
  show ((iM (a.map .int)).bind λis=>(uY (l.map aD)).bind λrs=>some (is::rs))=_;rw[H4,S7 l];rfl
theorem qbL {s:Store}{l:List (List Int)}(h:l.length<1000):mQ .sorted s [bZ l]=some (bZ (pF l),s):=by
 show (if (l.map aD).length<1000 then(qP (l.map aD)).bind λl'=>some (D.list l',s) else .none)=_;rw[if_pos (by rw[length_map];exact h)];unfold qP;by_cases q:l=[]
 ·subst q;rfl
 ·rw[qcR q,S7];rfl
end
namespace P05
noncomputable def rD (ev:List Int)(gone:List (List Int))(x:List Int):Bool:=x.all λk=>(iJ ev gone k).all λj=>x.contains j
theorem U7 {ev:List Int}{gone:List (List Int)}{x:List Int}:rD ev gone x=true↔GD ev gone x:=by
 unfold rD GD;rw[all_eq_true];refine forall_congr' λk=>forall_congr' λ_=>?_;rw[all_eq_true];exact forall_congr' λj=>forall_congr' λ_=>contains_iff_mem
theorem qkE {n:Nat}(hn:n<=12){nd:Int->List Int}(hnd:∀k∈every n,(nd k).Nodup/\∀j∈nd k,j∈every n){rank:Int->Nat}(hr:∀k∈every n,∀j∈nd k,rank j<rank k){x:List Int}{s:Store}(hx:∀y∈x,y∈every n)(hxn:x.Nodup) :
  ∃(s':Store) (b:Bool),XX.F 26 [.list ((every n).map λk=>aD (nd k)),aD x] s=some (.bool b,s')/\(b=true↔∀k∈x,∀j∈nd k,j∈x)/\aV (λ_=>False) s s':=by
 refine fM (qdb hn hnd hr (m:=25) (s:=s) hx hxn) λs' b h h2=>?_;exact⟨s',b,(congrFun (congrFun (congrFun GC 26) _) _).trans h,h2⟩
noncomputable def qjS:E:=.cmp .NotEq (.bi .sorted [.comp false (.var 45) [.mk [45] false (.e (.var 20)) [.call 26 [.var 19,.var 45]]]]) (.bi .sorted [.var 18])
section
variable {L:List (List Int)}(hL:sY L)(rM:L.Nodup)(h4:∀p∈L,∀g∈four,ix p g∈four)(hn:L.length<=24)
include hL rM h4 hn
theorem qd2 {r:Loc}{s:Store}(hr:r.length=59)(g18:r[18]?=some (some (bZ (L.map (cT (bR L))))))(tL:r[19]?=some (some (.list ((every (bR L).length).map λk=>aD (iJ (every (bR L).length) (L.map (cT (bR L))) k)))))(nW:r[20]?=some (some (bZ (gK [[]] (every (bR L).length))))) :
  ∃s',ev XX qjS r s=some (.bool false,s')/\aV (λ_=>False) s s':=by
 have h12:=DP hL h4;generalize hN:(bR L).length=n at *;have hnd:∀k∈every n,(iJ (every n) (L.map (cT (bR L))) k).Nodup/\∀j∈iJ (every n) (L.map (cT (bR L))) k,j∈every n:=λk _=>⟨vO.filter _,λj hj=>(mem_filter.mp hj).1⟩;have hrk:∀k∈every n,∀j∈iJ (every n) (L.map (cT (bR L))) k,L.length-L.countP (cI (rg (bR L) j))<L.length-L.countP (cI (rg (bR L) k)):=λk hk j hj=>qgv hL qbn qN.1 (by rw[hN];exact hk) (by rw[hN];exact hj);have hp:((gK [[]] (every n)).filter (rD (every n) (L.map (cT (bR L))))).Perm (L.map (cT (bR L))):=by
  rw[<-hN];exact qiC hL rM qN.1 qN.2 λx _=>U7
 refine aF (qaW (f:=qbP XX 45 [.call 26 [.var 19,.var 45]] (.var 45) r) (em:=aD) (b:=rD (every n) (L.map (cT (bR L)))) (g:=aD) (l:=gK [[]] (every n)) (s:=s) λx hx s=>by
  have hs:=DX.mp hx;obtain⟨s',b,h1,h2,h3⟩:=qkE h12 hnd hrk (s:=s) (λy hy=>hs.subset hy) (vO.sublist hs);have hb:b=rD (every n) (L.map (cT (bR L))) x:=Bool.eq_iff_iff.mpr (h2.trans U7.symm);refine⟨s',bnd (vN (I8 (vP (aO (aH tL rfl)) (λ_=>nofun) (aO (by repeat' (first|assumption|exact rfl|apply ln|exact bC (by repeat' (first|assumption|apply ln)) (by decide)|refine aH ?_ rfl))) (λ_=>nofun)) h1)) ?_,h3⟩;rw[<-hb];cases b
  ·rfl
  ·exact bnd (aO (by repeat' (first|assumption|exact rfl|apply ln|exact bC (by repeat' (first|assumption|apply ln)) (by decide)|refine aH ?_ rfl))) rfl) λs1 e1 f1=>?_
 have hlen:((gK [[]] (every n)).filter (rD (every n) (L.map (cT (bR L))))).length<=24:=by rw[hp.length_eq,length_map];exact hn
 have ec:ev XX (.comp false (.var 45) [.mk [45] false (.e (.var 20)) [.call 26 [.var 19,.var 45]]]) r s=some (bZ ((gK [[]] (every n)).filter (rD (every n) (L.map (cT (bR L))))),s1) :=
  HS (aO nW) rfl (le_trans (by rw[length_map];exact hlen) (by decide)) e1
 refine⟨s1,cR (lL (dW ec (λ_=>nofun)) (qbL (lt_of_le_of_lt hlen (by decide)))) (lL (dW (aO g18) (λ_=>nofun)) (qbL (by rw[length_map];exact lt_of_le_of_lt hn (by decide)))) ?_,f1⟩;rw[qbG (hp.trans (QL _).symm) (QM _)];show (bY deep (bZ (pF (L.map (cT (bR L))))) (bZ (pF (L.map (cT (bR L)))))).bind (λr=>some (!r))=_;rw[yF,decide_eq_true rfl];rfl
end
end P05
end Internal
end
section
open PySem
set_option maxRecDepth 100000
namespace Internal
namespace P05
noncomputable def mC (f:Nat)(l:List Int):Int:=if f=0 then LC l else JN l
noncomputable def mZ (f n:Nat):Nat:=if f=0 then(n-1)/2 else n/2
theorem qbw {f:Nat}{l:List Int}:mC f l=(sortI l).getD (mZ f l.length) 0:=by
 unfold mC mZ LC JN;split <;> rfl
theorem CV {f n:Nat}(h:0<n):mZ f n<n:=by
 unfold mZ;split <;> (first|exact ltN (aC 0x102212c10210f08a1 rfl h (eV _ _) (d7 _ _))|exact ltN (aB 0x102012c10f08a1 rfl h (d7 _ _)))
theorem qg8 {f n:Nat}(h:0<n)(hf:f=0\/f=1):n-1-mZ f n=mZ (1-f) n:=by
 unfold mZ;rcases hf with rfl|rfl
 ·rw[if_pos rfl,if_neg (by decide)];exact bG (aA (bN 0x1f0a2341a22f3a12842caf3a12802caf2a1 rfl (mU _ (by decide)) (mU _ (by decide)) (aM (aA (aK 0xff0a10f08a1 rfl h))) (aM (aA (aB 0x1f0a2012c1 rfl (d7 _ _)))))) (aA (bN 0x1f0a2212c140a32342c1f3a21 rfl (aR _ _) (d7 _ _) (aR _ _) (d7 _ _)))
 ·rw[if_neg (by decide),if_pos rfl];exact bG (aA λU=>(bN 0x241a23f2a12842caf3a12802caf2a11f0a2 rfl U (mU _ (by decide)) (mU _ (by decide)) (aM (aA (aK 0xff0a10f08a1 rfl h))) (aM (aA (bN 0x1f0a2031412c1f0a413f2a1 rfl U (aR _ _) (d7 _ _) (eV _ _)))))) (aA (bN 0x1f0a2312c140a32242c1f3a21 rfl (aR _ _) (d7 _ _) (aR _ _) (d7 _ _)))
theorem qa0 {f n c:Nat}(h:0<n)(hf:f=0\/f=1):n-mZ f n<=c↔n+(1-f)<=2*c:=by
 unfold mZ;rcases hf with rfl|rfl
 ·rw[if_pos rfl];exact⟨(λU=>(aA (eU 0x21af02ba11f5a143a12542c1f21032 rfl U (eV _ _) (d7 _ _) (aR _ _) (aM (aA (aK 0xff0a10f08a1 rfl h)))))),(λU=>(aA (eU 0x1f0a2251a2083af12852caf4a1f4a2102b32a1 rfl U (aR _ _) (mU _ (by decide)) (aR _ _) (aM (aA (aC 0x1f0a2212c10210f08a1 rfl h (eV _ _) (d7 _ _)))))))⟩
 ·rw[if_neg (by decide)];exact⟨(λU=>(aA (bN 0x21af02ba1ff2a143a12142c1032 rfl U (d7 _ _) (aR _ _) (aM (aA (jZ 0xfffa1 rfl)))))),(λU=>(aA (bN 0x1f0a2241a22842caf2a102b32a1 rfl U (mU _ (by decide)) (aM (aA (aB 0x1f0a2012c10f08a1 rfl h (d7 _ _)))))))⟩
theorem qkG {f:Nat}(hf:f=0\/f=1){tms:List Int}(h0:0<tms.length)(h1:tms.length<1000){s:Store}:XX.F f [aD tms] s=some (.int (mC f tms),s):=by
 refine(congrFun (congrFun (congrFun GC f) _) _).trans ?_;rcases hf with rfl|rfl
 ·exact qf8 (m:=28) pW h1 h0
 ·exact qeZ (m:=28) pW h1 h0
theorem IW {r:Loc}{s:Store}{i f:Nat}{e:E}{tms:List Int}(hf:f=0\/f=1)(gi:r[i]?=some (some (.fn f)))(he:ev XX e r s=some (aD tms,s))(hs:∀q,e≠.star q)(h0:0<tms.length)(h1:tms.length<1000):ev XX (.callv (.var i) [e]) r s=some (.int (mC f tms),s) :=
 bnd (aO gi) (bnd (dW he hs) (bnd (a:=f) rfl (qkG hf h0 h1)))
theorem qdo {σ:Store}{k:Int}{l:List Int}:bmeth .count σ (aD l) [.int k]=some (.int (l.countP λb=>b==k:Nat),σ):=by
 show (UV (.int k) (l.map .int)).bind _=_;refine bnd (a:=l.countP λb=>b==k) (bnd (yN k l) ?_) rfl;rw[countP_map];rfl
theorem V8 {k:Int}:∀{l:List Int},l.Nodup->((l.countP λb=>b==k:Nat):Int)=if l.contains k then 1 else 0
 | []=>λ_=>rfl
 | a::l=>λh=>by
  refine bI (nodup_cons.mp h) λh1 h2=>?_;have ih:=V8 (k:=k) h2;rw[countP_cons,Int.natCast_add,ih];by_cases q:a=k
  ·subst q;have:l.contains a=false:=Bool.eq_false_iff.mpr λz=>h1 (contains_iff_mem.mp z);rw[this,List.contains_cons,beq_self_eq_true];rfl
  ·rw[beq_eq_false_iff_ne.mpr q,List.contains_cons,beq_eq_false_iff_ne.mpr λe:k=a=>q e.symm,Bool.false_or,if_neg Bool.false_ne_true,Int.natCast_zero,Int.add_zero]
structure Ends (gs hs:List (List Int)) (hands:List Int) (r:Loc) (s:Store):Prop where
 len:r.length=59
 B:HR gs hs s
 g1:r[1]?=some (some gD)
 g2:r[2]?=some (some hD)
 g8:r[8]?=some (some (bZ (ways gs hs)))
 g9:r[9]?=some (some (bZ (seats gs hs)))
 g17:r[17]?=some (some (.rng 0 (bR (seats gs hs)).length))
 g18:r[18]?=some (some (bZ ((seats gs hs).map (cT (bR (seats gs hs))))))
 g21:r[21]?=some (some (aD hands))
theorem Ends.set {gs hs:List (List Int)}{hands:List Int}{r:Loc}{s:Store}{k:Nat}{x:Option D}(h:Ends gs hs hands r s)(hk:[1,2,8,9,17,18,21].contains k=false):Ends gs hs hands (r.set k x) s:=by
 have:∀i∈[1,2,8,9,17,18,21],k≠i:=λi hi e=>by rw[e,contains_iff_mem.mpr hi]at hk;cases hk
 exact⟨ln h.len,h.B,jO h.g1 (this _ (by decide)),jO h.g2 (this _ (by decide)),jO h.g8 (this _ (by decide)),jO h.g9 (this _ (by decide)),jO h.g17 (this _ (by decide)),jO h.g18 (this _ (by decide)),jO h.g21 (this _ (by decide))⟩
noncomputable def wy (gs hs:List (List Int))(hd:Int):List Int:=(ways gs hs).getD hd.toNat []
section
variable {gs hs:List (List Int)}(pg:gM gs)(ph:gM hs){hands:List Int}(hh:∀hd∈hands,hd∈every (ways gs hs).length)(h0:0<hands.length)(h1:hands.length<=100)
include hh in
theorem G9 {hd:Int}(hm:hd∈hands):0<=hd/\(ways gs hs)[hd.toNat]?=some (wy gs hs hd):=by
 obtain⟨i,hi,rfl⟩:=qI.mp (hh hd hm);refine⟨natCast_nonneg _,?_⟩;unfold wy;rw[toNat_natCast,getD_eq_getElem?_getD,getElem?_eq_getElem hi];rfl
include hh in
theorem qcv {hd:Int}(hm:hd∈hands):wy gs hs hd∈ways gs hs:=mem_of_getElem? (G9 hh hm).2
noncomputable def marks (gs hs:List (List Int))(hands:List Int)(k:Int):List Int:=hands.map λhd=>if cI (rg (bR (seats gs hs)) k) (bQ gs (wy gs hs hd)) then(1:Int) else 0
include hh h1
theorem WK {r:Loc}{s:Store}{t u:Nat}{k:Int}(hE:Ends gs hs hands r s)(ht:t<59)(hts:[1,2,8,9,17,18,21].contains t=false)(htu:t≠u)(gu:r[u]?=some (some (.int k)))(hk:k∈every (bR (seats gs hs)).length) :
  ev XX (.comp false (.bmeth (.idx (.var 18) (.var t)) .count [.var u]) [.mk [t] false (.e (.var 21)) []]) r s=some (aD (marks gs hs hands k),s):=by
 unfold marks aD;rw[map_map];refine lJ (em:=D.int) (l:=hands) (aO hE.g21) rfl (le_trans h1 (by decide)) λhd hm=>?_;have E2:=hE.set (x:=some (D.int hd)) hts;refine bI (G9 hh hm) λp1 p2=>?_;have e1:ev XX (.idx (.var 18) (.var t)) (r.set t (some (D.int hd))) s=some (aD (cT (bR (seats gs hs)) (bQ gs (wy gs hs hd))),s):=by
  refine eF (y:=.int hd) (aO E2.g18) (aO (bC hE.len ht)) (nZ p1 ?_);unfold seats;rw[map_map,map_map,getElem?_map,p2];rfl
 refine gA e1 rfl (dW (aO (jO gu htu)) (λ_=>nofun)) (qdo.trans ?_);rw[V8 (show (cT (bR (seats gs hs)) (bQ gs (wy gs hs hd))).Nodup from vO.filter _),rW hk];rfl
theorem qge:∀{k:Int},(marks gs hs hands k).sum=(hands.countP λhd=>cI (rg (bR (seats gs hs)) k) (bQ gs (wy gs hs hd)):Nat):=by
 intro k;unfold marks;clear hh h1
 induction hands with
 | nil=>rfl
 | cons a l ih =>
  rw[map_cons,sum_cons,ih,countP_cons];cases cI (rg (bR (seats gs hs)) k) (bQ gs (wy gs hs a)) <;> simp <;> exact jC (bV (jN 0x0faff0aa1 rfl)) (bV (jN 0xf0af0faa1 rfl))
noncomputable def pN (gs hs:List (List Int))(hands:List Int)(f:Nat):List Int:=(every (bR (seats gs hs)).length).filter λk=>decide (hands.length+(1-f)<=2*hands.countP λhd=>cI (rg (bR (seats gs hs)) k) (bQ gs (wy gs hs hd)))
include pg ph
theorem n12:(bR (seats gs hs)).length<=12:=DP (lat pg ph) λp hp g hg=>by
 obtain⟨w,hw,rfl⟩:=mem_map.mp hp;rw[qO hg];exact((oE _ (pg.at hg).2).2 _ ((mD (jA hw)).wf g hg).1).2.2.2.1
theorem qdQ {r:Loc}{s:Store}{f:Nat}(hf:f=0\/f=1)(hE:Ends gs hs hands r s)(J8:r[24]?=some (some (.int ((1-f:Nat):Int)))) :
  ev XX (.comp false (.var 47) [.mk [47] false (.e (.var 17)) [.cmp .GtE (.bin .Mult (.int 2) (.bi .sum [.comp false (.bmeth (.idx (.var 18) (.var 48)) .count [.var 47]) [.mk [48] false (.e (.var 21)) []]])) (.bin .Add (.bi .len [.var 21]) (.var 24))]]) r s=some (aD (pN gs hs hands f),s):=by
 have hr:=hE.len;refine oY (em:=D.int) (l:=every (bR (seats gs hs)).length) (g:=D.int) (aO hE.g17) (FZ _) (by rw[lM];exact le_trans (n12 pg ph hh h1) (by decide)) (λk hk=>?_) λk _=>aO (by repeat' (first|assumption|exact rfl|apply ln|exact bC (by repeat' (first|assumption|apply ln)) (by decide)|refine aH ?_ rfl));have E2:=hE.set (k:=47) (x:=some (D.int k)) rfl;have e1:=WK hh h1 (t:=48) (u:=47) E2 (by decide) rfl (by decide) (by repeat' (first|assumption|exact rfl|apply ln|exact bC (by repeat' (first|assumption|apply ln)) (by decide)|refine aH ?_ rfl)) hk;refine cR (x:=.int (2*(marks gs hs hands k).sum)) (y:=.int (hands.length+((1-f:Nat):Int))) (fZ rfl (lL (dW e1 (λ_=>nofun)) qj1) (wG _ _ rfl)) (fZ ((wA (e:=.var 21) (l:=hands.map .int) (aO E2.g21) (λ_=>nofun)).trans (by rw[length_map])) (aO (aH J8 rfl)) rfl) ?_;refine congrArg some (decide_eq_decide.mpr ?_);rw[qge hh h1];exact@ofNat_le (hands.length+(1-f)) (2*_)
theorem qd4 {r:Loc}{s:Store}{f:Nat}(hf:f=0\/f=1)(hE:Ends gs hs hands r s)(tM:r[22]?=some (some (.fn f)))(h0:0<hands.length) :
  ev XX (.comp false (.var 49) [.mk [49] false (.e (.var 17)) [.cmp .Eq (.callv (.var 22) [.comp false (.bmeth (.idx (.var 18) (.var 50)) .count [.var 49]) [.mk [50] false (.e (.var 21)) []]]) (.int 1)]]) r s=some (aD (pN gs hs hands f),s):=by
 have hr:=hE.len;refine oY (em:=D.int) (l:=every (bR (seats gs hs)).length) (g:=D.int) (aO hE.g17) (FZ _) (by rw[lM];exact le_trans (n12 pg ph hh h1) (by decide)) (λk hk=>?_) λk _=>aO (by repeat' (first|assumption|exact rfl|apply ln|exact bC (by repeat' (first|assumption|apply ln)) (by decide)|refine aH ?_ rfl));have E2:=hE.set (k:=49) (x:=some (D.int k)) rfl;have e1:=WK hh h1 (t:=50) (u:=49) E2 (by decide) rfl (by decide) (by repeat' (first|assumption|exact rfl|apply ln|exact bC (by repeat' (first|assumption|apply ln)) (by decide)|refine aH ?_ rfl)) hk;have hl:(marks gs hs hands k).length=hands.length:=length_map ..;refine cR (x:=.int (mC f (marks gs hs hands k))) (y:=.int 1) (IW hf (aH tM rfl) e1 (λ_=>nofun) (by rw[hl];exact h0) (by rw[hl];exact ltN (aK 0x03e891064901 rfl h1))) rfl ?_;refine(show cmpOp s .Eq (.int (mC f (marks gs hs hands k))) (.int 1)=some (decide (mC f (marks gs hs hands k)=1)) from yD 7 _ _).trans (congrArg some (decide_eq_decide.mpr ?_));rw[qbw,hl];unfold marks;rw[qgd (CV h0),qa0 h0 hf]
end
theorem perm_back:∀r∈perms,∀h∈four,r[(io r h).toNat]?=some h/\0<=io r h:=by decide +kernel
theorem qg5:∀r∈perms,four.map (ix r)=r:=by decide +kernel
theorem qez {α:Type}(f:Int->α):∀g∈four,0<=g/\(four.map f)[g.toNat]?=some (f g):=by
 intro g hg;refine⟨by have:=(jW g hg).2;exact bV (cN 0x08f0a11081011 rfl (jG this) (uB _)),?_⟩;rcases mem_cons.mp hg with rfl|hg
 ·rfl
 rcases mem_cons.mp hg with rfl|hg
 ·rfl
 rcases mem_cons.mp hg with rfl|hg
 ·rfl
 rcases mem_singleton.mp hg with rfl;rfl
theorem qby {f:Nat}{l:List Int}(h:0<l.length):mC f (l.map λx=>7*x-11)=7*(sortI l).getD (mZ f l.length) 0-11:=by
 rw[qbw,length_map,qgr (f:=λx=>7*x-11) (λa b h=>bV (cN 0xb817befb807bea1017 rfl h)) (CV h)]
theorem WD {X:aU}{r:Loc}{s:Store}{e:E}{x:Int}(h:ev X e r s=some (.int (7*x-11),s)):ev X (.bin .FloorDiv (.bin .Add e (.int 11)) (.int 7)) r s=some (.int x,s) :=
 fZ (fZ h rfl rfl) rfl (by
  show (if (7:Int)≠0/\small 7=true then some (D.int ((7*x-11+11).fdiv 7)) else .none)=_;rw[if_pos ⟨by decide,rfl⟩,Int.fdiv_eq_ediv_of_nonneg _ (by decide)];have:(7*x-11+11)/7=x:=by rw[Int.sub_add_cancel,Int.mul_ediv_cancel_left _ (by decide)]
  rw[this])
section
variable {gs hs:List (List Int)}(pg:gM gs)(ph:gM hs){hands:List Int}(hh:∀hd∈hands,hd∈every (ways gs hs).length)(h0:0<hands.length)(h1:hands.length<=100){f:Nat}(hf:f=0\/f=1)
include pg ph hh h0 h1 hf
theorem qgk:∃w∈ways gs hs,(∀g∈four,mC f (hands.map λhd=>7*ix (bQ gs (wy gs hs hd)) g-11)=7*ix (bQ gs w) g-11)/\(∀h∈four,mC (1-f) (hands.map λhd=>7*ix (heldOf hs (wy gs hs hd)) h-11)=7*ix (heldOf hs w) h-11)/\cT (bR (seats gs hs)) (bQ gs w)=pN gs hs hands f:=by
 have hl:(hands.map (wy gs hs)).length=hands.length:=length_map ..;refine bM (qgn pg ph (hands:=hands.map (wy gs hs)) (λx hx=>by
  obtain⟨hd,hm,rfl⟩:=mem_map.mp hx;exact qcv hh hm) (i:=mZ f hands.length) (by rw[hl];exact CV h0)) λw hw m1 m2=>?_
 refine⟨w,hw,λg hg=>?_,λg hg=>?_,filter_congr λk hk=>?_⟩
 ·have e:(hands.map λhd=>7*ix (bQ gs (wy gs hs hd)) g-11)=(hands.map λhd=>ix (bQ gs (wy gs hs hd)) g).map λx=>7*x-11:=by rw[map_map];rfl
  rw[e,qby (by rw[length_map];exact h0),length_map,m1 g hg,map_map];rfl
 ·have e:(hands.map λhd=>7*ix (heldOf hs (wy gs hs hd)) g-11)=(hands.map λhd=>ix (heldOf hs (wy gs hs hd)) g).map λx=>7*x-11:=by rw[map_map];rfl
  rw[e,qby (by rw[length_map];exact h0),length_map,m2 g hg,map_map,hl,qg8 h0 hf];rfl
 ·rw[Bool.eq_iff_iff,decide_eq_true_iff,qgl pg ph qN.1 (hands:=hands.map (wy gs hs)) (by rw[hl];exact CV h0) m1 (uG hk),countP_map,hl,qa0 h0 hf];rfl
omit h0 hf
theorem qd3 {r:Loc}{s:Store}(hE:Ends gs hs hands r s)(tM:r[22]?=some (some (.fn f)))(hf:f=0\/f=1)(h0:0<hands.length){w:List Int}(hw:w∈ways gs hs)(m1:∀g∈four,mC f (hands.map λhd=>7*ix (bQ gs (wy gs hs hd)) g-11)=7*ix (bQ gs w) g-11) :
  ev XX (.comp false (.idx (.idx (.var 1) (.var 51)) (.bin .FloorDiv (.bin .Add (.callv (.var 22) [.comp false (.bin .Sub (.bin .Mult (.int 7) (.idx (.idx (.var 9) (.var 52)) (.var 51))) (.int 11)) [.mk [52] false (.e (.var 21)) []]]) (.int 11)) (.int 7))) [.mk [51] false (.e (.bi .range [.int 4])) []]) r s=some (aD w,s):=by
 have hr:=hE.len;have hwp:=jA hw;have e0:aD w=.list (four.map λg=>.int (ix w g)):=by
  unfold aD;have:=qg5 w hwp;rw[<-congrArg (List.map D.int) this,map_map];rfl
 rw[e0];refine lJ (em:=D.int) (l:=four) pD pG (by decide) λg hg=>?_;have E2:=hE.set (k:=51) (x:=some (D.int g)) rfl;have ZZ:(r.set 51 (some (D.int g)))[51]?=some (some (.int g)):=by repeat' (first|assumption|exact rfl|apply ln|exact bC (by repeat' (first|assumption|apply ln)) (by decide)|refine aH ?_ rfl)
 have e1:ev XX (.comp false (.bin .Sub (.bin .Mult (.int 7) (.idx (.idx (.var 9) (.var 52)) (.var 51))) (.int 11)) [.mk [52] false (.e (.var 21)) []]) (r.set 51 (some (D.int g))) s=some (aD (hands.map λhd=>7*ix (bQ gs (wy gs hs hd)) g-11),s):=by
  unfold aD;rw[map_map];refine lJ (em:=D.int) (l:=hands) (aO E2.g21) rfl (le_trans h1 (by decide)) λhd hm=>?_;have E3:=E2.set (k:=52) (x:=some (D.int hd)) rfl;refine bI (G9 hh hm) λp1 p2=>?_;refine fZ (fZ rfl (oZ (w:=bQ gs (wy gs hs hd)) (eF (y:=.int hd) (aO E3.g9) (aO (bC E2.len (by decide))) (nZ p1 ?_)) (aH ZZ rfl) (PX _ g hg) hg) (wG _ _ rfl)) rfl rfl;unfold seats;rw[map_map,getElem?_map,p2];rfl
 have e2:=WD (X:=XX) (x:=ix (bQ gs w) g) (by rw[<-m1 g hg];exact IW hf (aH tM rfl) e1 (λ_=>nofun) (by rw[length_map];exact h0) (by rw[length_map];exact ltN (aK 0x03e891064901 rfl h1)));have hx:=perm_back _ (pg.at hg).2 _ ((mD hwp).wf g hg).1;rw[<-qO hg]at hx;refine eF (I9 E2.g1 ZZ hg) e2 (item_at (hE.B.g g hg) ?_);show gQ ((cU gs g).map D.int) _ true=_;unfold gQ;rw[if_pos hx.2,getElem?_map,hx.1];rfl
theorem qdR {r:Loc}{s:Store}(hE:Ends gs hs hands r s){w:List Int}(hw:w∈ways gs hs)(g25:r[25]?=some (some (aD (cT (bR (seats gs hs)) (bQ gs w))))):ev XX (.idx (.var 8) (.bmeth (.var 18) .index [.var 25])) r s=some (aD w,s):=by
 have hm:cT (bR (seats gs hs)) (bQ gs w)∈(seats gs hs).map (cT (bR (seats gs hs))):=mem_map_of_mem (mem_map_of_mem hw);generalize hi:((seats gs hs).map (cT (bR (seats gs hs)))).idxOf (cT (bR (seats gs hs)) (bQ gs w))=i;have hlt:=idxOf_lt_length_of_mem hm;rw[hi,length_map]at hlt;have hlt2:i<(ways gs hs).length:=by
  unfold seats at hlt;rw[length_map]at hlt;exact hlt
 have hw2:(ways gs hs)[i]=w:=by
  have h2:=List.getElem_idxOf (idxOf_lt_length_of_mem hm);have h3:((seats gs hs).map (cT (bR (seats gs hs))))[i]'(by rw[length_map];exact hlt)=cT (bR (seats gs hs)) (bQ gs w):=by
   rw[<-h2];exact List.getElem_of_eq rfl _ |>.trans (by congr 1;exact hi.symm)
  rw[getElem_map]at h3;have h4:=XF (lat pg ph) (qbu pg) qN.2 _ (getElem_mem hlt) _ (mem_map_of_mem hw) h3;have h5:(seats gs hs)[i]=bQ gs ((ways gs hs)[i]):=getElem_map ..;rw[h5]at h4;exact Q0 pg (jA (getElem_mem hlt2)) (jA hw) λg _=>by rw[h4]
 refine eF (x:=bZ (ways gs hs)) (y:=.int (i:Nat)) (aO hE.g8) ?_ (nZ (natCast_nonneg _) ?_)
 ·refine gA (aO hE.g18) rfl (dW (aO g25) (λ_=>nofun)) ?_;have hix:zW (aD (cT (bR (seats gs hs)) (bQ gs w))) (((seats gs hs).map (cT (bR (seats gs hs)))).map aD)=some i:=by
   rw[<-hi];exact qfk qdL hm
  exact bnd hix rfl
 ·rw[toNat_natCast,getElem?_map,getElem?_eq_getElem hlt2,hw2];rfl
noncomputable def rR (gs hs:List (List Int))(hands:List Int):List (List Int):=four.map λh=>hands.map λhd=>7*ix (heldOf hs (wy gs hs hd)) h-11
theorem WF {r:Loc}{s:Store}{t u:Nat}(hE:Ends gs hs hands r s)(ht:t<59)(hu:u<59)(hts:[1,2,8,9,17,18,21].contains t=false)(hus:[1,2,8,9,17,18,21].contains u=false)(htu:u≠t) :
  ev XX (.comp false (.comp false (.bin .Sub (.bin .Mult (.int 7) (.bmeth (.idx (.var 2) (.var t)) .index [.bmeth (.idx (.var 8) (.var u)) .index [.var t]])) (.int 11)) [.mk [u] false (.e (.var 21)) []]) [.mk [t] false (.e (.bi .range [.int 4])) []]) r s=some (bZ (rR gs hs hands),s):=by
 unfold bZ rR;rw[map_map];refine lJ (em:=D.int) (l:=four) pD pG (by decide) λh tQ=>?_;have E2:=hE.set (x:=some (D.int h)) hts;have kt:(r.set t (some (D.int h)))[t]?=some (some (.int h)):=bC hE.len ht;show _=some (D.list ((hands.map _).map D.int),s);rw[map_map];refine lJ (em:=D.int) (l:=hands) (aO E2.g21) rfl (le_trans h1 (by decide)) λhd hm=>?_;have E3:=E2.set (x:=some (D.int hd)) hus;refine bI (G9 hh hm) λp1 p2=>?_;have hwp:=jA (qcv hh hm);have kt2:=jO (x:=some (D.int hd)) kt htu;have e1:ev XX (.idx (.var 8) (.var u)) ((r.set t (some (D.int h))).set u (some (D.int hd))) s=some (aD (wy gs hs hd),s):=eF (y:=.int hd) (aO E3.g8) (aO (bC E2.len hu)) (nZ p1 (by rw[getElem?_map,p2];rfl));have e2:=yP (yO E3.g2 kt2 tQ) (E3.B.h h tQ) (IV e1 (aO kt2) (λ_=>nofun) (sI _ hwp h tQ)) (λ_=>nofun) (sI _ (ph.at tQ).2 _ ((mD hwp).vf h tQ).1);refine(fZ (fZ rfl e2 (wG _ _ rfl)) rfl rfl).trans ?_;show _=some (D.int (7*ix (heldOf hs (wy gs hs hd)) h-11),s);rw[zK tQ];rfl
theorem qdN {r:Loc}{s:Store}(hE:Ends gs hs hands r s)(J7:r[23]?=some (some (.fn (1-f))))(g28:r[28]?=some (some (bZ (rR gs hs hands))))(hf:f=0\/f=1)(h0:0<hands.length){w:List Int}(hw:w∈ways gs hs)(m2:∀h∈four,mC (1-f) (hands.map λhd=>7*ix (heldOf hs (wy gs hs hd)) h-11)=7*ix (heldOf hs w) h-11) :
  ev XX (.comp false (.idx (.idx (.var 2) (.var 55)) (.bin .FloorDiv (.bin .Add (.callv (.var 23) [.idx (.var 28) (.var 55)]) (.int 11)) (.int 7))) [.mk [55] false (.e (.bi .range [.int 4])) []]) r s=some (aD (four.map (io w)),s):=by
 have hr:=hE.len;have hwp:=jA hw;unfold aD;rw[map_map];refine lJ (em:=D.int) (l:=four) pD pG (by decide) λg hg=>?_;have E2:=hE.set (k:=55) (x:=some (D.int g)) rfl;have k55:(r.set 55 (some (D.int g)))[55]?=some (some (.int g)):=by repeat' (first|assumption|exact rfl|apply ln|exact bC (by repeat' (first|assumption|apply ln)) (by decide)|refine aH ?_ rfl)
 have e1:ev XX (.idx (.var 28) (.var 55)) (r.set 55 (some (D.int g))) s=some (aD (hands.map λhd=>7*ix (heldOf hs (wy gs hs hd)) g-11),s):=by
  refine eF (x:=bZ (rR gs hs hands)) (y:=.int g) (aO (aH g28 rfl)) (aO k55) ?_;have:=qez (λh=>aD (hands.map λhd=>7*ix (heldOf hs (wy gs hs hd)) h-11)) g hg;unfold bZ rR;rw[map_map];exact nZ this.1 this.2
 have e2:=WD (X:=XX) (x:=ix (heldOf hs w) g) (by rw[<-m2 g hg];exact IW (by omega) (aH J7 rfl) e1 (λ_=>nofun) (by rw[length_map];exact h0) (by rw[length_map];exact ltN (aK 0x03e891064901 rfl h1)));have hx:=perm_back _ (ph.at hg).2 _ ((mD hwp).vf g hg).1;rw[<-zK hg]at hx;refine eF (yO E2.g2 k55 hg) e2 (item_at (hE.B.h g hg) ?_);show gQ ((cU hs g).map D.int) _ true=_;unfold gQ;rw[if_pos hx.2,getElem?_map,hx.1];rfl
end
end P05
end Internal
end
section
open PySem
set_option maxRecDepth 100000
namespace Internal
theorem WQ {X:aU}{W:Nat}{b:List S}{r':Loc}{s':Store}{R:Option (Fl×Loc×Store)}(k:exs X W b r' s'=R):∀(a:List S) {r:Loc} {s:Store},exs X W a r s=some (.next,r',s')->exs X W (a++b) r s=R
 | [],r,s,h=>by cases h;exact k
 | z::a,r,s,h=>iQ h λfl r1 s1 e h=>by
  refine bnd e ?_;cases fl
  case next=>exact WQ k a h
  all_goals cases h
namespace P05
theorem MN {s:Store}(l:List Int):cmpOp s .NotEq (aD l) (aD l)=some false:=(MK l l).trans (by rw[decide_eq_true rfl];rfl)
theorem qgu {s:Store}(l:List (List Int)):cmpOp s .NotEq (bZ l) (bZ l)=some false:=by
 show (bY deep (bZ l) (bZ l)).bind (λr=>some (!r))=_;rw[yF,decide_eq_true rfl];rfl
noncomputable def lastBody:List S:=[.assign (.name 25) (.comp false (.var 47) [.mk [47] false (.e (.var 17)) [.cmp .GtE (.bin .Mult (.int 2) (.bi .sum [.comp false (.bmeth (.idx (.var 18) (.var 48)) .count [.var 47]) [.mk [48] false (.e (.var 21)) []]])) (.bin .Add (.bi .len [.var 21]) (.var 24))]]),.assign (.name 26) (.comp false (.var 49) [.mk [49] false (.e (.var 17)) [.cmp .Eq (.callv (.var 22) [.comp false (.bmeth (.idx (.var 18) (.var 50)) .count [.var 49]) [.mk [50] false (.e (.var 21)) []]]) (.int 1)]]),.assign (.name 27) (.comp false (.idx (.idx (.var 1) (.var 51)) (.bin .FloorDiv (.bin .Add (.callv (.var 22) [.comp false (.bin .Sub (.bin .Mult (.int 7) (.idx (.idx (.var 9) (.var 52)) (.var 51))) (.int 11)) [.mk [52] false (.e (.var 21)) []]]) (.int 11)) (.int 7))) [.mk [51] false (.e (.bi .range [.int 4])) []]),.ife (.or (.cmp .NotEq (.var 26) (.var 25)) (.cmp .NotEq (.var 27) (.idx (.var 8) (.bmeth (.var 18) .index [.var 25])))) [.ret (.bool false)] [],.assign (.name 28) (.comp false (.comp false (.bin .Sub (.bin .Mult (.int 7) (.bmeth (.idx (.var 2) (.var 53)) .index [.bmeth (.idx (.var 8) (.var 54)) .index [.var 53]])) (.int 11)) [.mk [54] false (.e (.var 21)) []]) [.mk [53] false (.e (.bi .range [.int 4])) []]),.assign (.name 29) (.comp false (.idx (.idx (.var 2) (.var 55)) (.bin .FloorDiv (.bin .Add (.callv (.var 23) [.idx (.var 28) (.var 55)]) (.int 11)) (.int 7))) [.mk [55] false (.e (.bi .range [.int 4])) []]),.ife (.cmp .NotEq (.comp false (.bmeth (.var 27) .index [.var 56]) [.mk [56] false (.e (.bi .range [.int 4])) []]) (.var 29)) [.ret (.bool false)] [],.ife (.cmp .NotEq (.var 28) (.comp false (.comp false (.bin .Sub (.bin .Mult (.int 7) (.bmeth (.idx (.var 2) (.var 57)) .index [.bmeth (.idx (.var 8) (.var 58)) .index [.var 57]])) (.int 11)) [.mk [58] false (.e (.var 21)) []]) [.mk [57] false (.e (.bi .range [.int 4])) []])) [.ret (.bool false)] []]
section
variable {gs hs:List (List Int)}(pg:gM gs)(ph:gM hs){hands:List Int}(hh:∀hd∈hands,hd∈every (ways gs hs).length)(h0:0<hands.length)(h1:hands.length<=100)
include pg ph hh h0 h1
theorem turn {f:Nat}(hf:f=0\/f=1){r:Loc}{s:Store}(hE:Ends gs hs hands r s):∃r',exs XX 1000 lastBody (((r.set 22 (some (.fn f))).set 23 (some (.fn (1-f)))).set 24 (some (.int ((1-f:Nat):Int)))) s=some (.next,r',s)/\Ends gs hs hands r' s:=by
 refine cL (qgk pg ph hh h0 h1 hf) λw hw m1 m2 m3=>?_;generalize hr1:((r.set 22 (some (.fn f))).set 23 (some (.fn (1-f)))).set 24 (some (.int ((1-f:Nat):Int)))=r1;have E1:Ends gs hs hands r1 s:=by rw[<-hr1];exact((hE.set rfl).set rfl).set rfl
 have L0:=hE.len;have tM:r1[22]?=some (some (.fn f)):=by rw[<-hr1];exact aH (aH (bC L0 (by decide)) rfl) rfl
 have J7:r1[23]?=some (some (.fn (1-f))):=by rw[<-hr1];exact aH (bC (ln L0) (by decide)) rfl
 have J8:r1[24]?=some (some (.int ((1-f:Nat):Int))):=by rw[<-hr1];exact bC (ln (ln L0)) (by decide)
 let r2:=r1.set 25 (some (aD (pN gs hs hands f)));have E2:Ends gs hs hands r2 s:=E1.set rfl;have b25:r2[25]?=some (some (aD (pN gs hs hands f))):=bC E1.len (by decide);let r3:=r2.set 26 (some (aD (pN gs hs hands f)));have E3:Ends gs hs hands r3 s:=E2.set rfl;let r4:=r3.set 27 (some (aD w));have E4:Ends gs hs hands r4 s:=E3.set rfl;have b26:r4[26]?=some (some (aD (pN gs hs hands f))):=aH (bC E2.len (by decide)) rfl;have SQ:r4[27]?=some (some (aD w)):=bC E3.len (by decide);have U0:r4[25]?=some (some (aD (pN gs hs hands f))):=aH (aH b25 rfl) rfl;let r5:=r4.set 28 (some (bZ (rR gs hs hands)));have E5:Ends gs hs hands r5 s:=E4.set rfl;have SX:r5[28]?=some (some (bZ (rR gs hs hands))):=bC E4.len (by decide);let r6:=r5.set 29 (some (aD (four.map (io w))));have E6:Ends gs hs hands r6 s:=E5.set rfl;have b29:r6[29]?=some (some (aD (four.map (io w)))):=bC E5.len (by decide);have c27:r6[27]?=some (some (aD w)):=aH (aH SQ rfl) rfl;have hwp:=jA hw;have ei:ev XX (.comp false (.bmeth (.var 27) .index [.var 56]) [.mk [56] false (.e (.bi .range [.int 4])) []]) r6 s=some (aD (four.map (io w)),s):=by
  unfold aD;rw[map_map];exact lJ (em:=D.int) (l:=four) pD pG (by decide) λg hg=>IV (aO (aH c27 rfl)) (aO (bC E6.len (by decide))) (λ_=>nofun) (sI w hwp g hg)
 refine⟨r6,?_,E6⟩;refine aP (cH (qdQ pg ph hh h1 hf E1 J8)) ?_;refine aP (cH (qd4 pg ph hh h1 hf E2 (aH tM rfl) h0)) ?_;refine aP (cH (qd3 pg ph hh h1 E3 (aH (aH tM rfl) rfl) hf h0 hw m1)) ?_;refine aP (lU (qdZ (cR (aO b26) (aO U0) (MN _)) (cR (aO SQ) (qdR pg ph hh h1 E4 hw (by rw[m3];exact U0)) (MN _)))) ?_;refine aP (cH (WF pg ph hh h1 E4 (t:=53) (u:=54) (by decide) (by decide) rfl rfl (by decide))) ?_;refine aP (cH (qdN pg ph hh h1 E5 (f:=f) (aH (aH (aH (aH J7 rfl) rfl) rfl) rfl) SX hf h0 hw m2)) ?_;refine aP (lU (cR ei (aO b29) (MN _))) ?_;exact aP (lU (cR (aO (aH SX rfl)) (WF pg ph hh h1 E6 (t:=57) (u:=58) (by decide) (by decide) rfl rfl (by decide)) (qgu _))) rfl
theorem qfI {r:Loc}{s:Store}(hE:Ends gs hs hands r s):∃r',ex XX 1000 (.fore (.tup [(.name 22),(.name 23),(.name 24)]) (.tup [.tup [.glob 2,.glob 3,.int 1],.tup [.glob 3,.glob 2,.int 0]]) lastBody) r s=some (.next,r',s):=by
 refine hide λH gH=>?_;refine aF (turn pg ph hh h0 h1 (f:=0) (.inl rfl) hE) λr1 e1 E1=>?_;refine aF (turn pg ph hh h0 h1 (f:=1) (.inr rfl) E1) λr2 e2 E2=>?_;refine gH ?_;have ev1:ev XX (.tup [.tup [.glob 2,.glob 3,.int 1],.tup [.glob 3,.glob 2,.int 0]]) r s=some (.tup [.tup [.fn 0,.fn 1,.int 1],.tup [.fn 1,.fn 0,.int 0]],s):=by kernel_rfl
 exact⟨r2,yZ ev1 (iB rfl e1 (iB rfl e2 rfl))⟩
end
noncomputable def rN (xs:List Int)(n:Nat):List Int:=(xs++[1,3,7]).map λ(x:Int)=>x.fmod n
theorem qdU {gs hs:List (List Int)}{xs:List Int}(hx:xs.length<=63)(hw:0<(ways gs hs).length){r:Loc}{s:Store}(hr:r.length=59)(a0:r[0]?=some (some (aD xs)))(g8:r[8]?=some (some (bZ (ways gs hs)))) :
  ev XX (.comp false (.bin .Mod (.var 46) (.bi .len [.var 8])) [.mk [46] false (.e (.bin .Add (.var 0) (.list false [.int 1,.int 3,.int 7]))) []]) r s=some (aD (rN xs (ways gs hs).length),s):=by
 unfold rN aD;rw[map_map];have e1:ev XX (.bin .Add (.var 0) (.list false [.int 1,.int 3,.int 7])) r s=some (.list ((xs++[1,3,7]).map D.int),s):=by
  rw[map_append];refine xJ (aO a0) (s2:=s) (l':=[.int 1,.int 3,.int 7]) (by kernel_rfl) ?_;rw[length_map];exact le_trans (add_le_add hx (le_refl 3)) (by decide)
 refine lJ (em:=D.int) (l:=xs++[1,3,7]) e1 rfl (by rw[length_append];exact le_trans (add_le_add hx (le_refl 3)) (by decide)) λx _=>?_;refine fZ (x:=.int x) (aO (bC hr (by decide))) ((wA (e:=.var 8) (l:=(ways gs hs).map aD) (aO (aH g8 rfl)) (λ_=>nofun)).trans (by rw[length_map])) ?_;show (if ((ways gs hs).length:Int)=0 then .none else some (D.int (x.fmod (ways gs hs).length)))=_;rw[if_neg (by exact λU=>(jN 0x0f08a10801 rfl (jG U) (oL hw)))];rfl
theorem qeR {xs:List Int}{n:Nat}(hn:0<n):∀hd∈rN xs n,hd∈every n:=by
 intro hd hm;obtain⟨x,_,rfl⟩:=mem_map.mp hm;have h1:=Int.fmod_nonneg_of_pos x (b:=n) (ltI (jN 0x08010f08a1 rfl (oL hn)));have h2:=Int.fmod_lt_of_pos x (b:=n) (ltI (jN 0x08010f08a1 rfl (oL hn)));exact qI.mpr ⟨(x.fmod n).toNat,(Int.toNat_lt h1).mpr h2,(toNat_of_nonneg h1).symm⟩
theorem qio {n:Nat}(h:n<=12){s:Store}:mQ .range s [.int n]=some (.rng 0 n,s):=by
 show (if nC 0 (n:Int)=true then some (D.rng 0 (n:Int),s) else .none)=some (D.rng 0 (n:Int),s);rw[if_pos];unfold nC;simp
 omega
theorem law_pure (xs:List Int)(hx:xs.length<=63):∃s',bD P 30 40 [.list (xs.map .int)] []=some (.bool true,s'):=by
 have key:∃r1 s1,exs XX 1000 rJ.body ((some (aD xs))::replicate 58 .none) []=some (.ret (.bool true),r1,s1):=by
  refine hide λH gH=>?_;refine qdC (start xs) λr1 rows hl hp e1 L1 a0 a1 a2=>?_;refine bI (qha hl hp) λpg ph=>?_;refine gH ?_;have B1:=HR.of hl;generalize hgs:rows.take 4=gs at *;generalize hhs:rows.drop 4=hs at *;have eQ:8<=(rows.map dF).length:=by rw[length_map,hl];exact le_refl _
  generalize rows.map dF=s1 at *;refine hide λH gH=>?_;refine vJ (qg0 pg ph L1 B1 eQ a1 a2) λr2 s2 e2 K2 B2 l2 g8 g9=>?_;have L2:=K2.len.trans L1;have hG:∀p∈seats gs hs,nJ p:=λp hp=>by
   obtain⟨w,_,rfl⟩:=mem_map.mp hp;exact PX w
  have h4:∀p∈seats gs hs,∀g∈four,ix p g∈four:=λp hp g hg=>by
   obtain⟨w,hw,rfl⟩:=mem_map.mp hp;rw[qO hg];exact((oE _ (pg.at hg).2).2 _ ((mD (jA hw)).wf g hg).1).2.2.2.1
  have zH:(seats gs hs).length<=24:=by
   unfold seats ways;rw[length_map,<-qaX];exact length_filter_le _ _
  have hw0:0<(ways gs hs).length:=by
   refine dH (qca pg ph) λw hw=>?_;exact List.length_pos_of_mem hw
  have lt:=lat pg ph;refine eE (qgZ hG zH L2 B2 l2 g9) λr3 s3 e3 K3 B3 l3 lQ=>?_;refine gH ?_;have L3:=K3.len.trans L2;have h12:=DP lt h4;generalize hN:(bR (seats gs hs)).length=n at *;let r4:=r3.set 17 (some (.rng 0 n));have L4:r4.length=59:=ln L3;have c9:r4[9]?=some (some (bZ (seats gs hs))):=aH (K3.at_ _ _ rfl g9) rfl;have HF:r4[17]?=some (some (.rng 0 n)):=bC L3 (by decide);have e5:=qdT lt h4 hG zH (r:=r4) (s:=s3) L4 c9 (aH lQ rfl) (by rw[hN];exact HF);let r5:=r4.set 18 (some (bZ ((seats gs hs).map (cT (bR (seats gs hs))))));have L5:r5.length=59:=ln L4;have TY:r5[18]?=some (some (bZ ((seats gs hs).map (cT (bR (seats gs hs)))))):=bC L4 (by decide);refine hide λH gH=>?_;refine vJ (qgY h12 (by rw[length_map];exact zH) L5 B3 l3 (aH HF rfl) TY) λr6 s6 e6 K6 B6 l6 tL nW=>?_;have L6:=K6.len.trans L5;have VD:=K6.at_ _ _ rfl TY;refine aF (qd2 lt (qbu pg) h4 zH (r:=r6) (s:=s6) L6 VD (by rw[hN];exact tL) (by rw[hN];exact nW)) λs7 e7 f7=>?_;have B7:HR gs hs s7:=B6.keep λj hj=>f7.2 j (ltN (aB 0x101088188f1a1 rfl hj l6)) id;have up:∀{i d},[7,8,9,10,11,12,13,14,15,16,17,18,19,20].contains i=false->r1[i]?=some (some d)->r6[i]?=some (some d):=λ{i d} hi g=>by
   have hne:∀{k},[7,8,9,10,11,12,13,14,15,16,17,18,19,20].contains k=true->k≠i:=λhk e=>by rw[e,hi]at hk;cases hk
   have hc:∀{l:List Nat},l.all (λk=>[7,8,9,10,11,12,13,14,15,16,17,18,19,20].contains k)=true->l.contains i=false:=λ{l} hl=>by
    cases q:l.contains i
    ·rfl
    ·have:=all_eq_true.mp hl i (contains_iff_mem.mp q);rw[hi]at this;cases this
   exact K6.at_ _ _ (hc rfl) (jO (jO (K3.at_ _ _ (hc rfl) (K2.at_ _ _ (hc rfl) g)) (hne rfl)) (hne rfl))
  have k8:r6[8]?=some (some (bZ (ways gs hs))):=K6.at_ _ _ rfl (aH (aH (K3.at_ _ _ rfl g8) rfl) rfl);have k9:r6[9]?=some (some (bZ (seats gs hs))):=K6.at_ _ _ rfl (aH c9 rfl);have k17:r6[17]?=some (some (.rng 0 n)):=K6.at_ _ _ rfl (aH HF rfl);have e8:=qdU hx hw0 (r:=r6) (s:=s7) L6 (up rfl a0) k8;let r7:=r6.set 21 (some (aD (rN xs (ways gs hs).length)));have L7:r7.length=59:=ln L6;have hlen:(rN xs (ways gs hs).length).length=xs.length+3:=by unfold rN;rw[length_map,length_append];rfl
  have E7:Ends gs hs (rN xs (ways gs hs).length) r7 s7:=⟨L7,B7,aH (up rfl a1) rfl,aH (up rfl a2) rfl,aH k8 rfl,aH k9 rfl,by rw[hN];exact aH k17 rfl,aH VD rfl,bC L6 (by decide)⟩;refine dH (qfI pg ph (qeR hw0) (ltN (aB 0x08010381a1 rfl (aW hlen))) (aA (aB 0x0f0649a103f911381a01 rfl (aQ hlen) hx)) E7) λr8 e9=>?_;refine gH ?_;refine⟨r8,s7,?_⟩;have hb:rJ.body=[.assign (.name 1) XH,.assign (.name 2) YX,.fore (.name 3) (.slice (.var 0) .none (some (.int 4))) FJ]++(rJ.body.drop 3):=by kernel_rfl
  rw[hb];refine WQ ?_ _ e1;refine e2 ?_;refine e3 ?_;refine aP (cH (d:=.rng 0 n) (lL (l:=[.int n]) (dW ((wA (e:=.var 13) (l:=(bR (seats gs hs)).map fH) (aO lQ) (λ_=>nofun)).trans (by rw[length_map,hN])) (λ_=>nofun)) (qio h12))) ?_;refine aP (cH e5) ?_;refine e6 ?_;refine aP (lU e7) ?_;refine aP (cH e8) ?_;refine aP e9 ?_;exact oF rfl
 refine fD (key) λr1 s1 e=>?_;exact⟨s1,call_of (P:=P) (n:=29) (f:=40) (args:=[.list (xs.map .int)]) (fn:=rJ) (r:=(some (aD xs))::replicate 58 .none) rfl rfl (by rfl) e⟩
end P05
end Internal
end
set_option maxRecDepth 100000 in
theorem PySem.Challenge.cw_dn0070_05_holds : PySem.Challenge.rw_dn0070_05.Holds :=
  Internal.P05.holds Internal.P05.law_pure
