/- Scalars: products and sums modulo the order, in the form of Montgomery. -/
import Derived.Test.YtkbfdaoohhmgoaaGreatDoorSd
namespace Go.Proofs.YtkbfdaoohhmgoaaGreatDoor
open Go
def hP(s:CS):Option X->Fj×Bool
 |none=>(cK 0,true)
 |some x=>match s.x x with
  |some a=>(a.p,Bl 0 a.lo)
  |none=>(cK 0,false)
theorem AP5{ρ:Bu}{s:CS}(hs:RN ρ s){o:Option X}(h:(hP s o).2=true):0<=Er ρ (hP s o).1:=by
 cases o with
 |none=>exact Int.le_of_eq (Rb ρ 0).symm
 | some x=>
  unfold hP at h ⊢;cases hx:s.x x with
  |none=>simp only[hx] at h;cases h
  |some a=>
   simp only[hx] at h ⊢;have h1:=CS.gk hs hx;rw[<- h1.1];exact Sd (A8 h) h1.2.1
def tP(s:CS)(t:Nat×Nat×Nat×Nat):Fj:=p4 (gx s t.1).p (gx s t.2.1).p (gx s t.2.2.1).p (gx s t.2.2.2).p
def tB(s:CS)(t:Nat×Nat×Nat×Nat):Bool:=Q3 s t.1&&Q3 s t.2.1&&Q3 s t.2.2.1&&Q3 s t.2.2.2
theorem AFP{ρ:Bu}{s:CS}(hs:RN ρ s){t:Nat×Nat×Nat×Nat}(h:tB s t=true):0<=Er ρ (tP s t)/\Er ρ (tP s t)<FN:=by
 simp only[tB,Bj] at h;have a1:=Hg hs h.1.1.1;have a2:=Hg hs h.1.1.2;have a3:=Hg hs h.1.2;have a4:=Hg hs h.2;simp only[tP,p4,Ci,Cf];unfold FN;omega
def frU(s:CS)(t u:Nat×Nat×Nat×Nat)(h:Option X)(c:Nat)(r:List AV):Bool:=
 let c0:=Ir (enc u.2.2.2 1 0)
 let c1:=Ir (enc c 1 0)
 (Ol 0 (DZ (tP s u) (Cq (-1) (DZ (tP s t) (DZ (cK (-Oq)) (Cq FN c0))))) &&
 Ol 0 (DZ (gx s c).p (Cq (-1) (DZ (hP s h).1 (DZ (Cq (-1) c0) (Cq 18446744073709551616 c1))))) &&
 (match r with
 | [r0,r1,r2,r3]=>Ol 0 (DZ (p4 r0.p r1.p r2.p r3.p) (Cq (-1) (DZ (tP s u) (Ub [] c1 (DZ (tP s t) (Cq (-1) (tP s u)))))))&&((Bl 0 r0.lo&&Bl r0.hi 18446744073709551615)&&(Bl 0 r1.lo&&Bl r1.hi 18446744073709551615)&&(Bl 0 r2.lo&&Bl r2.hi 18446744073709551615)&&(Bl 0 r3.lo&&Bl r3.hi 18446744073709551615))
 |_=>false))&&(tB s t&&tB s u&&(hP s h).2&&(Q3 s c&&AA2 s c&&AA2 s u.2.2.2))
theorem ADx{ρ:Bu}{s:CS}(hs:RN ρ s){t u:Nat×Nat×Nat×Nat}{h:Option X}{c:Nat}{r:List AV}(ht:frU s t u h c r=true){l:List Int}(hl:iZ ρ l r){N:Int}(hN:N=Er ρ (tP s t)+FN*Er ρ (hP s h).1)(h2:N<2*Oq):
  u4 l/\0<=v4 l/\v4 l<Oq/\Oq ∣ v4 l-N:=by
 unfold frU at ht;simp only[Bj] at ht;obtain⟨⟨⟨t1,t2⟩,t4⟩,⟨⟨b1,b2⟩,b3⟩,⟨d1,d2⟩,d3⟩:=ht;split at t4
 ·rename_i r0 r1 r2 r3;simp only[Bj] at t4;obtain⟨t4,⟨⟨e0,e1⟩,e2⟩,e3⟩:=t4;obtain⟨x0,x1,x2,x3,rfl,g0,g1,g2,g3⟩:=hl.four;have q1:=pz (ρ:=ρ) t1;have q2:=pz (ρ:=ρ) t2;have q4:=pz (ρ:=ρ) t4;have b1:=AFP hs b1;have b2:=AFP hs b2;have b3:=AP5 hs b3;have d1:=Hg hs d1;have d2:=YS hs d2;have d3:=YS hs d3;have rb:∀ {a:AV} {x:Int},a.ok ρ x->(Bl 0 a.lo=true/\Bl a.hi 18446744073709551615=true)->0<=x/\x<=18446744073709551615:=λha hb=>by
   exact⟨Sd (A8 hb.1) ha.2.1,Sd ha.2.2.1 (A8 hb.2)⟩
  have f0:=rb g0 e0;have f1:=rb g1 e1;have f2:=rb g2 e2;have f3:=rb g3 e3;simp only[Ci,Cf,Rb,UD] at q1 q2 q4;simp only[p4,Ci,Cf, <- g0.1, <- g1.1, <- g2.1, <- g3.1] at q4;refine⟨⟨rfl,λk hk=>?_⟩,?_⟩
  ·match k,hk with
   |0,_=>exact f0
   |1,_=>exact f1
   |2,_=>exact f2
   |3,_=>exact f3
  ·unfold v4;simp only[Qx,aa];unfold Oq FN at *
   generalize Er ρ (tP s t)=T at *
   generalize Er ρ (tP s u)=S at *
   generalize Er ρ (hP s h).1=H at *
   generalize Er ρ (Ir (enc c 1 0))=cc at *
   generalize Er ρ (Ir (enc u.2.2.2 1 0))=c0 at *
   generalize Er ρ (gx s c).p=cw at *
   have hH:H=0:=by omega
   have hcc:cc=0\/cc=1:=by omega
   rcases hcc with rfl|rfl
   ·rw[RW,Mb] at q4;exact⟨by omega,by omega,⟨-1,by omega⟩⟩
   ·rw[zda] at q4;exact⟨by omega,by omega,⟨0,by omega⟩⟩
 ·cases t4
def frX(s:CS)(q t:Nat×Nat×Nat×Nat)(h:Option X)(X:Fj):Bool:=
 Ol 0 (DZ (Cq FN (DZ (tP s t) (Cq FN (hP s h).1))) (Cq (-1) (DZ X (Cq Oq (tP s q)))))&&tB s q
theorem ACB{ρ:Bu}{s:CS}(hs:RN ρ s){q t u:Nat×Nat×Nat×Nat}{h:Option X}{c:Nat}{X:Fj}{r:List AV}(hx:frX s q t h X=true)(ht:frU s t u h c r=true){l:List Int}(hl:iZ ρ l r)(hX:Er ρ X<Oq*FN):
  u4 l/\0<=v4 l/\v4 l<Oq/\(Oq ∣ v4 l*FN-Er ρ X):=by
 simp only[frX,Bj] at hx;have q1:=pz (ρ:=ρ) hx.1;have q2:=AFP hs hx.2;simp only[Ci,Cf] at q1;have hN:Er ρ (tP s t)+FN*Er ρ (hP s h).1<2*Oq:=by
  unfold Oq FN at *
  omega
 obtain⟨h1,h2,h3,k,hk⟩:=ADx hs ht hl rfl hN;refine⟨h1,h2,h3,⟨Er ρ (tP s q)+FN*k,?_⟩⟩;generalize v4 l=v at *
 generalize Er ρ (tP s t)+FN*Er ρ (hP s h).1=N at *
 rw[wK,Int.mul_left_comm];have:v=N+Oq*k:=by omega
 rw[this,Bx,bf N,bf (Oq*k)];omega
theorem ATy:(match Xl Br Bq ut [[],jP,jP] with
 |some (s,[r])=>frX s (1767,5639,9575,13511) (14454,14630,14806,14982) (some (.v 15110 0)) (Ub [] (wG 1) (wG 2))&&frU s (14454,14630,14806,14982) (15190,15350,15510,15670) (some (.v 15110 0)) 15814 r
 |_=>false)=true:=by kernel_rfl
def HA:Int:=1627715501170711445284395025044413883736156588369414752970002579683115011841
theorem ATe:(match Xl Au Av ut [[],jP] with
 |some (s,[r])=>frX s (1445,4709,8005,11301) (12180,12388,12564,12788) none (Cq HA (wG 1))&&frU s (12180,12388,12564,12788) (12868,13028,13188,13348) none 13476 r
 |_=>false)=true:=by kernel_rfl
theorem AUT:(match Xl BP BQ AF9 [[],jP,jP] with
 |some (s,[r])=>Ol 0 (DZ (DZ (tP s (166,438,710,982)) (Cq FN (hP s (some (.v 982 1))).1)) (Cq (-1) (DZ (wG 1) (wG 2))))&&frU s (166,438,710,982) (1126,1286,1446,1606) (some (.v 982 1)) 1750 r
 |_=>false)=true:=by kernel_rfl
structure uL (l:List Int):Prop where
 u:u4 l
 lt:v4 l<Oq
theorem AG7{v a b:List Int}(ha:uL a)(hb:u4 b):uL (Br.raw Bq 0 [v,a,b])/\(Oq ∣ v4 (Br.raw Bq 0 [v,a,b])*FN-v4 a*v4 b):=by
 have ht:=ATy;split at ht
 ·rename_i s r hr;simp only[Bj] at ht;obtain⟨_,ρ,h1,hS,h2⟩:=Q9 (We rfl rfl) hr (ins:=[v,a,b]) (LQ v (SS ha.u (SS hb (Hm _))));have hX:Er ρ (Ub [] (wG 1) (wG 2))=v4 a*v4 b:=by
   rw[UD,U3 ρ (h1 1 (by decide)),U3 ρ (h1 2 (by decide))];rfl
  have a1:=wz ha.u;have b1:=wz hb;have bj:v4 a*v4 b<Oq*FN:=by
   have h3:v4 a*v4 b<=(Oq-1)*v4 b:=Int.mul_le_mul_of_nonneg_right (by have:=ha.lt;omega) b1.1;have h4:(Oq-1)*v4 b<=(Oq-1)*FN:=Int.mul_le_mul_of_nonneg_left (by omega) (by decide);have h5:(Oq-1)*FN<Oq*FN:=by decide
   omega
  rw[<- hX] at bj ⊢;obtain⟨k1,k2,k3,k4⟩:=ACB hS ht.1 ht.2 (h2 0 r rfl) bj;exact⟨⟨k1,k3⟩,k4⟩
 ·cases ht
theorem AJB{v a:List Int}(ha:u4 a):uL (Au.raw Av 0 [v,a])/\(Oq ∣ v4 (Au.raw Av 0 [v,a])*FN-HA*v4 a):=by
 have ht:=ATe;split at ht
 ·rename_i s r hr;simp only[Bj] at ht;obtain⟨_,ρ,h1,hS,h2⟩:=Q9 (We rfl rfl) hr (ins:=[v,a]) (LQ v (SS ha (Hm _)));have hX:Er ρ (Cq HA (wG 1))=HA*v4 a:=by
   rw[Cf,U3 ρ (h1 1 (by decide))];rfl
  have a1:=wz ha;have bj:HA*v4 a<Oq*FN:=by
   unfold HA Oq FN at *
   omega
  rw[<- hX] at bj ⊢;obtain⟨k1,k2,k3,k4⟩:=ACB hS ht.1 ht.2 (h2 0 r rfl) bj;exact⟨⟨k1,k3⟩,k4⟩
 ·cases ht
theorem AIe{v a b:List Int}(ha:uL a)(hb:uL b):uL (BP.raw BQ 0 [v,a,b])/\(Oq ∣ v4 (BP.raw BQ 0 [v,a,b])-(v4 a+v4 b)):=by
 have ht:=AUT;split at ht
 ·rename_i s r hr;simp only[Bj] at ht;obtain⟨_,ρ,h1,hS,h2⟩:=Q9 (yh rfl) hr (ins:=[v,a,b]) (LQ v (SS ha.u (SS hb.u (Hm _))));have q:=pz (ρ:=ρ) ht.1;simp only[Ci,Cf] at q;rw[U3 ρ (h1 1 (by decide)),U3 ρ (h1 2 (by decide))] at q;change _=v4 a+v4 b at q;have:=ha.lt;have:=hb.lt;obtain⟨k1,k2,k3,k4⟩:=ADx hS ht.2 (h2 0 r rfl) (N:=v4 a+v4 b) (by omega) (by omega);exact⟨⟨k1,k3⟩,k4⟩
 ·cases ht
def leQ(j:Nat):Nat->Nat->Fj
 |0,_=>[]
 |n+1,k=>DZ (Ir (enc j k 0)) (Cq 256 (leQ j n (k+1)))
theorem ACz{ρ:Bu}{j:Nat}{l:List Int}(h:ρ j=l):∀(n k:Nat),k+n<=4096->l.length=k+n->Er ρ (leQ j n k)=Cm (l.drop k)
 |0,k,_,hl=>by
  rw[List.drop_of_length_le (by omega)];rfl
 |n+1,k,hk,hl=>by
  unfold leQ;rw[Ci,Cf,Gc,αv_enc0 ρ (by omega),ACz h n (k+1) (by omega) (by omega),h,List.drop_eq_getElem_cons (by omega:k<l.length)];simp only[Cm];rw[show l.getD k 0=l[k] by simp[List.getD,show k<l.length by omega]]
theorem ATG:(match XT BM BO [] [[],AQh] with
 |some [[r0,r1,r2,r3]]=>Ol 0 (DZ (p4 r0.p r1.p r2.p r3.p) (Cq (-1) (leQ 1 32 0)))
 |_=>false)=true:=by kernel_rfl
theorem ANi{v a:List Int}(ha:cI a)(hl:a.length=32):v4 (BM.raw BO 0 [v,a])=Cm a:=by
 have ht:=ATG;split at ht
 ·rename_i r0 r1 r2 r3 hr;obtain⟨_,ρ,h1,h2⟩:=kW (λf κ h=>by cases h) hr (ins:=[v,a]) (LQ v (ABV (by omega) ha hl (Hm _)));have hA:=h2 0 _ rfl;obtain⟨x0,x1,x2,x3,e,g0,g1,g2,g3⟩:=hA.four;have q:=pz (ρ:=ρ) ht;simp only[p4,Ci,Cf, <- g0.1, <- g1.1, <- g2.1, <- g3.1] at q;have hP:Er ρ (leQ 1 32 0)=Cm a:=by
   have:=ACz (h1 1 (by decide)) 32 0 (by omega) (by show a.length=_;omega);exact this
  rw[hP] at q;rw[e];unfold v4;simp only[Qx,aa];omega
 ·cases ht
end Go.Proofs.YtkbfdaoohhmgoaaGreatDoor
