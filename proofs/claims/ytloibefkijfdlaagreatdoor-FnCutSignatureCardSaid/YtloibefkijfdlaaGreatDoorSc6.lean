/- Scalars: products and sums modulo the order, in the form of Montgomery. -/
import Derived.Test.YtloibefkijfdlaaGreatDoorSd
namespace Go.Proofs.YtloibefkijfdlaaGreatDoor
open Go
def hP(s:CS):Option X->GU×Bool
 |none=>(X8 0,true)
 |some x=>match s.x x with
  |some a=>(a.p,Bh 0 a.lo)
  |none=>(X8 0,false)
theorem AQM{ρ:Br}{s:CS}(hs:OL ρ s){o:Option X}(h:(hP s o).2=true):0<=FU ρ (hP s o).1:=by
 cases o with
 |none=>exact Int.le_of_eq (P8 ρ 0).symm
 | some x=>
  unfold hP at h ⊢;cases hx:s.x x with
  |none=>simp only[hx] at h;cases h
  |some a=>
   simp only[hx] at h ⊢;have h1:=CS.gR hs hx;rw[<- h1.1];exact RP (A8 h) h1.2.1
def tP(s:CS)(t:Nat×Nat×Nat×Nat):GU:=p4 (gx s t.1).p (gx s t.2.1).p (gx s t.2.2.1).p (gx s t.2.2.2).p
def tB(s:CS)(t:Nat×Nat×Nat×Nat):Bool:=Qt s t.1&&Qt s t.2.1&&Qt s t.2.2.1&&Qt s t.2.2.2
theorem AA1{ρ:Br}{s:CS}(hs:OL ρ s){t:Nat×Nat×Nat×Nat}(h:tB s t=true):0<=FU ρ (tP s t)/\FU ρ (tP s t)<Fj:=by
 simp only[tB,Bl] at h;have a1:=Ij hs h.1.1.1;have a2:=Ij hs h.1.1.2;have a3:=Ij hs h.1.2;have a4:=Ij hs h.2;simp only[tP,p4,Cg,CZ];unfold Fj;omega
def frU(s:CS)(t u:Nat×Nat×Nat×Nat)(h:Option X)(c:Nat)(r:List AV):Bool:=
 let c0:=JV (enc u.2.2.2 1 0)
 let c1:=JV (enc c 1 0)
 (OC 0 (Di (tP s u) (Cr (-1) (Di (tP s t) (Di (X8 (-Mo)) (Cr Fj c0))))) &&
 OC 0 (Di (gx s c).p (Cr (-1) (Di (hP s h).1 (Di (Cr (-1) c0) (Cr 18446744073709551616 c1))))) &&
 (match r with
 | [r0,r1,r2,r3]=>OC 0 (Di (p4 r0.p r1.p r2.p r3.p) (Cr (-1) (Di (tP s u) (Tn [] c1 (Di (tP s t) (Cr (-1) (tP s u)))))))&&((Bh 0 r0.lo&&Bh r0.hi 18446744073709551615)&&(Bh 0 r1.lo&&Bh r1.hi 18446744073709551615)&&(Bh 0 r2.lo&&Bh r2.hi 18446744073709551615)&&(Bh 0 r3.lo&&Bh r3.hi 18446744073709551615))
 |_=>false))&&(tB s t&&tB s u&&(hP s h).2&&(Qt s c&&wu s c&&wu s u.2.2.2))
theorem ACR{ρ:Br}{s:CS}(hs:OL ρ s){t u:Nat×Nat×Nat×Nat}{h:Option X}{c:Nat}{r:List AV}(ht:frU s t u h c r=true){l:List Int}(hl:Za ρ l r){N:Int}(hN:N=FU ρ (tP s t)+Fj*FU ρ (hP s h).1)(h2:N<2*Mo):
  u4 l/\0<=v4 l/\v4 l<Mo/\Mo ∣ v4 l-N:=by
 unfold frU at ht;simp only[Bl] at ht;obtain⟨⟨⟨t1,t2⟩,t4⟩,⟨⟨b1,b2⟩,b3⟩,⟨d1,d2⟩,d3⟩:=ht;split at t4
 ·rename_i r0 r1 r2 r3;simp only[Bl] at t4;obtain⟨t4,⟨⟨e0,e1⟩,e2⟩,e3⟩:=t4;obtain⟨x0,x1,x2,x3,rfl,g0,g1,g2,g3⟩:=hl.four;have q1:=pz (ρ:=ρ) t1;have q2:=pz (ρ:=ρ) t2;have q4:=pz (ρ:=ρ) t4;have b1:=AA1 hs b1;have b2:=AA1 hs b2;have b3:=AQM hs b3;have d1:=Ij hs d1;have d2:=Xx hs d2;have d3:=Xx hs d3;have rb:∀ {a:AV} {x:Int},a.ok ρ x->(Bh 0 a.lo=true/\Bh a.hi 18446744073709551615=true)->0<=x/\x<=18446744073709551615:=λha hb=>by
   exact⟨RP (A8 hb.1) ha.2.1,RP ha.2.2.1 (A8 hb.2)⟩
  have f0:=rb g0 e0;have f1:=rb g1 e1;have f2:=rb g2 e2;have f3:=rb g3 e3;simp only[Cg,CZ,P8,TS] at q1 q2 q4;simp only[p4,Cg,CZ, <- g0.1, <- g1.1, <- g2.1, <- g3.1] at q4;refine⟨⟨rfl,λk hk=>?_⟩,?_⟩
  ·match k,hk with
   |0,_=>exact f0
   |1,_=>exact f1
   |2,_=>exact f2
   |3,_=>exact f3
  ·unfold v4;simp only[Ru,X7];unfold Mo Fj at *
   generalize FU ρ (tP s t)=T at *
   generalize FU ρ (tP s u)=S at *
   generalize FU ρ (hP s h).1=H at *
   generalize FU ρ (JV (enc c 1 0))=cc at *
   generalize FU ρ (JV (enc u.2.2.2 1 0))=c0 at *
   generalize FU ρ (gx s c).p=cw at *
   have hH:H=0:=by omega
   have hcc:cc=0\/cc=1:=by omega
   rcases hcc with rfl|rfl
   ·rw[zcv,HQ] at q4;exact⟨by omega,by omega,⟨-1,by omega⟩⟩
   ·rw[zda] at q4;exact⟨by omega,by omega,⟨0,by omega⟩⟩
 ·cases t4
def frX(s:CS)(q t:Nat×Nat×Nat×Nat)(h:Option X)(X:GU):Bool:=
 OC 0 (Di (Cr Fj (Di (tP s t) (Cr Fj (hP s h).1))) (Cr (-1) (Di X (Cr Mo (tP s q)))))&&tB s q
theorem ABx{ρ:Br}{s:CS}(hs:OL ρ s){q t u:Nat×Nat×Nat×Nat}{h:Option X}{c:Nat}{X:GU}{r:List AV}(hx:frX s q t h X=true)(ht:frU s t u h c r=true){l:List Int}(hl:Za ρ l r)(hX:FU ρ X<Mo*Fj):
  u4 l/\0<=v4 l/\v4 l<Mo/\(Mo ∣ v4 l*Fj-FU ρ X):=by
 simp only[frX,Bl] at hx;have q1:=pz (ρ:=ρ) hx.1;have q2:=AA1 hs hx.2;simp only[Cg,CZ] at q1;have hN:FU ρ (tP s t)+Fj*FU ρ (hP s h).1<2*Mo:=by
  unfold Mo Fj at *
  omega
 obtain⟨h1,h2,h3,k,hk⟩:=ACR hs ht hl rfl hN;refine⟨h1,h2,h3,⟨FU ρ (tP s q)+Fj*k,?_⟩⟩;generalize v4 l=v at *
 generalize FU ρ (tP s t)+Fj*FU ρ (hP s h).1=N at *
 rw[qR,Int.mul_left_comm];have:v=N+Mo*k:=by omega
 rw[this,HW,Xg N,Xg (Mo*k)];omega
theorem ARQ:(match XE Bw Bv mW [[],bQ,bQ] with
 |some (s,[r])=>frX s (1767,5639,9575,13511) (14454,14630,14806,14982) (some (.v 15110 0)) (Tn [] (vD 1) (vD 2))&&frU s (14454,14630,14806,14982) (15190,15350,15510,15670) (some (.v 15110 0)) 15814 r
 |_=>false)=true:=by kernel_rfl
def I0:Int:=1627715501170711445284395025044413883736156588369414752970002579683115011841
theorem ASM:(match XE Ay A7 mW [[],bQ] with
 |some (s,[r])=>frX s (1445,4709,8005,11301) (12180,12388,12564,12788) none (Cr I0 (vD 1))&&frU s (12180,12388,12564,12788) (12868,13028,13188,13348) none 13476 r
 |_=>false)=true:=by kernel_rfl
theorem ARw:(match XE BV BX AGN [[],bQ,bQ] with
 |some (s,[r])=>OC 0 (Di (Di (tP s (166,438,710,982)) (Cr Fj (hP s (some (.v 982 1))).1)) (Cr (-1) (Di (vD 1) (vD 2))))&&frU s (166,438,710,982) (1126,1286,1446,1606) (some (.v 982 1)) 1750 r
 |_=>false)=true:=by kernel_rfl
structure uL (l:List Int):Prop where
 u:u4 l
 lt:v4 l<Mo
theorem AFh{v a b:List Int}(ha:uL a)(hb:u4 b):uL (Bw.raw Bv 0 [v,a,b])/\(Mo ∣ v4 (Bw.raw Bv 0 [v,a,b])*Fj-v4 a*v4 b):=by
 have ht:=ARQ;split at ht
 ·rename_i s r hr;simp only[Bl] at ht;obtain⟨_,ρ,h1,hS,h2⟩:=Q0 (V5 rfl rfl) hr (ins:=[v,a,b]) (Me v (Qp ha.u (Qp hb (IL _))));have hX:FU ρ (Tn [] (vD 1) (vD 2))=v4 a*v4 b:=by
   rw[TS,UR ρ (h1 1 (by decide)),UR ρ (h1 2 (by decide))];rfl
  have a1:=rH ha.u;have b1:=rH hb;have cf:v4 a*v4 b<Mo*Fj:=by
   have h3:v4 a*v4 b<=(Mo-1)*v4 b:=Int.mul_le_mul_of_nonneg_right (by have:=ha.lt;omega) b1.1;have h4:(Mo-1)*v4 b<=(Mo-1)*Fj:=Int.mul_le_mul_of_nonneg_left (by omega) (by decide);have h5:(Mo-1)*Fj<Mo*Fj:=by decide
   omega
  rw[<- hX] at cf ⊢;obtain⟨k1,k2,k3,k4⟩:=ABx hS ht.1 ht.2 (h2 0 r rfl) cf;exact⟨⟨k1,k3⟩,k4⟩
 ·cases ht
theorem AGW{v a:List Int}(ha:u4 a):uL (Ay.raw A7 0 [v,a])/\(Mo ∣ v4 (Ay.raw A7 0 [v,a])*Fj-I0*v4 a):=by
 have ht:=ASM;split at ht
 ·rename_i s r hr;simp only[Bl] at ht;obtain⟨_,ρ,h1,hS,h2⟩:=Q0 (V5 rfl rfl) hr (ins:=[v,a]) (Me v (Qp ha (IL _)));have hX:FU ρ (Cr I0 (vD 1))=I0*v4 a:=by
   rw[CZ,UR ρ (h1 1 (by decide))];rfl
  have a1:=rH ha;have cf:I0*v4 a<Mo*Fj:=by
   unfold I0 Mo Fj at *
   omega
  rw[<- hX] at cf ⊢;obtain⟨k1,k2,k3,k4⟩:=ABx hS ht.1 ht.2 (h2 0 r rfl) cf;exact⟨⟨k1,k3⟩,k4⟩
 ·cases ht
theorem AGt{v a b:List Int}(ha:uL a)(hb:uL b):uL (BV.raw BX 0 [v,a,b])/\(Mo ∣ v4 (BV.raw BX 0 [v,a,b])-(v4 a+v4 b)):=by
 have ht:=ARw;split at ht
 ·rename_i s r hr;simp only[Bl] at ht;obtain⟨_,ρ,h1,hS,h2⟩:=Q0 (qp rfl) hr (ins:=[v,a,b]) (Me v (Qp ha.u (Qp hb.u (IL _))));have q:=pz (ρ:=ρ) ht.1;simp only[Cg,CZ] at q;rw[UR ρ (h1 1 (by decide)),UR ρ (h1 2 (by decide))] at q;change _=v4 a+v4 b at q;have:=ha.lt;have:=hb.lt;obtain⟨k1,k2,k3,k4⟩:=ACR hS ht.2 (h2 0 r rfl) (N:=v4 a+v4 b) (by omega) (by omega);exact⟨⟨k1,k3⟩,k4⟩
 ·cases ht
def leQ(j:Nat):Nat->Nat->GU
 |0,_=>[]
 |n+1,k=>Di (JV (enc j k 0)) (Cr 256 (leQ j n (k+1)))
theorem AAR{ρ:Br}{j:Nat}{l:List Int}(h:ρ j=l):∀(n k:Nat),k+n<=4096->l.length=k+n->FU ρ (leQ j n k)=Ct (l.drop k)
 |0,k,_,hl=>by
  rw[List.drop_of_length_le (by omega)];rfl
 |n+1,k,hk,hl=>by
  unfold leQ;rw[Cg,CZ,Gi,αv_enc0 ρ (by omega),AAR h n (k+1) (by omega) (by omega),h,List.drop_eq_getElem_cons (by omega:k<l.length)];simp only[Ct];rw[show l.getD k 0=l[k] by simp[List.getD,show k<l.length by omega]]
theorem ARV:(match Wd BP BO [] [[],AOh] with
 |some [[r0,r1,r2,r3]]=>OC 0 (Di (p4 r0.p r1.p r2.p r3.p) (Cr (-1) (leQ 1 32 0)))
 |_=>false)=true:=by kernel_rfl
theorem AKt{v a:List Int}(ha:cM a)(hl:a.length=32):v4 (BP.raw BO 0 [v,a])=Ct a:=by
 have ht:=ARV;split at ht
 ·rename_i r0 r1 r2 r3 hr;obtain⟨_,ρ,h1,h2⟩:=gD (λf κ h=>by cases h) hr (ins:=[v,a]) (Me v (AAk (by omega) ha hl (IL _)));have hA:=h2 0 _ rfl;obtain⟨x0,x1,x2,x3,e,g0,g1,g2,g3⟩:=hA.four;have q:=pz (ρ:=ρ) ht;simp only[p4,Cg,CZ, <- g0.1, <- g1.1, <- g2.1, <- g3.1] at q;have hP:FU ρ (leQ 1 32 0)=Ct a:=by
   have:=AAR (h1 1 (by decide)) 32 0 (by omega) (by show a.length=_;omega);exact this
  rw[hP] at q;rw[e];unfold v4;simp only[Ru,X7];omega
 ·cases ht
end Go.Proofs.YtloibefkijfdlaaGreatDoor
