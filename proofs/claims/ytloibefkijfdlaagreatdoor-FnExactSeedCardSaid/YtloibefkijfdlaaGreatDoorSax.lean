/- SHA-512 in plain words: what one round computes. SHA-512 in plain words: all rounds of a block. SHA-512 in plain words: blocks. -/
import Derived.Test.YtloibefkijfdlaaGreatDoorHc
namespace Go.Proofs.YtloibefkijfdlaaGreatDoor
open Go
def evP(T:Tb):Tree→List Bool→Env→Option ((Env×Ex×St)×List (Int×Bool))
 | .leaf e st,_,ρ=>some ((ρ,e,st),[])
 | .evs ds _ t,bs,ρ=>evP T t bs (upds T ρ ds)
 | .br x t f,bs,ρ=>match bs with
  |b::r=>(match (bif b then evP T t r ρ else evP T f r ρ) with
   |some (z,cs)=>some (z,(x.den ρ,b)::cs)
   |none=>none)
  | []=>none
 | .chk _ k,bs,ρ=>evP T k bs ρ
 | .brc _ _ _ _,_,_=>none
 | .bad _,_,_=>none
def pthOk(cs:List (Int×Bool)):Prop:=∀ c∈cs,(c.1=0↔c.2=false)
theorem evP_ok{T:Tb}:∀ {t:Tree} {bs:List Bool} {ρ:Env} {z:Env×Ex×St} {cs:List (Int×Bool)},evP T t bs ρ=some (z,cs)→pthOk cs→evX T t ρ=some z
 | .leaf e st,bs,ρ,z,cs,h,_=>by
  unfold evP at h
  simp only[osE,Prod.mk.injEq] at h
  rw[← h.1]; rfl
 | .evs ds ob t,bs,ρ,z,cs,h,hc=>by
  unfold evP at h
  exact evP_ok (t:=t) h hc
 | .br x t f,[],ρ,z,cs,h,_=>by
  unfold evP at h; cases h
 | .br x t f,b::bs,ρ,z,cs,h,hc=>by
  unfold evP at h
  simp only at h
  split at h
  ·rename_i z' cs' h'
   simp only[osE,Prod.mk.injEq] at h
   obtain⟨rfl,rfl⟩:=h
   have h0:=hc (x.den ρ,b) lmS
   have hr:pthOk cs':=fun c hm=>hc c (lmM _ hm)
   unfold evX
   cases b with
   |true=>
    rw[if_neg (fun e=>by have:=h0.1 e; cases this)]
    exact evP_ok (t:=t) h' hr
   |false=>
    rw[if_pos (h0.2 rfl)]
    exact evP_ok (t:=f) h' hr
  ·cases h
 | .brc f ar t e,bs,ρ,z,cs,h,_=>by
  unfold evP at h; cases h
 | .chk c k,bs,ρ,z,cs,h,hc=>by
  unfold evP at h
  exact evP_ok (t:=k) h hc
 | .bad s,bs,ρ,z,cs,h,_=>by
  unfold evP at h; cases h
def LpI.stepP(i:LpI)(C:Cx)(bs:List Bool)(ins:List (List Int)):Option ((Bool×List (List Int))×List (Int×Bool)):=
 match evP C.T (i.tree C) bs (insE ins) with
 |some ((ρ,e,st),cs)=>(match i.leaf e st with
  |some (b,al)=>some ((b,al.map (·.den ρ)),cs)
  |none=>none)
 |none=>none
theorem LpI.stepP_ok{i:LpI}{C:Cx}{bs:List Bool}{ins:List (List Int)}{z:Bool×List (List Int)}{cs:List (Int×Bool)}(h:i.stepP C bs ins=some (z,cs))(hc:pthOk cs):i.step C ins=some z:=by
 unfold LpI.stepP at h
 split at h
 ·rename_i ρ e st cs' hv
  split at h
  ·rename_i b al hl
   simp only[osE,Prod.mk.injEq] at h
   obtain⟨rfl,rfl⟩:=h
   unfold LpI.step
   rw[evP_ok hv hc]
   simp only[hl]
  ·cases h
 ·cases h
abbrev o64 (op:BinOp) (x y:Int):Int:=binD op .u64 x y
def rl(x k:Int):Int:=o64 .or (o64 .shl x k) (o64 .shr x (64-k))
def S1(e:Int):Int:=o64 .xor (o64 .xor (rl e 50) (rl e 46)) (rl e 23)
def S0(a:Int):Int:=o64 .xor (o64 .xor (rl a 36) (rl a 30)) (rl a 25)
def s1w(v:Int):Int:=o64 .xor (o64 .xor (rl v 45) (rl v 3)) (o64 .shr v 6)
def s0w(v:Int):Int:=o64 .xor (o64 .xor (rl v 63) (rl v 56)) (o64 .shr v 7)
def Ch(e f g:Int):Int:=o64 .xor (o64 .and e f) (o64 .and (o64 .xor 18446744073709551615 e) g)
def Mj(a b c:Int):Int:=o64 .xor (o64 .xor (o64 .and a b) (o64 .and a c)) (o64 .and b c)
def b8(bl:List Int)(j:Int):Int:=IntKind.u64.wrap (bl.getD j.toNat 0)
def ai(i j:Int):Int:=binD .add .i64 i j
def si(i j:Int):Int:=binD .sub .i64 i j
def wd(bl:List Int)(j:Int):Int:=
 o64 .or (o64 .or (o64 .or (o64 .or (o64 .or (o64 .or (o64 .or (o64 .shl (b8 bl j) 56) (o64 .shl (b8 bl (ai j 1)) 48)) (o64 .shl (b8 bl (ai j 2)) 40)) (o64 .shl (b8 bl (ai j 3)) 32)) (o64 .shl (b8 bl (ai j 4)) 24)) (o64 .shl (b8 bl (ai j 5)) 16)) (o64 .shl (b8 bl (ai j 6)) 8)) (b8 bl (ai j 7))
def wat(ws:List Int)(j:Int):Int:=ws.getD j.toNat 0
def nw(ws:List Int)(i:Int):Int:=o64 .add (o64 .add (o64 .add (s1w (wat ws (si i 2))) (wat ws (si i 7))) (s0w (wat ws (si i 15)))) (wat ws (si i 16))
def T1(k e f g h w:Int):Int:=o64 .add (o64 .add (o64 .add (o64 .add h (S1 e)) (Ch e f g)) k) w
def T2(a b c:Int):Int:=o64 .add (S0 a) (Mj a b c)
def lvI:LV→Int
 | .int _ (.lit n)=>n
 |_=>0
def kTab:List Int:=match allG.find? (fun p=>Nat.beq p.2.length 80) with
 |some p=>p.2.map lvI
 |none=> []
def rOut(bl ws:List Int)(i w a b c d e f g h:Int):List (List Int):=
 let ws':=ws.set i.toNat w
 let t:=T1 (wat kTab i) e f g h (wat ws' i)
 [[o64 .add t (T2 a b c)],[a],[b],[c],[o64 .add d t],[e],[f],[g],[ai i 1],ws',bl]
end Go.Proofs.YtloibefkijfdlaaGreatDoor

namespace Go.Proofs.YtloibefkijfdlaaGreatDoor
open Go
structure V8 where
 a:Int
 b:Int
 c:Int
 d:Int
 e:Int
 f:Int
 g:Int
 h:Int
def V8.l(v:V8):List Int:= [v.a,v.b,v.c,v.d,v.e,v.f,v.g,v.h]
def V8.ls(v:V8):List (List Int):= [[v.a],[v.b],[v.c],[v.d],[v.e],[v.f],[v.g],[v.h]]
def V8.of(l:List Int):V8:=⟨l.getD 0 0,l.getD 1 0,l.getD 2 0,l.getD 3 0,l.getD 4 0,l.getD 5 0,l.getD 6 0,l.getD 7 0⟩
theorem V8.of_l{l:List Int}(h:l.length=8):(V8.of l).l=l:=by
 match l,h with
 | [a,b,c,d,e,f,g,i],_=>rfl
def rndV(v:V8)(k w:Int):V8:=
 let t:=T1 k v.e v.f v.g v.h w
 ⟨o64 .add t (T2 v.a v.b v.c),v.a,v.b,v.c,o64 .add v.d t,v.e,v.f,v.g⟩
def bN(bl:List Int)(j:Nat):Int:=IntKind.u64.wrap (bl.getD j 0)
def wdN(bl:List Int)(j:Nat):Int:=
 o64 .or (o64 .or (o64 .or (o64 .or (o64 .or (o64 .or (o64 .or (o64 .shl (bN bl j) 56) (o64 .shl (bN bl (j+1)) 48)) (o64 .shl (bN bl (j+2)) 40)) (o64 .shl (bN bl (j+3)) 32)) (o64 .shl (bN bl (j+4)) 24)) (o64 .shl (bN bl (j+5)) 16)) (o64 .shl (bN bl (j+6)) 8)) (bN bl (j+7))
def nwN(ws:List Int)(i:Nat):Int:=o64 .add (o64 .add (o64 .add (s1w (ws.getD (i-2) 0)) (ws.getD (i-7) 0)) (s0w (ws.getD (i-15) 0))) (ws.getD (i-16) 0)
def wiN(bl ws:List Int)(n:Nat):Int:=if n<16 then wdN bl (n*8) else nwN ws n
def sch(bl:List Int):Nat→List Int
 |0=> []
 |n+1=>sch bl n ++ [wiN bl (sch bl n) n]
theorem sch_len(bl:List Int):∀ n,(sch bl n).length=n
 |0=>rfl
 |n+1=>by simp[sch,sch_len bl n]
def rV(bl:List Int)(v:V8):Nat→V8
 |0=>v
 |n+1=>rndV (rV bl v n) (kTab.getD n 0) (wiN bl (sch bl n) n)
def cpr(h bl:List Int):List Int:=List.zipWith (o64 .add) h (rV bl (V8.of h) 80).l
def cprN:Nat→List Int→List Int→List Int
 |0,h,_=>h
 |n+1,h,xs=>cprN n (cpr h (xs.take 128)) (xs.drop 128)
theorem wr64{x:Int}(h: -9223372036854775808≤x)(h2:x≤9223372036854775807):IntKind.i64.wrap x=x:=wrap_in (k:=.i64) ⟨h,h2⟩
theorem ai_nat{j k:Nat}(h:j+k<1000000):ai (j:Int) (k:Int)=((j+k:Nat):Int):=by
 show IntKind.i64.wrap ((j:Int)+k)=_
 rw[wr64 (by omega) (by omega)]; omega
theorem si_nat{j k:Nat}(h:j<1000000)(hk:k≤j):si (j:Int) (k:Int)=((j-k:Nat):Int):=by
 show IntKind.i64.wrap ((j:Int)-k)=_
 rw[wr64 (by omega) (by omega)]; omega
theorem mi_nat{j k:Nat}(h:j*k<1000000):binD .mul .i64 (j:Int) (k:Int)=((j*k:Nat):Int):=by
 show IntKind.i64.wrap ((j:Int)*k)=_
 have e:(j:Int)*k=((j*k:Nat):Int):=by push_cast; rfl
 rw[e,wr64 (by omega) (by omega)]
theorem b8_nat(bl:List Int)(j:Nat):b8 bl (j:Int)=bN bl j:=by simp[b8,bN]
theorem wd_nat(bl:List Int){j:Nat}(h:j<1000):wd bl (j:Int)=wdN bl j:=by
 unfold wd wdN
 have e:∀ k:Nat,k<8→b8 bl (ai (j:Int) (k:Int))=bN bl (j+k):=fun k hk=>by
  rw[ai_nat (by omega),b8_nat]
 have e1:b8 bl (ai (j:Int) 1)=bN bl (j+1):=e 1 (by omega)
 have e2:b8 bl (ai (j:Int) 2)=bN bl (j+2):=e 2 (by omega)
 have e3:b8 bl (ai (j:Int) 3)=bN bl (j+3):=e 3 (by omega)
 have e4:b8 bl (ai (j:Int) 4)=bN bl (j+4):=e 4 (by omega)
 have e5:b8 bl (ai (j:Int) 5)=bN bl (j+5):=e 5 (by omega)
 have e6:b8 bl (ai (j:Int) 6)=bN bl (j+6):=e 6 (by omega)
 have e7:b8 bl (ai (j:Int) 7)=bN bl (j+7):=e 7 (by omega)
 rw[b8_nat,e1,e2,e3,e4,e5,e6,e7]
theorem wat_nat(ws:List Int)(j:Nat):wat ws (j:Int)=ws.getD j 0:=by simp[wat]
theorem nw_nat{ws ys:List Int}{n:Nat}(h:16≤n)(h2:n<80)(hl:ws.length=n):nw (ws++ys) (n:Int)=nwN ws n:=by
 unfold nw nwN
 have e:∀ k:Nat,0<k→k≤16→wat (ws++ys) (si (n:Int) (k:Int))=ws.getD (n-k) 0:=fun k h0 hk=>by
  rw[si_nat (by omega) (by omega),wat_nat]
  simp only[List.getD]
  rw[List.getElem?_append_left (by omega)]
 have e2:wat (ws++ys) (si (n:Int) 2)=ws.getD (n-2) 0:=e 2 (by omega) (by omega)
 have e7:wat (ws++ys) (si (n:Int) 7)=ws.getD (n-7) 0:=e 7 (by omega) (by omega)
 have e15:wat (ws++ys) (si (n:Int) 15)=ws.getD (n-15) 0:=e 15 (by omega) (by omega)
 have e16:wat (ws++ys) (si (n:Int) 16)=ws.getD (n-16) 0:=e 16 (by omega) (by omega)
 rw[e2,e7,e15,e16]
theorem set_next{ws ys:List Int}{n:Nat}{x:Int}(hl:ws.length=n)(hy:0<ys.length):(ws++ys).set n x=(ws ++ [x])++ys.drop 1:=by
 subst hl
 rw[List.set_append_right _ _ (Nat.le_refl _),Nat.sub_self,List.append_assoc]
 match ys,hy with
 |y::ys,_=>rfl
theorem lss_t{i j:Nat}(h:i<j):binD .lss .i64 (i:Int) (j:Int)=1:=by
 show b01 (decide ((i:Int)<j))=1
 rw[decide_eq_true (by omega)]; rfl
theorem lss_f{i j:Nat}(h:j≤i):binD .lss .i64 (i:Int) (j:Int)=0:=by
 show b01 (decide ((i:Int)<j))=0
 rw[decide_eq_false (by omega)]; rfl
theorem rOut_eq{bl ws ys:List Int}{n:Nat}{x:Int}{v:V8}(hn:n<80)(hl:ws.length=n)(hy:0<ys.length):rOut bl (ws++ys) (n:Int) x v.a v.b v.c v.d v.e v.f v.g v.h=(rndV v (kTab.getD n 0) x).ls ++ [[((n+1:Nat):Int)],(ws ++ [x])++ys.drop 1,bl]:=by
 have e1:ai (n:Int) 1=((n+1:Nat):Int):=ai_nat (j:=n) (k:=1) (by omega)
 unfold rOut
 simp only[e1,wat_nat,Int.toNat_natCast,set_next hl hy]
 have e2:(ws ++ [x]++ys.drop 1).getD n 0=x:=by
  simp only[List.getD,List.append_assoc]
  rw[List.getElem?_append_right (by omega),hl,Nat.sub_self]; rfl
 rw[e2]; rfl
end Go.Proofs.YtloibefkijfdlaaGreatDoor

namespace Go.Proofs.YtloibefkijfdlaaGreatDoor
open Go
end Go.Proofs.YtloibefkijfdlaaGreatDoor
