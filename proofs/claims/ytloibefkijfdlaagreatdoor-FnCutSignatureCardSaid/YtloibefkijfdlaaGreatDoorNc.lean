/- The reference's numbers: products modulo the prime, an element's bytes; their contracts. -/
import Derived.Test.YtloibefkijfdlaaGreatDoorShx
namespace Go.Proofs.YtloibefkijfdlaaGreatDoor
section
open Go
def elB:List Int->List Int
 | [b0,b1,b2,b3,b4,b5,b6,b7,b8,b9,Ξ,Ψ,υ,τ,b14,b15,b16,b17,Ω,ψ,b20,b21,b22,b23,Δ,Γ,Θ,b27,b28,b29,b30,χ]=>[b0,b1,b2,b3,b4,b5,b6,b7,b8,b9,Ξ,Ψ,υ,τ,b14,b15,b16,b17,Ω,ψ,b20,b21,b22,b23,Δ,Γ,Θ,b27,b28,b29,b30,Ah .rem .u8 χ 128]
 |_=>[]
theorem AJ2{b:Int}(h:0<=b/\b<=255):Ah .rem .u8 b 128=b%128:=by
 show b.tmod 128=_;exact Int.tmod_eq_emod_of_nonneg h.1
theorem QL:∀ {x y:List Int},Ct (x++y)=Ct x+256^x.length*Ct y
 | [],y=>by simp[Ct]
 |a::x,y=>by
  simp only[zct,Ct,Uk,RW,QL (x:=x) (y:=y)];rw[qR,Xg (256^x.length) 256,Xt];omega
theorem qL{l:List Int}(hl:l.length=32)(h:cM l):elB l=l.take 31 ++ [l.getD 31 0%128]:=by
 match l,hl with
 | [b0,b1,b2,b3,b4,b5,b6,b7,b8,b9,Ξ,Ψ,υ,τ,b14,b15,b16,b17,Ω,ψ,b20,b21,b22,b23,Δ,Γ,Θ,b27,b28,b29,b30,χ],_=>
  have tg:=h χ (by simp);show[b0,b1,b2,b3,b4,b5,b6,b7,b8,b9,Ξ,Ψ,υ,τ,b14,b15,b16,b17,Ω,ψ,b20,b21,b22,b23,Δ,Γ,Θ,b27,b28,b29,b30,Ah .rem .u8 χ 128]=_;rw[AJ2 tg];rfl
theorem La.cM{l:List Int}{n:Nat}(h:La (List.replicate n .u8) l):l.length=n/\cM l:=by
 have hl:l.length=n:=by have:=h.1;simpa using this
 refine⟨hl,λx hx=>?_⟩;obtain⟨i,hi,rfl⟩:=dX hx;have:=h.2 i .u8 l[i] (by rw[iD,if_pos (by omega)]) (JC hi);exact⟨this.1,this.2⟩
section
variable{GB:Nat}{GC:Nat->Nat->Option Value}{ad:Nat->Nat×Nat}(hG:Gw GB GC ad)
include hG
end
end
section
open Go
def U8:List IntKind:=List.replicate 8 .u64
end
section
open Go Ma
def NF(l:List Int)(x:Fp):Prop:=N8 l (x.val:Int)
theorem NF.of{l:List Int}{m:Int}{x:Fp}(h:N8 l (m%spP))(hx:Lh m=x):NF l x:=by
 subst hx;unfold NF;rw[ML];exact h
theorem AIO(x:Fp):Lh (x.val:Int)=x:=AK0 x
theorem AQg{n:Nat}(h:n<1000):Ah .sub .i64 ((n+1:Nat):Int) 1=(n:Int):=by
 show IntKind.i64.wrap (((n+1:Nat):Int)-1)=_;rw[JZ (k:=.i64) ⟨by show(-9223372036854775808:Int)<=_;omega,by show _<=(9223372036854775807:Int);omega⟩];omega
theorem AL3:Ah .sub .i64 (0:Int) 1= -1:=by decide +kernel
def HI:Nat->Int
 |0=> -1
 |n+1=>n
theorem eO:∀ {n:Nat},n<1000->Ah .sub .i64 (HI (n+1)) 1=HI n
 |0,_=>AL3
 |_+1,h=>AQg (by omega)
section
variable{st:List (List Int)->Option (Bool×List (List Int))}{ob:List (List Int)->Prop}{ins r:List (List Int)}{f:Nat}
end
section
variable{o a e:List Int}{n:Nat}
end
theorem AEL:HI 256=255:=rfl
section
variable{GB:Nat}{GC:Nat->Nat->Option Value}{ad:Nat->Nat×Nat}(hG:Gw GB GC ad)
include hG
end
end
end Go.Proofs.YtloibefkijfdlaaGreatDoor
