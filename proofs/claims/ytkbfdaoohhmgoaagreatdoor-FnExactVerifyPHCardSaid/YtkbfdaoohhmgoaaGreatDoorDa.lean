/- The types of the program, as the executor reads them; the facts on the program on which the contracts stand. -/
import Derived.Test.YtkbfdaoohhmgoaaGreatDoorSb
import Derived.Test.YtkbfdaoohhmgoaaGreatDoorProg
import Derived.ChangeKeysEq
namespace Go.Proofs.YtkbfdaoohhmgoaaGreatDoor
section
open Go
def yD:List (Nat×TD):=[
 (2,⟨(.int .i64),1,8,false,[.int .i64 (.lit 0)]⟩),
 (3,⟨(.int .i64),1,8,false,[.int .i64 (.lit 0)]⟩),
 (4,⟨.other,1,1,false,[.bool (.lit 0)]⟩),
 (5,⟨(.int .u8),1,1,false,[.int .u8 (.lit 0)]⟩),
 (6,⟨(.int .u8),1,1,false,[.int .u8 (.lit 0)]⟩),
 (7,⟨(.str [(0,2),(1,3),(2,4),(3,6)]),4,24,true,[.int .i64 (.lit 0),.int .i64 (.lit 0)] ++ [.bool (.lit 0)] ++ [.int .u8 (.lit 0)]⟩),
 (8,⟨(.str [(0,2),(1,3),(2,4),(3,6)]),4,24,true,[.int .i64 (.lit 0),.int .i64 (.lit 0)] ++ [.bool (.lit 0)] ++ [.int .u8 (.lit 0)]⟩),
 (9,⟨.stg,1,16,false,[.val (.string ⟨#[]⟩)]⟩),
 (10,⟨.stg,1,16,false,[.val (.string ⟨#[]⟩)]⟩),
 (11,⟨.stg,1,16,false,[.val (.string ⟨#[]⟩)]⟩),
 (12,⟨(.int .u64),1,8,false,[.int .u64 (.lit 0)]⟩),
 (13,⟨(.str [(0,9),(1,12)]),2,24,true,[.val (.string ⟨#[]⟩)] ++ [.int .u64 (.lit 0)]⟩),
 (14,⟨(.str [(0,9),(1,12)]),2,24,true,[.val (.string ⟨#[]⟩)] ++ [.int .u64 (.lit 0)]⟩),
 (15,⟨(.ptr 215),1,8,false,[.nil]⟩),
 (16,⟨(.ptr 218),1,8,false,[.nil]⟩),
 (17,⟨(.ptr 226),1,8,false,[.nil]⟩),
 (18,⟨(.str [(0,17)]),1,8,true,[.nil]⟩),
 (19,⟨(.str [(0,17)]),1,8,true,[.nil]⟩),
 (20,⟨.iface,1,16,false,[.ej]⟩),
 (21,⟨(.int .i32),1,4,false,[.int .i32 (.lit 0)]⟩),
 (22,⟨(.sl 5),1,24,false,[.CM]⟩),
 (31,⟨(.ptr 64),1,8,false,[.nil]⟩),
 (32,⟨.iface,1,16,false,[.ej]⟩),
 (33,⟨.iface,1,16,false,[.ej]⟩),
 (38,⟨(.int .u64),1,8,false,[.int .u64 (.lit 0)]⟩),
 (39,⟨(.arr 8 38),8,64,true,List.replicate 8 (.int .u64 (.lit 0))⟩),
 (40,⟨(.arr 8 38),8,64,true,List.replicate 8 (.int .u64 (.lit 0))⟩),
 (41,⟨(.str [(0,40),(8,40),(16,40)]),24,192,true,List.replicate 24 (.int .u64 (.lit 0))⟩),
 (42,⟨(.str [(0,40),(8,40),(16,40)]),24,192,true,List.replicate 24 (.int .u64 (.lit 0))⟩),
 (45,⟨(.arr 32 5),32,32,true,List.replicate 32 (.int .u8 (.lit 0))⟩),
 (57,⟨(.arr 0 1),0,0,true,[]⟩),
 (58,⟨(.arr 0 1),0,0,true,[]⟩),
 (59,⟨(.str [(0,38),(1,38),(2,38),(3,38),(4,38)]),5,40,true,List.replicate 5 (.int .u64 (.lit 0))⟩),
 (60,⟨(.str [(0,38),(1,38),(2,38),(3,38),(4,38)]),5,40,true,List.replicate 5 (.int .u64 (.lit 0))⟩),
 (61,⟨(.str [(0,58),(0,60),(5,60),(10,60),(15,60)]),20,160,true,List.replicate 20 (.int .u64 (.lit 0))⟩),
 (62,⟨(.str [(0,58),(0,60),(5,60),(10,60),(15,60)]),20,160,true,List.replicate 20 (.int .u64 (.lit 0))⟩),
 (63,⟨(.str [(0,62),(20,45)]),52,192,true,List.replicate 20 (.int .u64 (.lit 0))++List.replicate 32 (.int .u8 (.lit 0))⟩),
 (64,⟨(.str [(0,62),(20,45)]),52,192,true,List.replicate 20 (.int .u64 (.lit 0))++List.replicate 32 (.int .u8 (.lit 0))⟩),
 (77,⟨(.ptr 62),1,8,false,[.nil]⟩),
 (81,⟨(.arr 16 38),16,128,true,List.replicate 16 (.int .u64 (.lit 0))⟩),
 (83,⟨(.ptr 85),1,8,false,[.nil]⟩),
 (84,⟨(.str [(0,9)]),1,16,true,[.val (.string ⟨#[]⟩)]⟩),
 (85,⟨(.str [(0,9)]),1,16,true,[.val (.string ⟨#[]⟩)]⟩),
 (86,⟨(.ptr 115),1,8,false,[.nil]⟩),
 (90,⟨(.ptr 122),1,8,false,[.nil]⟩),
 (98,⟨(.ptr 60),1,8,false,[.nil]⟩),
 (107,⟨(.int .u64),1,8,false,[.int .u64 (.lit 0)]⟩),
 (108,⟨(.arr 80 38),80,640,true,List.replicate 80 (.int .u64 (.lit 0))⟩),
 (113,⟨(.arr 128 5),128,128,true,List.replicate 128 (.int .u8 (.lit 0))⟩),
 (114,⟨(.str [(0,39),(8,113),(136,3),(137,38),(138,3)]),139,216,true,List.replicate 8 (.int .u64 (.lit 0))++List.replicate 128 (.int .u8 (.lit 0)) ++ [.int .i64 (.lit 0)] ++ [.int .u64 (.lit 0)] ++ [.int .i64 (.lit 0)]⟩),
 (115,⟨(.str [(0,39),(8,113),(136,3),(137,38),(138,3)]),139,216,true,List.replicate 8 (.int .u64 (.lit 0))++List.replicate 128 (.int .u8 (.lit 0)) ++ [.int .i64 (.lit 0)] ++ [.int .u64 (.lit 0)] ++ [.int .i64 (.lit 0)]⟩),
 (117,⟨(.arr 64 5),64,64,true,List.replicate 64 (.int .u8 (.lit 0))⟩),
 (119,⟨(.arr 4 38),4,32,true,List.replicate 4 (.int .u64 (.lit 0))⟩),
 (120,⟨(.arr 4 38),4,32,true,List.replicate 4 (.int .u64 (.lit 0))⟩),
 (121,⟨(.str [(0,120)]),4,32,true,List.replicate 4 (.int .u64 (.lit 0))⟩),
 (122,⟨(.str [(0,120)]),4,32,true,List.replicate 4 (.int .u64 (.lit 0))⟩),
 (126,⟨(.ptr 119),1,8,false,[.nil]⟩),
 (127,⟨(.ptr 120),1,8,false,[.nil]⟩),
 (128,⟨(.ptr 45),1,8,false,[.nil]⟩),
 (130,⟨(.ptr 210),1,8,false,[.nil]⟩),
 (132,⟨(.ptr 184),1,8,false,[.nil]⟩),
 (134,⟨(.str [(0,60),(5,60),(10,60),(15,60)]),20,160,true,List.replicate 20 (.int .u64 (.lit 0))⟩),
 (135,⟨(.str [(0,60),(5,60),(10,60),(15,60)]),20,160,true,List.replicate 20 (.int .u64 (.lit 0))⟩),
 (136,⟨(.arr 8 135),160,1280,true,List.replicate 160 (.int .u64 (.lit 0))⟩),
 (137,⟨(.str [(0,136)]),160,1280,true,List.replicate 160 (.int .u64 (.lit 0))⟩),
 (138,⟨(.str [(0,136)]),160,1280,true,List.replicate 160 (.int .u64 (.lit 0))⟩),
 (140,⟨(.int .i8),1,1,false,[.int .i8 (.lit 0)]⟩),
 (141,⟨(.arr 256 140),256,256,true,List.replicate 256 (.int .i8 (.lit 0))⟩),
 (143,⟨(.ptr 135),1,8,false,[.nil]⟩),
 (144,⟨(.ptr 146),1,8,false,[.nil]⟩),
 (145,⟨(.str [(0,60),(5,60),(10,60)]),15,120,true,List.replicate 15 (.int .u64 (.lit 0))⟩),
 (146,⟨(.str [(0,60),(5,60),(10,60)]),15,120,true,List.replicate 15 (.int .u64 (.lit 0))⟩),
 (147,⟨(.ptr 149),1,8,false,[.nil]⟩),
 (148,⟨(.str [(0,60),(5,60),(10,60),(15,60)]),20,160,true,List.replicate 20 (.int .u64 (.lit 0))⟩),
 (149,⟨(.str [(0,60),(5,60),(10,60),(15,60)]),20,160,true,List.replicate 20 (.int .u64 (.lit 0))⟩),
 (150,⟨(.ptr 152),1,8,false,[.nil]⟩),
 (151,⟨(.str [(0,60),(5,60),(10,60)]),15,120,true,List.replicate 15 (.int .u64 (.lit 0))⟩),
 (152,⟨(.str [(0,60),(5,60),(10,60)]),15,120,true,List.replicate 15 (.int .u64 (.lit 0))⟩),
 (168,⟨(.arr 24 5),24,24,true,List.replicate 24 (.int .u8 (.lit 0))⟩),
 (173,⟨(.arr 144 5),144,144,true,List.replicate 144 (.int .u8 (.lit 0))⟩),
 (178,⟨(.int .u64),1,8,false,[.int .u64 (.lit 0)]⟩),
 (180,⟨(.ptr 38),1,8,false,[.nil]⟩),
 (181,⟨(.sl 77),1,24,false,[.CM]⟩),
 (182,⟨(.arr 64 146),960,7680,true,List.replicate 960 (.int .u64 (.lit 0))⟩),
 (183,⟨(.str [(0,182)]),960,7680,true,List.replicate 960 (.int .u64 (.lit 0))⟩),
 (184,⟨(.str [(0,182)]),960,7680,true,List.replicate 960 (.int .u64 (.lit 0))⟩),
 (186,⟨(.ptr 138),1,8,false,[.nil]⟩),
 (189,⟨(.arr 5 38),5,40,true,List.replicate 5 (.int .u64 (.lit 0))⟩),
 (192,⟨(.str [(0,38),(1,38)]),2,16,true,[.int .u64 (.lit 0),.int .u64 (.lit 0)]⟩),
 (193,⟨(.str [(0,38),(1,38)]),2,16,true,[.int .u64 (.lit 0),.int .u64 (.lit 0)]⟩),
 (202,⟨(.arr 20 38),20,160,true,List.replicate 20 (.int .u64 (.lit 0))⟩),
 (203,⟨(.int .u32),1,4,false,[.int .u32 (.lit 0)]⟩),
 (204,⟨(.arr 65 5),65,65,true,List.replicate 65 (.int .u8 (.lit 0))⟩),
 (210,⟨(.arr 4 38),4,32,true,List.replicate 4 (.int .u64 (.lit 0))⟩),
 (214,⟨(.str [(0,17),(1,17),(2,17),(3,9)]),4,40,true,[.nil,.nil,.nil] ++ [.val (.string ⟨#[]⟩)]⟩),
 (215,⟨(.str [(0,17),(1,17),(2,17),(3,9)]),4,40,true,[.nil,.nil,.nil] ++ [.val (.string ⟨#[]⟩)]⟩),
 (216,⟨(.arr 0 16),0,0,true,[]⟩),
 (217,⟨(.str [(0,216)]),0,0,true,[]⟩),
 (218,⟨(.str [(0,216)]),0,0,true,[]⟩),
 (219,⟨(.int .u8),1,1,false,[.int .u8 (.lit 0)]⟩),
 (220,⟨(.int .u8),1,1,false,[.int .u8 (.lit 0)]⟩),
 (222,⟨(.ptr 5),1,8,false,[.nil]⟩),
 (223,⟨(.int .i32),1,4,false,[.int .i32 (.lit 0)]⟩),
 (224,⟨(.int .i32),1,4,false,[.int .i32 (.lit 0)]⟩),
 (229,⟨.other,1,8,false,[.nil]⟩)]
theorem ACf:yD.map (λp=>TD.of Tryz.prog p.1)=yD.map (λp=>some p.2):=by kernel_rfl
theorem ZL{α β:Type}{f g:α->β}:∀ {l:List α},l.map f=l.map g->∀x∈l,f x=g x
 | [],_,x,h=>by cases h
 |a::l,h,x,hx=>by
  simp only[NM,List.cons.injEq] at h;rcases G9.1 hx with rfl|hx
  ·exact h.1
  ·exact ZL h.2 x hx
theorem AEf:AHA Tryz.prog yD:=λt d h=>ZL ACf (t,d) (OU h)
def ADh:Array Value->Sem Value:=λargs=>do
 let (x,y,b) <- Extern.MathBitsCarry.three "Sub64" args
 pure (Extern.MathBitsCarry.pair ((x+Extern.MathBitsCarry.m64-y-b)%Extern.MathBitsCarry.m64) (if x<y+b then 1 else 0))
theorem ALi(x y c:Int)(w:World)(hx:0<=x)(hy:0<=y)(hc:c=0\/c=1):(callFunc 123 #[.int .u64 x,.int .u64 y,.int .u64 c]).run Tryz.prog w=
  .ok (.value (.tuple #[.int .u64 ((x+y+c)%18446744073709551616),.int .u64 ((x+y+c)/18446744073709551616)])) w:=by
 rw[run_callFunc_extern Tryz.func123 (by kernel_rfl) (by kernel_rfl) (by kernel_rfl) (e:=add64Entry) (by kernel_rfl)];obtain⟨x',rfl⟩:=kC hx;obtain⟨y',rfl⟩:=kC hy;have h:∀c':Nat,c'<=1->((add64Entry #[.int .u64 x',.int .u64 y',.int .u64 c']).run Tryz.prog w).andThen (λ(v:Value) w'=>Result.ok (Next.value v) w')=Result.ok (Next.value (.tuple #[.int .u64 (((x'+y'+c')%18446744073709551616:Nat):Int),.int .u64 (((x'+y'+c')/18446744073709551616:Nat):Int)])) w:=λc' j8=>by
  have:c'=0\/c'=1:=by omega
  rcases this with rfl|rfl<;>rfl
 rcases hc with rfl|rfl
 ·exact h 0 (by omega)
 ·exact h 1 (by omega)
theorem AEv(x y c:Int)(w:World)(hx:0<=x)(hy:0<=y)(hc:c=0\/c=1)(hy2:y<18446744073709551616):(callFunc 121 #[.int .u64 x,.int .u64 y,.int .u64 c]).run Tryz.prog w=
  .ok (.value (.tuple #[.int .u64 ((x+18446744073709551616-y-c)%18446744073709551616),.int .u64 (if x<y+c then 1 else 0)])) w:=by
 rw[run_callFunc_extern Tryz.func121 (by kernel_rfl) (by kernel_rfl) (by kernel_rfl) (e:=ADh) (by kernel_rfl)];obtain⟨x',rfl⟩:=kC hx;obtain⟨y',rfl⟩:=kC hy;have h:∀c':Nat,c'<=1->((ADh #[.int .u64 x',.int .u64 y',.int .u64 c']).run Tryz.prog w).andThen (λ(v:Value) w'=>Result.ok (Next.value v) w')=Result.ok (Next.value (.tuple #[.int .u64 (((x'+18446744073709551616-y'-c')%18446744073709551616:Nat):Int),.int .u64 ((if x'<y'+c' then 1 else 0:Nat):Int)])) w:=λc' j8=>by
  have:c'=0\/c'=1:=by omega
  rcases this with rfl|rfl<;>rfl
 have key:∀c':Nat,c'<=1->(((x'+18446744073709551616-y'-c')%18446744073709551616:Nat):Int)=((x':Int)+18446744073709551616-y'-c')%18446744073709551616/\((if x'<y'+c' then 1 else 0:Nat):Int)=(if(x':Int)<y'+c' then 1 else 0):=λc' j8=>by
  constructor
  ·omega
  ·split<;>split<;>omega
 rcases hc with rfl|rfl
 ·have h0:=h 0 (by omega);rw[(key 0 (by omega)).1,(key 0 (by omega)).2] at h0;exact h0
 ·have h0:=h 1 (by omega);rw[(key 1 (by omega)).1,(key 1 (by omega)).2] at h0;exact h0
theorem AQx:Tryz.prog.follows .mixedOrders=true:=by kernel_rfl
end
section
open Go
def Uc:fP:=[
 (0,[.ptr 506 0]),
 (1,[.ptr 507 0]),
 (2,[.ptr 508 0]),
 (3,[.ptr 509 0]),
 (4,[.ptr 510 0]),
 (7,[.int .u64 (.lit 4794697086780616226),.int .u64 (.lit 8158064640168781261),.int .u64 (.lit 13096744586834688815),.int .u64 (.lit 16840607885511220156),.int .u64 (.lit 4131703408338449720),.int .u64 (.lit 6480981068601479193),.int .u64 (.lit 10538285296894168987),.int .u64 (.lit 12329834152419229976),.int .u64 (.lit 15566598209576043074),.int .u64 (.lit 1334009975649890238),.int .u64 (.lit 2608012711638119052),.int .u64 (.lit 6128411473006802146),.int .u64 (.lit 8268148722764581231),.int .u64 (.lit 9286055187155687089),.int .u64 (.lit 11230858885718282805),.int .u64 (.lit 13951009754708518548),.int .u64 (.lit 16472876342353939154),.int .u64 (.lit 17275323862435702243),.int .u64 (.lit 1135362057144423861),.int .u64 (.lit 2597628984639134821),.int .u64 (.lit 3308224258029322869),.int .u64 (.lit 5365058923640841347),.int .u64 (.lit 6679025012923562964),.int .u64 (.lit 8573033837759648693),.int .u64 (.lit 10970295158949994411),.int .u64 (.lit 12119686244451234320),.int .u64 (.lit 12683024718118986047),.int .u64 (.lit 13788192230050041572),.int .u64 (.lit 14330467153632333762),.int .u64 (.lit 15395433587784984357),.int .u64 (.lit 489312712824947311),.int .u64 (.lit 1452737877330783856),.int .u64 (.lit 2861767655752347644),.int .u64 (.lit 3322285676063803686),.int .u64 (.lit 5560940570517711597),.int .u64 (.lit 5996557281743188959),.int .u64 (.lit 7280758554555802590),.int .u64 (.lit 8532644243296465576),.int .u64 (.lit 9350256976987008742),.int .u64 (.lit 10552545826968843579),.int .u64 (.lit 11727347734174303076),.int .u64 (.lit 12113106623233404929),.int .u64 (.lit 14000437183269869457),.int .u64 (.lit 14369950271660146224),.int .u64 (.lit 15101387698204529176),.int .u64 (.lit 15463397548674623760),.int .u64 (.lit 17586052441742319658),.int .u64 (.lit 1182934255886127544),.int .u64 (.lit 1847814050463011016),.int .u64 (.lit 2177327727835720531),.int .u64 (.lit 2830643537854262169),.int .u64 (.lit 3796741975233480872),.int .u64 (.lit 4115178125766777443),.int .u64 (.lit 5681478168544905931),.int .u64 (.lit 6601373596472566643),.int .u64 (.lit 7507060721942968483),.int .u64 (.lit 8399075790359081724),.int .u64 (.lit 8693463985226723168),.int .u64 (.lit 9568029438360202098),.int .u64 (.lit 10144078919501101548),.int .u64 (.lit 10430055236837252648),.int .u64 (.lit 11840083180663258601),.int .u64 (.lit 13761210420658862357),.int .u64 (.lit 14299343276471374635),.int .u64 (.lit 14566680578165727644),.int .u64 (.lit 15097957966210449927),.int .u64 (.lit 16922976911328602910),.int .u64 (.lit 17689382322260857208),.int .u64 (.lit 500013540394364858),.int .u64 (.lit 748580250866718886),.int .u64 (.lit 1242879168328830382),.int .u64 (.lit 1977374033974150939),.int .u64 (.lit 2944078676154940804),.int .u64 (.lit 3659926193048069267),.int .u64 (.lit 4368137639120453308),.int .u64 (.lit 4836135668995329356),.int .u64 (.lit 5532061633213252278),.int .u64 (.lit 6448918945643986474),.int .u64 (.lit 6902733635092675308),.int .u64 (.lit 7801388544844847127)]),
 (1000000,[.int .u64 (.lit 6596282735017805720),.int .u64 (.lit 4084727301971498455),.int .u64 (.lit 11727709552089570172),.int .u64 (.lit 446589182673836592)]),
 (1000001,[.int .u64 (.lit 13636073449544084677),.int .u64 (.lit 6645684779544594699),.int .u64 (.lit 7181719282965082862),.int .u64 (.lit 275308871451790172)]),
 (1000002,[.int .u64 (.lit 1718705420411056),.int .u64 (.lit 234908883556509),.int .u64 (.lit 2233514472574048),.int .u64 (.lit 2117202627021982),.int .u64 (.lit 765476049583133)]),
 (1000003,[.int .u64 (.lit 0),.int .u64 (.lit 0),.int .u64 (.lit 0),.int .u64 (.lit 0),.int .u64 (.lit 0)]),
 (1000004,[.int .u64 (.lit 1),.int .u64 (.lit 0),.int .u64 (.lit 0),.int .u64 (.lit 0),.int .u64 (.lit 0)])]
structure GI (GB:Nat) (GC:Nat->Nat->Option Value) (ad:Nat->Nat×Nat):Prop where
 lt:∀b o v,GC b o=some v->b<GB
 ok:Q8 GC ad Uc
 ob:∀x∈Uc,(FY ad x.1).1<GB
section
variable{GB:Nat}{GC:Nat->Nat->Option Value}{ad:Nat->Nat×Nat}
def iq(GB:Nat)(GC:Nat->Nat->Option Value)(T:Tb):Prop:=∀f fe,lk f T=some fe->(f<1000000->Bv Tryz.prog GB GC (f%10000) fe/\∀args w,(callFunc (f%10000) args).run Tryz.prog w= .ok (.enter (f%10000) args) w)/\∀b,OJ (fe.cf b)
theorem iq.nil:iq GB GC []:=λf fe h=>by cases h
theorem iq.cons{T:Tb}{f k:Nat}{fe:FE}(hk:k%10000=f)(h:Bv Tryz.prog GB GC f fe)(hc:∀args w,(callFunc f args).run Tryz.prog w= .ok (.enter f args) w)(hl:∀b,OJ (fe.cf b))(ht:iq GB GC T):iq GB GC ((k,fe)::T):=λg ge hg=>by
 simp only[lk] at hg;cases hb:Nat.beq k g with
 |true=>
  rw[hb,cond_true,Ai] at hg;have:=Ca hb;subst this;subst hg;subst hk;exact⟨λ_=>⟨h,hc⟩,hl⟩
 |false=>rw[hb,cond_false] at hg;exact ht g ge hg
theorem iq.Se{T:Tb}{k:Nat}{fe:FE}(hk:1000000<=k)(hl:∀b,OJ (fe.cf b))(ht:iq GB GC T):iq GB GC ((k,fe)::T):=λg ge hg=>by
 simp only[lk] at hg;cases hb:Nat.beq k g with
 |true=>
  rw[hb,cond_true,Ai] at hg;have:=Ca hb;subst this;subst hg;exact⟨λh=>absurd h (by omega),hl⟩
 |false=>rw[hb,cond_false] at hg;exact ht g ge hg
theorem AEX {P:Program} {t u:Nat} {k:IntKind} {fs:Array Field} (hu:P.underlying t=some (.struct fs)) (hs:P.stoodInHeld t=false) (rI:P.underlying u=some (.int k)) (hp:P.plainKey u=true)
 (WD:∀f∈fs.toList,(f.name != "_")=true/\f.type=u) (xs ys:List Int) (hx:∀f∈fs.toList,f.offset<xs.length) (hy:∀f∈fs.toList,f.offset<ys.length) (d:Nat) (w:World):
   (Op.equalIn (d+1+1) t (.agg (xs.map (Value.int k)).toArray) (.agg (ys.map (Value.int k)).toArray)).run P w= .ok (fs.toList.all λf=>xs.getD f.offset 0 == ys.getD f.offset 0) w:=by
 rw[Op.equalIn];have vc:∀w:World,(program).run P w= .ok P w:=λ_=>rfl
 simp only[Gi,run_underlying hu,Fb,vc,hs];obtain⟨l⟩:=fs;simp only[List.forIn_toArray,Qo,if_false];have hI:∀(a b:Int) (w:World),(Op.equalIn (d+1) u (.int k a) (.int k b)).run P w= .ok (a == b) w:=λa b w=>by
  rw[Op.equalIn];simp[run_underlying rI]
 have vA:∀(zs:List Int) (i:Nat) (w:World),i<zs.length->(part u (zs.map (Value.int k)).toArray i).run P w= .ok (.int k (zs.getD i 0)) w:=λzs i w h=>
  run_part_plain w hp (by simp[List.getD,h])
 have loop:∀(m:List Field),(∀f∈m,(f.name != "_")=true/\f.type=u)->(∀f∈m,f.offset<xs.length)->(∀f∈m,f.offset<ys.length)->
   (forIn m ((none:Option Bool),()) λ(f:Field) __s=>if f.name ≠ "_" then do
        let __do_lift <- part f.type (List.map (Value.int k) xs).toArray f.offset
        let __do_lift_1 <- part f.type (List.map (Value.int k) ys).toArray f.offset
        let __do_lift <- Op.equalIn (d+1) f.type __do_lift __do_lift_1
        if(!__do_lift)=true then pure (ForInStep.done (some false,()))
         else pure (ForInStep.yield (none,()))
       else pure (ForInStep.yield (none,()))).run P w= .ok (if(m.all λf=>xs.getD f.offset 0 == ys.getD f.offset 0) then none else some false,()) w:=by
  intro m
  induction m with
  |nil=>intro _ _ _;simp
  | cons f m ih=>
   intro h1 h2 h3;obtain⟨g1,g2⟩:=h1 f Jv;have g1':f.name ≠ "_" := by simpa using g1
   rw[List.forIn_cons];simp only[if_pos g1',g2,Gi,vA xs _ w (h2 f Jv),vA ys _ w (h3 f Jv),Fb,hI,List.all_cons];rcases Bool.eq_false_or_eq_true (xs.getD f.offset 0 == ys.getD f.offset 0) with hb|hb
   ·simp only[hb,Bool.not_true,Qo,if_false,I4,Fb,Bool.true_and];exact ih (λf hf=>h1 f (MN _ hf)) (λf hf=>h2 f (MN _ hf)) (λf hf=>h3 f (MN _ hf))
   ·simp only[hb,Bool.not_false,if_true,I4,Fb,Bool.false_and,Qo,if_false]
 rw[Gi,loop l WD hx hy];simp only[Fb];split<;>rename_i h
 ·split at h
  ·cases h
  ·cases h;rename_i h2;simp only[I4];simp at h2;congr 1;simpa using h2
 ·split at h
  ·rename_i h2;simp only[I4];rw[h2]
  ·cases h
theorem RB(k:IntKind):∀(n:Nat) (xs:List Int),xs.length=n->AL (List.replicate n k) xs=xs.map (Value.int k)
 |0,[],_=>rfl
 |n+1,x::xs,h=>by
  have:=RB k n xs (by simpa using h);unfold AL at *
  simp only[List.replicate_succ,List.zipWith_cons_cons,NM,this]
theorem eU{xs ys:List Int}(h:xs.length=ys.length):((List.range xs.length).all λi=>xs.getD i 0 == ys.getD i 0)=(xs == ys):=by
 rw[Bool.eq_iff_iff,Kh,beq_iff_eq];constructor
 ·intro hh;apply List.ext_getElem h;intro i h1 h2;have:=hh i (fV.2 h1);simpa[List.getD,h1,h2] using this
 ·rintro rfl i _;simp
def bE(P:Program)(t:Nat):Array Field:=match P.underlying t with
 |some (.struct fs)=>fs
 |_=>#[]
def AEa:List (Nat×List IntKind):=[(60,List.replicate 5 .u64)]
theorem qE:∀t ks,lk t AEa=some ks->∀xs ys:List Int,EP ks xs->EP ks ys->∀(op:BinOp) (x y:Operand) (w:World),
  (eqGuard op t x y (.agg (AL ks xs).toArray) (.agg (AL ks ys).toArray)).run Tryz.prog w= .ok () w/\(Op.equal t (.agg (AL ks xs).toArray) (.agg (AL ks ys).toArray)).run Tryz.prog w= .ok (xs == ys) w:=by
 intro t ks h xs ys hx hy op x y w;simp only[AEa,lk] at h;cases hb:Nat.beq 60 t with
 |false=>rw[hb] at h;cases h
 |true=>
 rw[hb,cond_true,Ai] at h;have:=Ca hb;subst this;subst h;have h5:=hx.1;have h6:=hy.1;simp only[Rp] at h5 h6;have vc:∀w:World,(program).run Tryz.prog w= .ok Tryz.prog w:=λ_=>rfl
 constructor
 ·have hg:Tryz.prog.eqGuardType Tryz.prog.depth 60=false:=by kernel_rfl
  cases op<;>simp[eqGuard,hg,vc]
 ·have hs:Tryz.prog.stoodInHeld 60=false:=by kernel_rfl
  have hu:Tryz.prog.underlying 60=some (.struct (bE Tryz.prog 60)):=by kernel_rfl
  have WD:(bE Tryz.prog 60).toList.map (λf=>(f.name != "_",f.type,f.offset))= [(true,38,0),(true,38,1),(true,38,2),(true,38,3),(true,38,4)]:=by kernel_rfl
  generalize bE Tryz.prog 60=fs at hu WD;have rI:Tryz.prog.underlying 38=some (.int .u64):=by kernel_rfl
  have hpk:Tryz.prog.plainKey 38=true:=by kernel_rfl
  have de:∀f∈fs.toList,(f.name != "_",f.type,f.offset) ∈ [(true,38,0),(true,38,1),(true,38,2),(true,38,3),(true,38,4)]:=λf hf=>by rw[<- WD];exact Us.2 ⟨f,hf,rfl⟩
  have As:∀f∈fs.toList,(f.name != "_")=true/\f.type=38/\f.offset<5:=λf hf=>by
   have:=de f hf;simp only[G9,List.not_mem_nil,or_false,Prod.mk.injEq] at this;rcases this with h|h|h|h|h<;>exact⟨h.1,h.2.1,by rw[h.2.2];decide⟩
  have:=AEX hu hs rI hpk (λf hf=>⟨(As f hf).1,(As f hf).2.1⟩) xs ys (λf hf=>by rw[h5];exact(As f hf).2.2) (λf hf=>by rw[h6];exact(As f hf).2.2) 9998 w;rw[RB _ _ _ h5,RB _ _ _ h6];refine this.trans ?_;have he:(fs.toList.all λf=>xs.getD f.offset 0 == ys.getD f.offset 0)=((fs.toList.map λf=>(f.name != "_",f.type,f.offset)).all λp=>xs.getD p.2.2 0 == ys.getD p.2.2 0):=by rw[List.all_map];rfl
  rw[he,WD, <- eU (h5.trans h6.symm),h5];rfl
def Nk(fn:Func):IF:=⟨Ab fn,fn.ntmps,fn.results.toList⟩
def UX(P:Program)(L:List (Nat×IF)):Prop:=∀f i,lk f L=some i->(∀args w,(callFunc f args).run P w= .ok (.enter f args) w)/\∃fn,P.funcs[f]? = some fn/\fn.body=some i.c/\fn.ntmps=i.nt/\fn.results.toList=i.cA
theorem UX.nil{P:Program}:UX P []:=λf i h=>by cases h
theorem UX.cons{P:Program}{L:List (Nat×IF)}{f:Nat}{fn:Func}(hf:P.funcs[f]? = some fn)(hb:fn.body=some (Ab fn))(hc:∀args w,(callFunc f args).run P w= .ok (.enter f args) w)(hL:UX P L):UX P ((f,Nk fn)::L):=λg i h=>by
 simp only[lk] at h;cases vn:Nat.beq f g with
 |true=>
  rw[vn,cond_true,Ai] at h;have:=Ca vn;subst this;subst h;exact⟨hc,fn,hf,hb,rfl,rfl⟩
 |false=>rw[vn,cond_false] at h;exact hL g i h
def kM(T:Tb)(L:List (Nat×IF))(lp:List (Nat×LD)):Cx:= { tt:=yD,T:=T,HU:=123,HG:=121,loops:=lp,inl:=L,eqs:=AEa }
def F7(T:Tb)(L:List (Nat×IF)):Cx:=kM T L []
theorem iG(hG:GI GB GC ad){T:Tb}(hT:iq GB GC T){L:List (Nat×IF)}(hL:UX Tryz.prog L)(lp:List (Nat×LD)):Ud Tryz.prog (kM T L lp) GB GC where
 ok _B _S _I _sn _σ0 hB:= {
  tt:=AEf
  gc:=hG.lt
  gb:=hB
  tb:=λf fe h=>⟨λbj=>((hT f fe h).1 bj).1,(hT f fe h).2⟩
  mx:=AQx
  HU:=λx y c w=>ALi x y c w
  HG:=λx y c w=>AEv x y c w
  en:=λf args w ⟨fe,h⟩ bj _ _=>((hT f fe h).1 bj).2 args w
  eq:=λt ks h xs ys hx hy op x y w=>qE t ks h xs ys hx hy op x y w }
 il:=hL
theorem PT(hG:GI GB GC ad){T:Tb}(hT:iq GB GC T){L:List (Nat×IF)}(hL:UX Tryz.prog L):Ud Tryz.prog (F7 T L) GB GC:=iG hG hT hL []
theorem ER(hG:GI GB GC ad){g:fP}(h:g= []\/g=Uc):Q8 GC ad g/\∀x∈g,(FY ad x.1).1<GB:=by
 rcases h with rfl|rfl
 ·exact⟨λ_ h=>(by cases h),λ_ h=>(by cases h)⟩
 ·exact⟨hG.ok,hG.ob⟩
theorem Ac.fin(hG:GI GB GC ad){i:Ac}{T:Tb}(hT:iq GB GC T){L:List (Nat×IF)}(hL:UX Tryz.prog L){f:Nat}{fn:Func}(hf:Tryz.prog.funcs[f]? = some fn)(hb:fn.body=some i.c)(hn:fn.ntmps=i.nt)(hr:fn.results.toList=i.cA)(hg:i.cq= []\/i.cq=Uc)
  (hk:(i.cN (F7 T L)&&ADA (i.tree (F7 T L)))=true):Bv Tryz.prog GB GC f (.one (i.sum (F7 T L))):=by
 simp only[Bj] at hk;exact Ac.ok (PT hG hT hL) hf hb hn hr rfl (ER hG hg).1 (ER hG hg).2 hk.1 hk.2
theorem Ac.fg(hG:GI GB GC ad){i:Ac}{T:Tb}(hT:iq GB GC T){L:List (Nat×IF)}(hL:UX Tryz.prog L){f:Nat}{fn:Func}(hf:Tryz.prog.funcs[f]? = some fn)(hb:fn.body=some i.c)(hn:fn.ntmps=i.nt)(hr:fn.results.toList=i.cA)(hg:i.cq= []\/i.cq=Uc)
  (hk:i.cN (F7 T L)=true):Bv Tryz.prog GB GC f (.one (i.cQ (F7 T L))):=
 Ac.okP (PT hG hT hL) hf hb hn hr rfl (ER hG hg).1 (ER hG hg).2 hk
theorem Ac.Fm(hG:GI GB GC ad){i:Ac}{l:Ih}{T T':Tb}{tg:Nat}(afC:1000000<=tg){L L':List (Nat×IF)}{Cb C1:Cx}(hCb:Cb=F7 T' L'){pl:List (List Int)->Prop}(hC1:C1=kM ((tg,.one (l.sum Cb pl))::T) L [(l.id,⟨tg,l.ps,l.ss,l.cl,l.nt⟩)])
  (hT:iq GB GC T) (hL:UX Tryz.prog L) (hL':UX Tryz.prog L') {f:Nat} {fn:Func} (hf:Tryz.prog.funcs[f]? = some fn) (hb:fn.body=some i.c) (hn:fn.ntmps=i.nt) (hr:fn.results.toList=i.cA) (hg:i.cq= []\/i.cq=Uc)
  (gS:l.cq= []\/l.cq=Uc) (CH:∀ins,J8 l.s0.params ins->pl ins->l.pre Cb ins) (hT':iq GB GC T')
  (mS:l.cN Cb=true) (ae8:K5 l.id i.c= [.loop l.c]) (hni:(L.all λj=>TM [l.id] j.2.c)=true)
  (hk:i.cN C1=true) {pre:List (List Int)->Prop} (Wb:∀ins,J8 i.s0.params ins->pre ins->Cv C1.T (i.tree C1) (BK ins)):
  Bv Tryz.prog GB GC f (.one (i.vu C1 pre)):=by
 subst hCb;subst hC1;have vx:∀fe,lk tg ((tg,FE.one (l.sum (F7 T' L') pl))::T)=some fe->fe= .one (l.sum (F7 T' L') pl):=λfe h=>by
  simp only[lk,Nat.beq_refl,cond_true,Ai] at h;exact h.symm
 refine Ac.ajA (iG hG (iq.Se (fe:=.one (l.sum (F7 T' L') pl)) afC (λb=>lJ _ _ _) hT) hL _) hf hb hn hr (λE e1 e2 e3 e4=>⟨?_,λg j hj=>?_⟩) (ER hG hg).1 (ER hG hg).2 hk Wb
 ·refine Ip.one (d:=⟨tg,l.ps,l.ss,l.cl,l.nt⟩) (by rw[e2];rfl) ae8 ?_ ?_
  ·exact Ih.ok (PT hG hT' hL') mS (ER hG gS).1 (ER hG gS).2 (λE' _ c2 _ _=>⟨Ip.of_nil (by rw[c2];rfl) _,λ_ _ _=>Ip.of_nil (by rw[c2];rfl) _⟩) e1 e3 e4 rfl rfl rfl rfl (λfe h=>vx fe (by rw[e2] at h;exact h)) CH
  ·intro fe h x;rw[e2] at h;rw[vx fe h];rfl
 ·refine Ip.fN _ ?_;rw[e2];exact Kh.1 hni (g,j) (OU hj)
end
def u2:List IntKind:=List.replicate 2 .u64
def z1:PF:=λ_=>[]
def z0:PI:=λ_=>0
end
end Go.Proofs.YtkbfdaoohhmgoaaGreatDoor
