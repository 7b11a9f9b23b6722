/- The types of the program, as the executor reads them; the facts on the program on which the contracts stand. -/
import Derived.Test.YtloibefkijfdlaaGreatDoorSb
import Derived.Test.YtloibefkijfdlaaGreatDoorProg
import Derived.ChangeKeysEq
namespace Go.Proofs.YtloibefkijfdlaaGreatDoor
section
open Go
def wV:List (Nat×TD):=[
 (2,⟨(.int .i64),1,8,false,[.int .i64 (.lit 0)]⟩),
 (3,⟨(.int .i64),1,8,false,[.int .i64 (.lit 0)]⟩),
 (4,⟨.other,1,1,false,[.bool (.lit 0)]⟩),
 (5,⟨(.int .u8),1,1,false,[.int .u8 (.lit 0)]⟩),
 (6,⟨(.int .u8),1,1,false,[.int .u8 (.lit 0)]⟩),
 (7,⟨(.str [(0,2),(1,3),(2,4),(3,6)]),4,24,true,[.int .i64 (.lit 0),.int .i64 (.lit 0)] ++ [.bool (.lit 0)] ++ [.int .u8 (.lit 0)]⟩),
 (8,⟨(.str [(0,2),(1,3),(2,4),(3,6)]),4,24,true,[.int .i64 (.lit 0),.int .i64 (.lit 0)] ++ [.bool (.lit 0)] ++ [.int .u8 (.lit 0)]⟩),
 (9,⟨.stg,1,16,false,[.val (.string ⟨#[]⟩)]⟩),
 (10,⟨.stg,1,16,false,[.val (.string ⟨#[]⟩)]⟩),
 (11,⟨.stg,1,16,false,[.val (.string ⟨#[]⟩)]⟩),
 (12,⟨(.int .u64),1,8,false,[.int .u64 (.lit 0)]⟩),
 (13,⟨(.str [(0,9),(1,12)]),2,24,true,[.val (.string ⟨#[]⟩)] ++ [.int .u64 (.lit 0)]⟩),
 (14,⟨(.str [(0,9),(1,12)]),2,24,true,[.val (.string ⟨#[]⟩)] ++ [.int .u64 (.lit 0)]⟩),
 (15,⟨(.ptr 257),1,8,false,[.nil]⟩),
 (16,⟨(.ptr 260),1,8,false,[.nil]⟩),
 (17,⟨(.ptr 268),1,8,false,[.nil]⟩),
 (18,⟨(.str [(0,17)]),1,8,true,[.nil]⟩),
 (19,⟨(.str [(0,17)]),1,8,true,[.nil]⟩),
 (20,⟨.iface,1,16,false,[.eg]⟩),
 (21,⟨(.int .i32),1,4,false,[.int .i32 (.lit 0)]⟩),
 (22,⟨(.sl 5),1,24,false,[.C6]⟩),
 (43,⟨(.ptr 84),1,8,false,[.nil]⟩),
 (44,⟨.iface,1,16,false,[.eg]⟩),
 (45,⟨.iface,1,16,false,[.eg]⟩),
 (48,⟨(.arr 32 5),32,32,true,List.replicate 32 (.int .u8 (.lit 0))⟩),
 (50,⟨(.int .u64),1,8,false,[.int .u64 (.lit 0)]⟩),
 (51,⟨(.arr 8 50),8,64,true,List.replicate 8 (.int .u64 (.lit 0))⟩),
 (52,⟨(.arr 8 50),8,64,true,List.replicate 8 (.int .u64 (.lit 0))⟩),
 (53,⟨(.str [(0,52),(8,52),(16,52)]),24,192,true,List.replicate 24 (.int .u64 (.lit 0))⟩),
 (54,⟨(.str [(0,52),(8,52),(16,52)]),24,192,true,List.replicate 24 (.int .u64 (.lit 0))⟩),
 (67,⟨(.ptr 99),1,8,false,[.nil]⟩),
 (79,⟨(.arr 4 50),4,32,true,List.replicate 4 (.int .u64 (.lit 0))⟩),
 (80,⟨(.arr 4 50),4,32,true,List.replicate 4 (.int .u64 (.lit 0))⟩),
 (81,⟨(.str [(0,80)]),4,32,true,List.replicate 4 (.int .u64 (.lit 0))⟩),
 (82,⟨(.str [(0,80)]),4,32,true,List.replicate 4 (.int .u64 (.lit 0))⟩),
 (83,⟨(.str [(0,48),(32,48),(64,82),(68,48)]),100,128,true,List.replicate 64 (.int .u8 (.lit 0))++List.replicate 4 (.int .u64 (.lit 0))++List.replicate 32 (.int .u8 (.lit 0))⟩),
 (84,⟨(.str [(0,48),(32,48),(64,82),(68,48)]),100,128,true,List.replicate 64 (.int .u8 (.lit 0))++List.replicate 4 (.int .u64 (.lit 0))++List.replicate 32 (.int .u8 (.lit 0))⟩),
 (92,⟨(.arr 0 1),0,0,true,[]⟩),
 (93,⟨(.arr 0 1),0,0,true,[]⟩),
 (94,⟨(.str [(0,50),(1,50),(2,50),(3,50),(4,50)]),5,40,true,List.replicate 5 (.int .u64 (.lit 0))⟩),
 (95,⟨(.str [(0,50),(1,50),(2,50),(3,50),(4,50)]),5,40,true,List.replicate 5 (.int .u64 (.lit 0))⟩),
 (96,⟨(.str [(0,93),(0,95),(5,95),(10,95),(15,95)]),20,160,true,List.replicate 20 (.int .u64 (.lit 0))⟩),
 (97,⟨(.str [(0,93),(0,95),(5,95),(10,95),(15,95)]),20,160,true,List.replicate 20 (.int .u64 (.lit 0))⟩),
 (98,⟨(.str [(0,97),(20,48)]),52,192,true,List.replicate 20 (.int .u64 (.lit 0))++List.replicate 32 (.int .u8 (.lit 0))⟩),
 (99,⟨(.str [(0,97),(20,48)]),52,192,true,List.replicate 20 (.int .u64 (.lit 0))++List.replicate 32 (.int .u8 (.lit 0))⟩),
 (107,⟨(.arr 16 50),16,128,true,List.replicate 16 (.int .u64 (.lit 0))⟩),
 (109,⟨(.arr 80 50),80,640,true,List.replicate 80 (.int .u64 (.lit 0))⟩),
 (114,⟨(.ptr 135),1,8,false,[.nil]⟩),
 (118,⟨(.ptr 82),1,8,false,[.nil]⟩),
 (121,⟨(.ptr 97),1,8,false,[.nil]⟩),
 (124,⟨(.ptr 126),1,8,false,[.nil]⟩),
 (125,⟨(.str [(0,9)]),1,16,true,[.val (.string ⟨#[]⟩)]⟩),
 (126,⟨(.str [(0,9)]),1,16,true,[.val (.string ⟨#[]⟩)]⟩),
 (131,⟨(.int .u64),1,8,false,[.int .u64 (.lit 0)]⟩),
 (133,⟨(.arr 128 5),128,128,true,List.replicate 128 (.int .u8 (.lit 0))⟩),
 (134,⟨(.str [(0,51),(8,133),(136,3),(137,50),(138,3)]),139,216,true,List.replicate 8 (.int .u64 (.lit 0))++List.replicate 128 (.int .u8 (.lit 0)) ++ [.int .i64 (.lit 0)] ++ [.int .u64 (.lit 0)] ++ [.int .i64 (.lit 0)]⟩),
 (135,⟨(.str [(0,51),(8,133),(136,3),(137,50),(138,3)]),139,216,true,List.replicate 8 (.int .u64 (.lit 0))++List.replicate 128 (.int .u8 (.lit 0)) ++ [.int .i64 (.lit 0)] ++ [.int .u64 (.lit 0)] ++ [.int .i64 (.lit 0)]⟩),
 (137,⟨(.arr 64 5),64,64,true,List.replicate 64 (.int .u8 (.lit 0))⟩),
 (139,⟨(.ptr 95),1,8,false,[.nil]⟩),
 (152,⟨(.ptr 79),1,8,false,[.nil]⟩),
 (153,⟨(.ptr 80),1,8,false,[.nil]⟩),
 (154,⟨(.ptr 48),1,8,false,[.nil]⟩),
 (156,⟨(.ptr 233),1,8,false,[.nil]⟩),
 (158,⟨(.ptr 220),1,8,false,[.nil]⟩),
 (160,⟨(.str [(0,95),(5,95),(10,95),(15,95)]),20,160,true,List.replicate 20 (.int .u64 (.lit 0))⟩),
 (161,⟨(.str [(0,95),(5,95),(10,95),(15,95)]),20,160,true,List.replicate 20 (.int .u64 (.lit 0))⟩),
 (162,⟨(.arr 8 161),160,1280,true,List.replicate 160 (.int .u64 (.lit 0))⟩),
 (163,⟨(.str [(0,162)]),160,1280,true,List.replicate 160 (.int .u64 (.lit 0))⟩),
 (164,⟨(.str [(0,162)]),160,1280,true,List.replicate 160 (.int .u64 (.lit 0))⟩),
 (166,⟨(.int .i8),1,1,false,[.int .i8 (.lit 0)]⟩),
 (167,⟨(.arr 256 166),256,256,true,List.replicate 256 (.int .i8 (.lit 0))⟩),
 (169,⟨(.ptr 161),1,8,false,[.nil]⟩),
 (170,⟨(.ptr 172),1,8,false,[.nil]⟩),
 (171,⟨(.str [(0,95),(5,95),(10,95)]),15,120,true,List.replicate 15 (.int .u64 (.lit 0))⟩),
 (172,⟨(.str [(0,95),(5,95),(10,95)]),15,120,true,List.replicate 15 (.int .u64 (.lit 0))⟩),
 (173,⟨(.ptr 175),1,8,false,[.nil]⟩),
 (174,⟨(.str [(0,95),(5,95),(10,95),(15,95)]),20,160,true,List.replicate 20 (.int .u64 (.lit 0))⟩),
 (175,⟨(.str [(0,95),(5,95),(10,95),(15,95)]),20,160,true,List.replicate 20 (.int .u64 (.lit 0))⟩),
 (176,⟨(.ptr 178),1,8,false,[.nil]⟩),
 (177,⟨(.str [(0,95),(5,95),(10,95)]),15,120,true,List.replicate 15 (.int .u64 (.lit 0))⟩),
 (178,⟨(.str [(0,95),(5,95),(10,95)]),15,120,true,List.replicate 15 (.int .u64 (.lit 0))⟩),
 (189,⟨(.ptr 227),1,8,false,[.nil]⟩),
 (191,⟨(.arr 64 166),64,64,true,List.replicate 64 (.int .i8 (.lit 0))⟩),
 (194,⟨(.arr 8 172),120,960,true,List.replicate 120 (.int .u64 (.lit 0))⟩),
 (195,⟨(.str [(0,194)]),120,960,true,List.replicate 120 (.int .u64 (.lit 0))⟩),
 (196,⟨(.str [(0,194)]),120,960,true,List.replicate 120 (.int .u64 (.lit 0))⟩),
 (199,⟨(.arr 144 5),144,144,true,List.replicate 144 (.int .u8 (.lit 0))⟩),
 (206,⟨(.arr 24 5),24,24,true,List.replicate 24 (.int .u8 (.lit 0))⟩),
 (214,⟨(.int .u64),1,8,false,[.int .u64 (.lit 0)]⟩),
 (216,⟨(.ptr 50),1,8,false,[.nil]⟩),
 (217,⟨(.sl 121),1,24,false,[.C6]⟩),
 (218,⟨(.arr 64 172),960,7680,true,List.replicate 960 (.int .u64 (.lit 0))⟩),
 (219,⟨(.str [(0,218)]),960,7680,true,List.replicate 960 (.int .u64 (.lit 0))⟩),
 (220,⟨(.str [(0,218)]),960,7680,true,List.replicate 960 (.int .u64 (.lit 0))⟩),
 (221,⟨(.ptr 164),1,8,false,[.nil]⟩),
 (224,⟨(.arr 5 50),5,40,true,List.replicate 5 (.int .u64 (.lit 0))⟩),
 (227,⟨(.arr 32 196),3840,30720,true,List.replicate 3840 (.int .u64 (.lit 0))⟩),
 (228,⟨(.ptr 196),1,8,false,[.nil]⟩),
 (233,⟨(.arr 4 50),4,32,true,List.replicate 4 (.int .u64 (.lit 0))⟩),
 (236,⟨(.str [(0,50),(1,50)]),2,16,true,[.int .u64 (.lit 0),.int .u64 (.lit 0)]⟩),
 (237,⟨(.str [(0,50),(1,50)]),2,16,true,[.int .u64 (.lit 0),.int .u64 (.lit 0)]⟩),
 (246,⟨(.arr 20 50),20,160,true,List.replicate 20 (.int .u64 (.lit 0))⟩),
 (247,⟨(.int .u32),1,4,false,[.int .u32 (.lit 0)]⟩),
 (248,⟨(.arr 65 5),65,65,true,List.replicate 65 (.int .u8 (.lit 0))⟩),
 (256,⟨(.str [(0,17),(1,17),(2,17),(3,9)]),4,40,true,[.nil,.nil,.nil] ++ [.val (.string ⟨#[]⟩)]⟩),
 (257,⟨(.str [(0,17),(1,17),(2,17),(3,9)]),4,40,true,[.nil,.nil,.nil] ++ [.val (.string ⟨#[]⟩)]⟩),
 (258,⟨(.arr 0 16),0,0,true,[]⟩),
 (259,⟨(.str [(0,258)]),0,0,true,[]⟩),
 (260,⟨(.str [(0,258)]),0,0,true,[]⟩),
 (261,⟨(.int .u8),1,1,false,[.int .u8 (.lit 0)]⟩),
 (262,⟨(.int .u8),1,1,false,[.int .u8 (.lit 0)]⟩),
 (264,⟨(.ptr 5),1,8,false,[.nil]⟩),
 (265,⟨(.int .i32),1,4,false,[.int .i32 (.lit 0)]⟩),
 (266,⟨(.int .i32),1,4,false,[.int .i32 (.lit 0)]⟩),
 (270,⟨.other,1,8,false,[.nil]⟩)]
theorem AC9:wV.map (λp=>TD.of Tryz.prog p.1)=wV.map (λp=>some p.2):=by kernel_rfl
theorem ZE{α β:Type}{f g:α->β}:∀ {l:List α},l.map f=l.map g->∀x∈l,f x=g x
 | [],_,x,h=>by cases h
 |a::l,h,x,hx=>by
  simp only[NE,List.cons.injEq] at h;rcases IR.1 hx with rfl|hx
  ·exact h.1
  ·exact ZE h.2 x hx
theorem AAV:AER Tryz.prog wV:=λt d h=>ZE AC9 (t,d) (Ni h)
def ADb:Array Value->Sem Value:=λargs=>do
 let (x,y,b) <- Extern.MathBitsCarry.three "Sub64" args
 pure (Extern.MathBitsCarry.pair ((x+Extern.MathBitsCarry.m64-y-b)%Extern.MathBitsCarry.m64) (if x<y+b then 1 else 0))
theorem ALh(x y c:Int)(w:World)(hx:0<=x)(hy:0<=y)(hc:c=0\/c=1):(callFunc 173 #[.int .u64 x,.int .u64 y,.int .u64 c]).run Tryz.prog w=
  .ok (.value (.tuple #[.int .u64 ((x+y+c)%18446744073709551616),.int .u64 ((x+y+c)/18446744073709551616)])) w:=by
 rw[run_callFunc_extern Tryz.func173 (by kernel_rfl) (by kernel_rfl) (by kernel_rfl) (e:=add64Entry) (by kernel_rfl)];obtain⟨x',rfl⟩:=YD hx;obtain⟨y',rfl⟩:=YD hy;have h:∀c':Nat,c'<=1->((add64Entry #[.int .u64 x',.int .u64 y',.int .u64 c']).run Tryz.prog w).andThen (λ(v:Value) w'=>Result.ok (Next.value v) w')=Result.ok (Next.value (.tuple #[.int .u64 (((x'+y'+c')%18446744073709551616:Nat):Int),.int .u64 (((x'+y'+c')/18446744073709551616:Nat):Int)])) w:=λc' i6=>by
  have:c'=0\/c'=1:=by omega
  rcases this with rfl|rfl<;>rfl
 rcases hc with rfl|rfl
 ·exact h 0 (by omega)
 ·exact h 1 (by omega)
theorem ABH(x y c:Int)(w:World)(hx:0<=x)(hy:0<=y)(hc:c=0\/c=1)(hy2:y<18446744073709551616):(callFunc 171 #[.int .u64 x,.int .u64 y,.int .u64 c]).run Tryz.prog w=
  .ok (.value (.tuple #[.int .u64 ((x+18446744073709551616-y-c)%18446744073709551616),.int .u64 (if x<y+c then 1 else 0)])) w:=by
 rw[run_callFunc_extern Tryz.func171 (by kernel_rfl) (by kernel_rfl) (by kernel_rfl) (e:=ADb) (by kernel_rfl)];obtain⟨x',rfl⟩:=YD hx;obtain⟨y',rfl⟩:=YD hy;have h:∀c':Nat,c'<=1->((ADb #[.int .u64 x',.int .u64 y',.int .u64 c']).run Tryz.prog w).andThen (λ(v:Value) w'=>Result.ok (Next.value v) w')=Result.ok (Next.value (.tuple #[.int .u64 (((x'+18446744073709551616-y'-c')%18446744073709551616:Nat):Int),.int .u64 ((if x'<y'+c' then 1 else 0:Nat):Int)])) w:=λc' i6=>by
  have:c'=0\/c'=1:=by omega
  rcases this with rfl|rfl<;>rfl
 have key:∀c':Nat,c'<=1->(((x'+18446744073709551616-y'-c')%18446744073709551616:Nat):Int)=((x':Int)+18446744073709551616-y'-c')%18446744073709551616/\((if x'<y'+c' then 1 else 0:Nat):Int)=(if(x':Int)<y'+c' then 1 else 0):=λc' i6=>by
  constructor
  ·omega
  ·split<;>split<;>omega
 rcases hc with rfl|rfl
 ·have h0:=h 0 (by omega);rw[(key 0 (by omega)).1,(key 0 (by omega)).2] at h0;exact h0
 ·have h0:=h 1 (by omega);rw[(key 1 (by omega)).1,(key 1 (by omega)).2] at h0;exact h0
theorem ANi:Tryz.prog.follows .mixedOrders=true:=by kernel_rfl
end
section
open Go
def SA:fQ:=[
 (0,[.ptr 506 0]),
 (1,[.ptr 507 0]),
 (2,[.ptr 508 0]),
 (3,[.ptr 509 0]),
 (4,[.ptr 510 0]),
 (6,[.int .u64 (.lit 4794697086780616226),.int .u64 (.lit 8158064640168781261),.int .u64 (.lit 13096744586834688815),.int .u64 (.lit 16840607885511220156),.int .u64 (.lit 4131703408338449720),.int .u64 (.lit 6480981068601479193),.int .u64 (.lit 10538285296894168987),.int .u64 (.lit 12329834152419229976),.int .u64 (.lit 15566598209576043074),.int .u64 (.lit 1334009975649890238),.int .u64 (.lit 2608012711638119052),.int .u64 (.lit 6128411473006802146),.int .u64 (.lit 8268148722764581231),.int .u64 (.lit 9286055187155687089),.int .u64 (.lit 11230858885718282805),.int .u64 (.lit 13951009754708518548),.int .u64 (.lit 16472876342353939154),.int .u64 (.lit 17275323862435702243),.int .u64 (.lit 1135362057144423861),.int .u64 (.lit 2597628984639134821),.int .u64 (.lit 3308224258029322869),.int .u64 (.lit 5365058923640841347),.int .u64 (.lit 6679025012923562964),.int .u64 (.lit 8573033837759648693),.int .u64 (.lit 10970295158949994411),.int .u64 (.lit 12119686244451234320),.int .u64 (.lit 12683024718118986047),.int .u64 (.lit 13788192230050041572),.int .u64 (.lit 14330467153632333762),.int .u64 (.lit 15395433587784984357),.int .u64 (.lit 489312712824947311),.int .u64 (.lit 1452737877330783856),.int .u64 (.lit 2861767655752347644),.int .u64 (.lit 3322285676063803686),.int .u64 (.lit 5560940570517711597),.int .u64 (.lit 5996557281743188959),.int .u64 (.lit 7280758554555802590),.int .u64 (.lit 8532644243296465576),.int .u64 (.lit 9350256976987008742),.int .u64 (.lit 10552545826968843579),.int .u64 (.lit 11727347734174303076),.int .u64 (.lit 12113106623233404929),.int .u64 (.lit 14000437183269869457),.int .u64 (.lit 14369950271660146224),.int .u64 (.lit 15101387698204529176),.int .u64 (.lit 15463397548674623760),.int .u64 (.lit 17586052441742319658),.int .u64 (.lit 1182934255886127544),.int .u64 (.lit 1847814050463011016),.int .u64 (.lit 2177327727835720531),.int .u64 (.lit 2830643537854262169),.int .u64 (.lit 3796741975233480872),.int .u64 (.lit 4115178125766777443),.int .u64 (.lit 5681478168544905931),.int .u64 (.lit 6601373596472566643),.int .u64 (.lit 7507060721942968483),.int .u64 (.lit 8399075790359081724),.int .u64 (.lit 8693463985226723168),.int .u64 (.lit 9568029438360202098),.int .u64 (.lit 10144078919501101548),.int .u64 (.lit 10430055236837252648),.int .u64 (.lit 11840083180663258601),.int .u64 (.lit 13761210420658862357),.int .u64 (.lit 14299343276471374635),.int .u64 (.lit 14566680578165727644),.int .u64 (.lit 15097957966210449927),.int .u64 (.lit 16922976911328602910),.int .u64 (.lit 17689382322260857208),.int .u64 (.lit 500013540394364858),.int .u64 (.lit 748580250866718886),.int .u64 (.lit 1242879168328830382),.int .u64 (.lit 1977374033974150939),.int .u64 (.lit 2944078676154940804),.int .u64 (.lit 3659926193048069267),.int .u64 (.lit 4368137639120453308),.int .u64 (.lit 4836135668995329356),.int .u64 (.lit 5532061633213252278),.int .u64 (.lit 6448918945643986474),.int .u64 (.lit 6902733635092675308),.int .u64 (.lit 7801388544844847127)]),
 (1000000,[.int .u64 (.lit 6596282735017805720),.int .u64 (.lit 4084727301971498455),.int .u64 (.lit 11727709552089570172),.int .u64 (.lit 446589182673836592)]),
 (1000001,[.int .u64 (.lit 13636073449544084677),.int .u64 (.lit 6645684779544594699),.int .u64 (.lit 7181719282965082862),.int .u64 (.lit 275308871451790172)]),
 (1000002,[.int .u64 (.lit 1718705420411056),.int .u64 (.lit 234908883556509),.int .u64 (.lit 2233514472574048),.int .u64 (.lit 2117202627021982),.int .u64 (.lit 765476049583133)]),
 (1000003,[.int .u64 (.lit 0),.int .u64 (.lit 0),.int .u64 (.lit 0),.int .u64 (.lit 0),.int .u64 (.lit 0)]),
 (1000004,[.int .u64 (.lit 1),.int .u64 (.lit 0),.int .u64 (.lit 0),.int .u64 (.lit 0),.int .u64 (.lit 0)])]
structure Gw (GB:Nat) (GC:Nat->Nat->Option Value) (ad:Nat->Nat×Nat):Prop where
 lt:∀b o v,GC b o=some v->b<GB
 ok:Ty GC ad SA
 ob:∀x∈SA,(EC ad x.1).1<GB
section
variable{GB:Nat}{GC:Nat->Nat->Option Value}{ad:Nat->Nat×Nat}
def iF(GB:Nat)(GC:Nat->Nat->Option Value)(T:Tb):Prop:=∀f fe,lk f T=some fe->(f<1000000->Ck Tryz.prog GB GC (f%10000) fe/\∀args w,(callFunc (f%10000) args).run Tryz.prog w= .ok (.enter (f%10000) args) w)/\∀b,PH (fe.ca b)
theorem iF.nil:iF GB GC []:=λf fe h=>by cases h
theorem iF.cons{T:Tb}{f k:Nat}{fe:FE}(hk:k%10000=f)(h:Ck Tryz.prog GB GC f fe)(hc:∀args w,(callFunc f args).run Tryz.prog w= .ok (.enter f args) w)(hl:∀b,PH (fe.ca b))(ht:iF GB GC T):iF GB GC ((k,fe)::T):=λg ge hg=>by
 simp only[lk] at hg;cases hb:Nat.beq k g with
 |true=>
  rw[hb,cond_true,Ai] at hg;have:=CR hb;subst this;subst hg;subst hk;exact⟨λ_=>⟨h,hc⟩,hl⟩
 |false=>rw[hb,cond_false] at hg;exact ht g ge hg
theorem iF.T6{T:Tb}{k:Nat}{fe:FE}(hk:1000000<=k)(hl:∀b,PH (fe.ca b))(ht:iF GB GC T):iF GB GC ((k,fe)::T):=λg ge hg=>by
 simp only[lk] at hg;cases hb:Nat.beq k g with
 |true=>
  rw[hb,cond_true,Ai] at hg;have:=CR hb;subst this;subst hg;exact⟨λh=>absurd h (by omega),hl⟩
 |false=>rw[hb,cond_false] at hg;exact ht g ge hg
theorem ACI {P:Program} {t u:Nat} {k:IntKind} {fs:Array Field} (hu:P.underlying t=some (.struct fs)) (hs:P.stoodInHeld t=false) (vj:P.underlying u=some (.int k)) (hp:P.plainKey u=true)
 (KK:∀f∈fs.toList,(f.name != "_")=true/\f.type=u) (xs ys:List Int) (hx:∀f∈fs.toList,f.offset<xs.length) (hy:∀f∈fs.toList,f.offset<ys.length) (d:Nat) (w:World):
   (Op.equalIn (d+1+1) t (.agg (xs.map (Value.int k)).toArray) (.agg (ys.map (Value.int k)).toArray)).run P w= .ok (fs.toList.all λf=>xs.getD f.offset 0 == ys.getD f.offset 0) w:=by
 rw[Op.equalIn];have HF:∀w:World,(program).run P w= .ok P w:=λ_=>rfl
 simp only[IY,run_underlying hu,Hm,HF,hs];obtain⟨l⟩:=fs;simp only[List.forIn_toArray,RD,if_false];have hI:∀(a b:Int) (w:World),(Op.equalIn (d+1) u (.int k a) (.int k b)).run P w= .ok (a == b) w:=λa b w=>by
  rw[Op.equalIn];simp[run_underlying vj]
 have Se:∀(zs:List Int) (i:Nat) (w:World),i<zs.length->(part u (zs.map (Value.int k)).toArray i).run P w= .ok (.int k (zs.getD i 0)) w:=λzs i w h=>
  run_part_plain w hp (by simp[List.getD,h])
 have loop:∀(m:List Field),(∀f∈m,(f.name != "_")=true/\f.type=u)->(∀f∈m,f.offset<xs.length)->(∀f∈m,f.offset<ys.length)->
   (forIn m ((none:Option Bool),()) λ(f:Field) __s=>if f.name ≠ "_" then do
        let __do_lift <- part f.type (List.map (Value.int k) xs).toArray f.offset
        let __do_lift_1 <- part f.type (List.map (Value.int k) ys).toArray f.offset
        let __do_lift <- Op.equalIn (d+1) f.type __do_lift __do_lift_1
        if(!__do_lift)=true then pure (ForInStep.done (some false,()))
         else pure (ForInStep.yield (none,()))
       else pure (ForInStep.yield (none,()))).run P w= .ok (if(m.all λf=>xs.getD f.offset 0 == ys.getD f.offset 0) then none else some false,()) w:=by
  intro m
  induction m with
  |nil=>intro _ _ _;simp
  | cons f m ih=>
   intro h1 h2 h3;obtain⟨g1,g2⟩:=h1 f Kh;have g1':f.name ≠ "_" := by simpa using g1
   rw[List.forIn_cons];simp only[if_pos g1',g2,IY,Se xs _ w (h2 f Kh),Se ys _ w (h3 f Kh),Hm,hI,List.all_cons];rcases Bool.eq_false_or_eq_true (xs.getD f.offset 0 == ys.getD f.offset 0) with hb|hb
   ·simp only[hb,Bool.not_true,RD,if_false,KT,Hm,Bool.true_and];exact ih (λf hf=>h1 f (Lv _ hf)) (λf hf=>h2 f (Lv _ hf)) (λf hf=>h3 f (Lv _ hf))
   ·simp only[hb,Bool.not_false,if_true,KT,Hm,Bool.false_and,RD,if_false]
 rw[IY,loop l KK hx hy];simp only[Hm];split<;>rename_i h
 ·split at h
  ·cases h
  ·cases h;rename_i h2;simp only[KT];simp at h2;congr 1;simpa using h2
 ·split at h
  ·rename_i h2;simp only[KT];rw[h2]
  ·cases h
theorem WJ(k:IntKind):∀(n:Nat) (xs:List Int),xs.length=n->Aj (List.replicate n k) xs=xs.map (Value.int k)
 |0,[],_=>rfl
 |n+1,x::xs,h=>by
  have:=WJ k n xs (by simpa using h);unfold Aj at *
  simp only[List.replicate_succ,List.zipWith_cons_cons,NE,this]
theorem yD{xs ys:List Int}(h:xs.length=ys.length):((List.range xs.length).all λi=>xs.getD i 0 == ys.getD i 0)=(xs == ys):=by
 rw[Bool.eq_iff_iff,Mx,beq_iff_eq];constructor
 ·intro hh;apply List.ext_getElem h;intro i h1 h2;have:=hh i (lZ.2 h1);simpa[List.getD,h1,h2] using this
 ·rintro rfl i _;simp
def ZL(P:Program)(t:Nat):Array Field:=match P.underlying t with
 |some (.struct fs)=>fs
 |_=>#[]
def zW:List (Nat×List IntKind):=[(95,List.replicate 5 .u64)]
theorem iq:∀t ks,lk t zW=some ks->∀xs ys:List Int,La ks xs->La ks ys->∀(op:BinOp) (x y:Operand) (w:World),
  (eqGuard op t x y (.agg (Aj ks xs).toArray) (.agg (Aj ks ys).toArray)).run Tryz.prog w= .ok () w/\(Op.equal t (.agg (Aj ks xs).toArray) (.agg (Aj ks ys).toArray)).run Tryz.prog w= .ok (xs == ys) w:=by
 intro t ks h xs ys hx hy op x y w;simp only[zW,lk] at h;cases hb:Nat.beq 95 t with
 |false=>rw[hb] at h;cases h
 |true=>
 rw[hb,cond_true,Ai] at h;have:=CR hb;subst this;subst h;have h5:=hx.1;have h6:=hy.1;simp only[Qs] at h5 h6;have HF:∀w:World,(program).run Tryz.prog w= .ok Tryz.prog w:=λ_=>rfl
 constructor
 ·have hg:Tryz.prog.eqGuardType Tryz.prog.depth 95=false:=by kernel_rfl
  cases op<;>simp[eqGuard,hg,HF]
 ·have hs:Tryz.prog.stoodInHeld 95=false:=by kernel_rfl
  have hu:Tryz.prog.underlying 95=some (.struct (ZL Tryz.prog 95)):=by kernel_rfl
  have KK:(ZL Tryz.prog 95).toList.map (λf=>(f.name != "_",f.type,f.offset))= [(true,50,0),(true,50,1),(true,50,2),(true,50,3),(true,50,4)]:=by kernel_rfl
  generalize ZL Tryz.prog 95=fs at hu KK;have vj:Tryz.prog.underlying 50=some (.int .u64):=by kernel_rfl
  have tj:Tryz.prog.plainKey 50=true:=by kernel_rfl
  have dj:∀f∈fs.toList,(f.name != "_",f.type,f.offset) ∈ [(true,50,0),(true,50,1),(true,50,2),(true,50,3),(true,50,4)]:=λf hf=>by rw[<- KK];exact UT.2 ⟨f,hf,rfl⟩
  have Bx:∀f∈fs.toList,(f.name != "_")=true/\f.type=50/\f.offset<5:=λf hf=>by
   have:=dj f hf;simp only[IR,List.not_mem_nil,or_false,Prod.mk.injEq] at this;rcases this with h|h|h|h|h<;>exact⟨h.1,h.2.1,by rw[h.2.2];decide⟩
  have:=ACI hu hs vj tj (λf hf=>⟨(Bx f hf).1,(Bx f hf).2.1⟩) xs ys (λf hf=>by rw[h5];exact(Bx f hf).2.2) (λf hf=>by rw[h6];exact(Bx f hf).2.2) 9998 w;rw[WJ _ _ _ h5,WJ _ _ _ h6];refine this.trans ?_;have he:(fs.toList.all λf=>xs.getD f.offset 0 == ys.getD f.offset 0)=((fs.toList.map λf=>(f.name != "_",f.type,f.offset)).all λp=>xs.getD p.2.2 0 == ys.getD p.2.2 0):=by rw[List.all_map];rfl
  rw[he,KK, <- yD (h5.trans h6.symm),h5];rfl
def MU(fn:Func):IF:=⟨Ak fn,fn.ntmps,fn.results.toList⟩
def Sw(P:Program)(L:List (Nat×IF)):Prop:=∀f i,lk f L=some i->(∀args w,(callFunc f args).run P w= .ok (.enter f args) w)/\∃fn,P.funcs[f]? = some fn/\fn.body=some i.c/\fn.ntmps=i.nt/\fn.results.toList=i.cF
theorem Sw.nil{P:Program}:Sw P []:=λf i h=>by cases h
theorem Sw.cons{P:Program}{L:List (Nat×IF)}{f:Nat}{fn:Func}(hf:P.funcs[f]? = some fn)(hb:fn.body=some (Ak fn))(hc:∀args w,(callFunc f args).run P w= .ok (.enter f args) w)(hL:Sw P L):Sw P ((f,MU fn)::L):=λg i h=>by
 simp only[lk] at h;cases xp:Nat.beq f g with
 |true=>
  rw[xp,cond_true,Ai] at h;have:=CR xp;subst this;subst h;exact⟨hc,fn,hf,hb,rfl,rfl⟩
 |false=>rw[xp,cond_false] at h;exact hL g i h
def xC(T:Tb)(L:List (Nat×IF))(lp:List (Nat×LD)):Cx:= { tt:=wV,T:=T,Kp:=173,Kf:=171,loops:=lp,inl:=L,eqs:=zW }
def Ht(T:Tb)(L:List (Nat×IF)):Cx:=xC T L []
theorem bz(hG:Gw GB GC ad){T:Tb}(hT:iF GB GC T){L:List (Nat×IF)}(hL:Sw Tryz.prog L)(lp:List (Nat×LD)):Vt Tryz.prog (xC T L lp) GB GC where
 ok _B _S _I _sn _σ0 hB:= {
  tt:=AAV
  gc:=hG.lt
  gb:=hB
  tb:=λf fe h=>⟨λcf=>((hT f fe h).1 cf).1,(hT f fe h).2⟩
  mx:=ANi
  Kp:=λx y c w=>ALh x y c w
  Kf:=λx y c w=>ABH x y c w
  en:=λf args w ⟨fe,h⟩ cf _ _=>((hT f fe h).1 cf).2 args w
  eq:=λt ks h xs ys hx hy op x y w=>iq t ks h xs ys hx hy op x y w }
 il:=hL
theorem Sn(hG:Gw GB GC ad){T:Tb}(hT:iF GB GC T){L:List (Nat×IF)}(hL:Sw Tryz.prog L):Vt Tryz.prog (Ht T L) GB GC:=bz hG hT hL []
theorem G6(hG:Gw GB GC ad){g:fQ}(h:g= []\/g=SA):Ty GC ad g/\∀x∈g,(EC ad x.1).1<GB:=by
 rcases h with rfl|rfl
 ·exact⟨λ_ h=>(by cases h),λ_ h=>(by cases h)⟩
 ·exact⟨hG.ok,hG.ob⟩
theorem Ad.fin(hG:Gw GB GC ad){i:Ad}{T:Tb}(hT:iF GB GC T){L:List (Nat×IF)}(hL:Sw Tryz.prog L){f:Nat}{fn:Func}(hf:Tryz.prog.funcs[f]? = some fn)(hb:fn.body=some i.c)(hn:fn.ntmps=i.nt)(hr:fn.results.toList=i.cF)(hg:i.cA= []\/i.cA=SA)
  (hk:(i.dc (Ht T L)&&AKe (i.tree (Ht T L)))=true):Ck Tryz.prog GB GC f (.one (i.sum (Ht T L))):=by
 simp only[Bl] at hk;exact Ad.ok (Sn hG hT hL) hf hb hn hr rfl (G6 hG hg).1 (G6 hG hg).2 hk.1 hk.2
theorem Ad.cU(hG:Gw GB GC ad){i:Ad}{T:Tb}(hT:iF GB GC T){L:List (Nat×IF)}(hL:Sw Tryz.prog L){f:Nat}{fn:Func}(hf:Tryz.prog.funcs[f]? = some fn)(hb:fn.body=some i.c)(hn:fn.ntmps=i.nt)(hr:fn.results.toList=i.cF)(hg:i.cA= []\/i.cA=SA)
  (hk:i.dc (Ht T L)=true):Ck Tryz.prog GB GC f (.one (i.cC (Ht T L))):=
 Ad.okP (Sn hG hT hL) hf hb hn hr rfl (G6 hG hg).1 (G6 hG hg).2 hk
theorem Ad.ad1(hG:Gw GB GC ad){i:Ad}{l:JJ}{T T':Tb}{xT:Nat}(aeF:1000000<=xT){L L':List (Nat×IF)}{Cb C1:Cx}(hCb:Cb=Ht T' L'){pl:List (List Int)->Prop}(hC1:C1=xC ((xT,.one (l.sum Cb pl))::T) L [(l.id,⟨xT,l.ps,l.ss,l.cl,l.nt⟩)])
  (hT:iF GB GC T) (hL:Sw Tryz.prog L) (hL':Sw Tryz.prog L') {f:Nat} {fn:Func} (hf:Tryz.prog.funcs[f]? = some fn) (hb:fn.body=some i.c) (hn:fn.ntmps=i.nt) (hr:fn.results.toList=i.cF) (hg:i.cA= []\/i.cA=SA)
  (lR:l.cA= []\/l.cA=SA) (C2:∀ins,Uw l.s0.params ins->pl ins->l.pre Cb ins) (hT':iF GB GC T')
  (n9:l.dc Cb=true) (afe:MI l.id i.c= [.loop l.c]) (hni:(L.all λj=>Sz [l.id] j.2.c)=true)
  (hk:i.dc C1=true) {pre:List (List Int)->Prop} (hpd:∀ins,Uw i.s0.params ins->pre ins->EY C1.T (i.tree C1) (Ce ins)):
  Ck Tryz.prog GB GC f (.one (i.Hh C1 pre)):=by
 subst hCb;subst hC1;have wj:∀fe,lk xT ((xT,FE.one (l.sum (Ht T' L') pl))::T)=some fe->fe= .one (l.sum (Ht T' L') pl):=λfe h=>by
  simp only[lk,Nat.beq_refl,cond_true,Ai] at h;exact h.symm
 refine Ad.ajl (bz hG (iF.T6 (fe:=.one (l.sum (Ht T' L') pl)) aeF (λb=>iX _ _ _) hT) hL _) hf hb hn hr (λE e1 e2 e3 e4=>⟨?_,λg j hj=>?_⟩) (G6 hG hg).1 (G6 hG hg).2 hk hpd
 ·refine J9.one (d:=⟨xT,l.ps,l.ss,l.cl,l.nt⟩) (by rw[e2];rfl) afe ?_ ?_
  ·exact JJ.ok (Sn hG hT' hL') n9 (G6 hG lR).1 (G6 hG lR).2 (λE' _ c2 _ _=>⟨J9.of_nil (by rw[c2];rfl) _,λ_ _ _=>J9.of_nil (by rw[c2];rfl) _⟩) e1 e3 e4 rfl rfl rfl rfl (λfe h=>wj fe (by rw[e2] at h;exact h)) C2
  ·intro fe h x;rw[e2] at h;rw[wj fe h];rfl
 ·refine J9.fX _ ?_;rw[e2];exact Mx.1 hni (g,j) (Ni hj)
end
def u2:List IntKind:=List.replicate 2 .u64
def z1:PF:=λ_=>[]
def z0:PI:=λ_=>0
end
end Go.Proofs.YtloibefkijfdlaaGreatDoor
