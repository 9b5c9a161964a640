import PyProof.Rows.All
import Wide.All
import OpenK.AllK
import Wide.FinOn
import Lean
import PySem.Challenge.RW_ik0071_01
open PySem.W.R (bindR)
open PySem PySem.W PySem.W.X PySem.Spec PySem.Calls PyProof.Rows
set_option Elab.async false
set_option maxRecDepth 100000
set_option linter.all false
set_option maxHeartbeats 0
set_option tactic.hygienic false
set_option genInjectivity false
set_option genSizeOf false
set_option bootstrap.genMatcherCode false
namespace Mine
variable {Γ Γ' Γx:PySem.Ctx}{p p' p4 p5 p3:Pos}{s s' s'' s₀:Shared}{c k d n i h a j dep x y f nn sl jo q jd ln ln' y' n₁ ja jb jc je jf e g F₁ F₂ qe lne ep j1 j2 t it loc rw sc tx e1 e2 jl gn ls e0 tk c₀ its it1 l1 it2 l2 ep1 ep2 ty t0 u dd t1 t2 jx jn fi fl fg fe fle fge ca cb cc cd ce md k1 k2 q1 q2 q3 ddx ddy cr ck cah wr od cw fid tz rl er ea ia ib ic id_ ie r0 r1 r2 r3 acc wl dc ew c46 c813 iB eo:Nat}{r:Result}{m m' olds js as tok tok' u' ks R0 R1 R2 R3 ns ts tt1 tt2:List Nat}{b fs q':Bool}{G G₀:List GenState}{A K K' A' ad τ ρ σ ρi rk:Nat->Nat}{prog:Program}{w:World}{R:Result->Shared->Prop}{id:String}{objs:List Obj}{c₁:Code}{env sp lw en:Env}{st' st0:Option Nat}{o₁ o₂:Obj}{ws Lf ws1 ws2:List (List Nat)}{vs rvs vs1 vs2:List Value}{gs₀:Array GenState}{xs:List (Int×Nat)}{bl:List (Code×Pos)}{qs:List (Nat×Nat)}
theorem dT{p:Prop}[Decidable p](h:decide p=true:=by rfl):p:=of_decide_eq_true h
noncomputable abbrev s6:List Nat:=[47,99,108,97,105,109,47,99,117,116,46,112,121]
noncomputable abbrev s7:List Nat:=[99,109,112,95,116,111,95,107,101,121,46,60,108,111,99,97,108,115,62,46,75,46,95,95,105,110,105,116,95,95]
noncomputable abbrev s8:List Nat:=[95,95,115,116,97,116,105,99,95,97,116,116,114,105,98,117,116,101,115,95,95]
noncomputable abbrev s9:List Nat:=[99,109,112,95,116,111,95,107,101,121,46,60,108,111,99,97,108,115,62,46,75]
noncomputable abbrev sa:List Nat:=[95,95,105,110,105,116,95,95]
noncomputable abbrev sd:List Nat:=[95,95,102,105,114,115,116,108,105,110,101,110,111,95,95]
noncomputable abbrev se:List Nat:=[99,112,121,51,49,51,46,115,104,108,101,120]
noncomputable abbrev sf:List Nat:=[108,97,119,95,105,107,48,48,55,49,95,48,49]
noncomputable abbrev sh:List Nat:=[99,112,121,51,49,51,46,102,117,110,99,116,111,111,108,115]
noncomputable abbrev si:List Nat:=[95,95,109,111,100,117,108,101,95,95]
noncomputable abbrev sk:List Nat:=[112,117,110,99,116,117,97,116,105,111,110,95,99,104,97,114,115]
noncomputable abbrev sn:List Nat:=[95,108,97,119,95,100,114,101,115,115,101,100]
noncomputable abbrev sr:List Nat:=[115,99,114,105,112,116]
noncomputable abbrev sw:List Nat:=[95,108,97,119,95,99,111,109,112,97,114,101]
noncomputable abbrev sx:List Nat:=[99,109,112,95,116,111,95,107,101,121,46,60,108,111,99,97,108,115,62,46,75,46,95,95,108,116,95,95]
noncomputable abbrev sy:List Nat:=[99,109,112,95,116,111,95,107,101,121,46,60,108,111,99,97,108,115,62,46,75,46,95,95,103,116,95,95]
noncomputable abbrev sA:List Nat:=[99,109,112,95,116,111,95,107,101,121,46,60,108,111,99,97,108,115,62,46,75,46,95,95,101,113,95,95]
noncomputable abbrev sB:List Nat:=[99,109,112,95,116,111,95,107,101,121,46,60,108,111,99,97,108,115,62,46,75,46,95,95,108,101,95,95]
noncomputable abbrev sC:List Nat:=[99,109,112,95,116,111,95,107,101,121,46,60,108,111,99,97,108,115,62,46,75,46,95,95,103,101,95,95]
noncomputable abbrev sG:List Nat:=[99,109,112,95,116,111,95,107,101,121]
noncomputable abbrev sH:List Nat:=[95,108,97,119,95,108,105,110,101,115]
noncomputable abbrev sI:List Nat:=[95,108,97,119,95,112,108,97,105,110]
noncomputable abbrev sJ:List Nat:=[108,105,110,101,115]
noncomputable abbrev sK:List Nat:=[84,101,120,116,73,79,66,97,115,101]
noncomputable abbrev sM:List Nat:=[115,104,108,101,120,46,112,117,110,99,116,117,97,116,105,111,110,95,99,104,97,114,115]
noncomputable abbrev sN:List Nat:=[95,108,97,119,95,112,97,105,114]
noncomputable abbrev sO:List Nat:=[95,95,100,111,99,95,95]
noncomputable abbrev sP:List Nat:=[83,116,114,105,110,103,73,79,46,95,95,116,114,97,110,115,108,97,116,101,100]
noncomputable abbrev sQ:List Nat:=[48,49,50,51,52,53,54,55,56,57,97,98,99,100,101,102]
noncomputable abbrev sR:List Nat:=[108,97,119,46,60,108,111,99,97,108,115,62,46,60,108,97,109,98,100,97,62]
noncomputable abbrev sS:List Nat:=[65,66,67,68,69,70,71,72,73,74,75,76,77,78,79,80]
noncomputable abbrev sU:List Nat:=[83,116,114,105,110,103,73,79]
noncomputable abbrev sV:List Nat:=[16,21,20,19,24,32,41,50,59,68,77,78,80,18,17]
noncomputable abbrev sW:List Nat:=[119,114,97,112,112,101,100]
noncomputable abbrev sX:List Nat:=[95,95,115,108,111,116,115,95,95]
noncomputable abbrev sY:List Nat:=[66,121,116,101,115,73,79]
noncomputable abbrev sZ:List Nat:=[115,104,108,101,120,46,114,101,97,100,95,116,111,107,101,110]
noncomputable abbrev HN:List Nat:=[83,116,114,105,110,103,73,79,46,95,95,105,110,105,116,95,95]
noncomputable abbrev HO:List Nat:=[115,104,108,101,120,46,103,101,116,95,116,111,107,101,110]
noncomputable abbrev rF:List Nat:=[95,95,108,116,95,95]
noncomputable abbrev rG:List Nat:=[95,95,103,116,95,95]
noncomputable abbrev rH:List Nat:=[95,95,101,113,95,95]
noncomputable abbrev rI:List Nat:=[95,95,108,101,95,95]
noncomputable abbrev rJ:List Nat:=[95,95,103,101,95,95]
noncomputable abbrev CA:List Nat:=[114,101,97,100,95,116,111,107,101,110]
noncomputable abbrev uR:List Nat:=[114,101,100,117,99,101]
noncomputable abbrev uS:List Nat:=[95,105,110,100,101,120]
noncomputable abbrev HP:List Nat:=[83,116,114,105,110,103,73,79,46,95,95,99,104,101,99,107]
noncomputable abbrev xO:List Nat:=[95,95,105,116,101,114,95,95]
noncomputable abbrev xP:List Nat:=[95,95,110,101,120,116,95,95]
noncomputable abbrev xQ:List Nat:=[95,95,104,97,115,104,95,95]
noncomputable abbrev CB:List Nat:=[103,101,116,95,116,111,107,101,110]
noncomputable abbrev HQ:List Nat:=[115,104,108,101,120,46,95,95,105,110,105,116,95,95]
noncomputable abbrev HT:List Nat:=[115,104,108,101,120,46,95,95,105,116,101,114,95,95]
noncomputable abbrev HU:List Nat:=[115,104,108,101,120,46,95,95,110,101,120,116,95,95]
noncomputable abbrev uT:List Nat:=[73,110,116,50,65,80]
noncomputable abbrev uU:List Nat:=[73,79,66,97,115,101]
noncomputable abbrev uV:List Nat:=[115,104,108,101,120]
noncomputable abbrev uW:List Nat:=[115,112,108,105,116]
noncomputable abbrev uX:List Nat:=[113,117,111,116,101]
noncomputable abbrev HV:List Nat:=[73,79,66,97,115,101,46,95,95,110,101,119,95,95]
noncomputable abbrev HW:List Nat:=[83,116,114,105,110,103,73,79,46,114,101,97,100]
noncomputable abbrev uY:List Nat:=[109,121,99,109,112]
noncomputable abbrev HX:List Nat:=[101,115,99,97,112,101,100,115,116,97,116,101]
noncomputable abbrev HY:List Nat:=[95,95,116,114,97,110,115,108,97,116,101,100]
noncomputable abbrev HZ:List Nat:=[95,95,119,101,97,107,114,101,102,95,95]
noncomputable abbrev xR:List Nat:=[111,114,100,101,114]
noncomputable abbrev uZ:List Nat:=[106,111,105,110]
noncomputable abbrev vA:List Nat:=[115,101,108,102]
noncomputable abbrev IA:List Nat:=[95,95,112,97,99,107,97,103,101,95,95]
noncomputable abbrev CC:List Nat:=[95,95,110,101,119,95,95]
noncomputable abbrev IB:List Nat:=[95,95,108,111,97,100,101,114,95,95]
noncomputable abbrev IC:List Nat:=[102,117,110,99,116,105,111,110]
noncomputable abbrev ID:List Nat:=[115,101,113,117,101,110,99,101]
noncomputable abbrev CD:List Nat:=[119,111,114,100,115]
noncomputable abbrev CE:List Nat:=[114,111,119,115]
noncomputable def aQ(a:Nat):List Nat->Nat
 |n::v::l=>aQ (a*16 ^ n+v) l
 |_=>a
noncomputable abbrev g7:Nat:=(aQ 0 [5,933896,9,16388,12,4,18,33611780,9,8194,12,2,19,268902404,9,8194,12,2,35,0x1007200e00e00e8000020018,15,24,24,24,26,6145,7,8,3,8,12,8,18,67223553,7,8,3,8,12,8,14,1026,9,4097,41,2,15,4103])
noncomputable abbrev g8:Nat:=0x6c002000002002a0010010014000800800800400401000c00c00a00c00c006003003003002803003001800c00c00c00a00c00c0060030030015005005005
noncomputable abbrev g9:Nat:=(aQ 0 [1,8,9,16388,12,4,14,512])
noncomputable abbrev ga:Nat:=(aQ 0 [1,1,7,8,3,8,12,8,13,64])
noncomputable abbrev gb:Nat:=(aQ 0 [1,2,9,4097,12,1,14,128])
noncomputable abbrev gc:Nat:=0x1004000802002002002400c006006007000800c0080040055000800400400100e0070070075000c008004005000800800800802802800b00b00b00d009009009009004802401401401400a4016000000016016009009009009004802401
noncomputable abbrev gf:Nat:=0x4010002008008008009003001801801c00200300200100154002001001000403801c01c01d4003002001001400200200200200a00a002c02c02c0340240240240240120090050050050029005800000005805802402402402401200900
noncomputable abbrev gh:Nat:=0x2008001004004004004801800c00c00e001001801000800aa001000800800201c00e00e00ea001801000800a001001001001005005001601601601a0120120120120090048028028028014802c00000002c02c01201201201200900480
noncomputable abbrev gi:Nat:=0x80200040100100100120060030030038004006004002002a8004002002000807003803803a80060040020028004004004004014014005805805806804804804804802401200a00a00a005200b00000000b00b004804804804802401200
noncomputable abbrev gj:Nat:=0x200100100030002002002002002001001002801801801001801800c006006006004006006003001801801801001801800c006006002400800800a00040000020010008008080010000000000000010010008008000002002000000
noncomputable abbrev gk:Nat:=0x400400400400
noncomputable abbrev gl:Nat:=(aQ 0 [16,0x801801801801a002,9,4097,24,1,28,32792,15,402751496,9,16388,24,4,30,33579012,9,8194,24,2,27,4101,10,163880,15,16386,15,2,24,2,50,0x200600600600420021004004004,5,8,15,2,15,4097,7,32776,13,24,6,24,15,824835072006,9,0])
noncomputable abbrev gm:Nat:=0x40048009001200240048008000004004002002000000
noncomputable abbrev gp:Nat:=(aQ 0 [1,4,9,8194,12,2,14,256])
noncomputable abbrev gq:Nat:=(aQ 0 [1,1,25,0x800a006006006,6,4,12,4,6,4,6,2,25,4504974218280972,6,8,12,8,6,8,6,4,25,9009948436561944,5,1,12,1,6,1,7,8,17,4195584])
noncomputable abbrev gr:Nat:=(aQ 0 [7,134250504,6,2,12,2,6,2,6,1,12,0])
noncomputable abbrev gt:Nat:=0x250030030030032001000000002002002002001a002002002
noncomputable abbrev gu:Nat:=0x800800800800400200
noncomputable abbrev gz:Nat:=0x9009002009009004802401401401400a400002c00002c02c01201200401201200900480280280280148000058000058058024024008024024012009005005005002900000b00000b00b004804801004804802401200
noncomputable abbrev gA:Nat:=(aQ 0 [7,67125252,6,1,12,1,6,1,7,8,11,0])
noncomputable abbrev gC:Nat:=0xc004004002004004002001000a00a00a0054000018000018018008008004008008004002001401401400a80000300000300300100100080100100080040028028028015000006000006006002002001002002001000800
noncomputable abbrev gD:Nat:=(aQ 0 [7,16781313,7,4,12,4,6,4,6,2,12,1])
noncomputable abbrev gE:Nat:=0x100100100100080040028028028015400c00c00c00
noncomputable abbrev gG:Nat:=0x2001000c00c00c006001001001000
noncomputable abbrev gH:Nat:=0x1401401400aa0060060060020020020020010008004002200800800
noncomputable abbrev gI:Nat:=0x800400400200
noncomputable abbrev gJ:Nat:=(aQ 0 [7,50343939,6,2,12,2,6,2,5,0])
noncomputable abbrev gM:Nat:=0x400200200a008008007008008004002002002001c020020010008008008007008008004002002000e803803803c000800000400
noncomputable abbrev gN:Nat:=(aQ 0 [1,8,12,8,6,8,6,4,14,512])
noncomputable abbrev gO:Nat:=0xb0010000004004000000004004002002002801801800801801800c006006006002006006003001801801800801801800c006006001
noncomputable abbrev gP:Nat:=0x1801801800c002002002000
noncomputable abbrev gQ:Nat:=0x401401400a4016000000016016009009009009004802401
noncomputable abbrev gR:Nat:=0x50050050029005800000005805802402402402401200900
noncomputable abbrev gT:Nat:=0x28028028014802c00000002c02c01201201201200900480
noncomputable abbrev gU:Nat:=0xa00a00a005200b00000000b00b004804804804802401200
noncomputable abbrev gV:Nat:=0x50000028028000000000004000004004801800c00
noncomputable abbrev gW:Nat:=(aQ 0 [21,0x7200e00e00e8000020018,15,24,24,24,25,384])
noncomputable abbrev gX:Nat:=0x7007003803800000e00e000000
noncomputable abbrev gY:Nat:=0x800000400400
noncomputable abbrev gZ:Nat:=0x200200200200
noncomputable abbrev vB:Nat:=0x8038007804802402400
noncomputable abbrev mP:Nat:=0x1001001001
noncomputable abbrev xS:Nat:=0x200940240240093000800
noncomputable abbrev xT:Nat:=0x480250090090024c00000
noncomputable abbrev vC:Nat:=0x8008004004000000
noncomputable abbrev IE:Nat:=0x10804004804401c00e00e00e00a00d0070038038038010030010012002001
noncomputable abbrev rK:Nat:=0x800800800800
noncomputable abbrev rL:Nat:=0x18000000000004002001
noncomputable abbrev CF:Nat:=0x802001000400400402000400
noncomputable abbrev vD:Nat:=0x803803803800
noncomputable abbrev vE:Nat:=0x801801801800
noncomputable abbrev vF:Nat:=0x200200100100
noncomputable abbrev CG:Nat:=0x200100080048010010005
noncomputable abbrev CH:Nat:=0x3803801c01c01c00e00
noncomputable abbrev IF:Nat:=(aQ 0 [10,687295455238,6,4,12,4,6,4,6,2,17,1048896])
noncomputable abbrev CI:Nat:=(aQ 0 [1,2,9,4097,41,2,15,4103])
noncomputable abbrev h9:Nat:=(aQ 58496 [36,ga,17,0x1c01c01c01c010400,12,gY,10,4,18,33621120,36,ga,7,33562624,36,gp,8,2148008068,9,32772,15,4,12,4,32,0x402001400a00500280280,36,ga,1,2,9,4097,17,65544,15,8,12,8,15,32824,9,114716,21,1])
noncomputable abbrev hH:Nat:=(aQ 0x30008004004000c000 [12,rK,117,0x800400401e01a01a01801a01a00d006806806806006806803401a01a01a01801a01a00d006806803100c00c00c800100000080040020020006000,12,gk,103,gM,182,gj])
noncomputable abbrev hO:Nat:=(aQ gc [47,gQ,47,gQ,21,xS,124,g8])
noncomputable abbrev hY:Nat:=(aQ gf [47,gR,47,gR,21,xT,124,g8])
noncomputable abbrev IG:Nat:=(aQ gh [47,gT,47,gT,9,2466252800,124,g8])
noncomputable abbrev II:Nat:=(aQ gi [47,gU,47,gU,3,588,129,g8])
noncomputable abbrev IJ:Nat:=(aQ gc [47,gQ,21,xS,124,g8])
noncomputable abbrev IK:Nat:=(aQ gf [47,gR,21,xT,124,g8])
noncomputable abbrev IL:Nat:=(aQ gh [47,gT,9,2466252800,124,g8])
noncomputable abbrev IM:Nat:=(aQ gi [47,gU,3,588,129,g8])
noncomputable abbrev IN:Nat:=(aQ gc [21,xS,124,g8])
noncomputable abbrev IO:Nat:=(aQ gf [21,xT,124,g8])
noncomputable abbrev IP:Nat:=(aQ gh [9,2466252800,124,g8])
noncomputable abbrev IQ:Nat:=(aQ gi [3,588,129,g8])
noncomputable abbrev IR:Nat:=(aQ 98308 [6,8194,7,24576,12,gk,103,gM,182,gj])
noncomputable abbrev IS:Nat:=(aQ 0x1004000802002002002400c006006007000800c0080040055000800400400100e0070070075000c008004005000800800800802802800b00d009009009009004802401 [21,xS,124,g8])
noncomputable abbrev IU:Nat:=(aQ 0x4010002008008008009003001801801c00200300200100154002001001000403801c01c01d4003002001001400 [12,gZ,31,0xa00a002c03402402402402401200900,21,xT,124,g8])
noncomputable abbrev IV:Nat:=(aQ 0x2008001004004004004801800c00c00e001001801000800aa001000800800201c00e00e00ea001801000800a00 [10,mP,42,0x5005001601a01201201201200900480093000800,124,g8])
noncomputable abbrev IW:Nat:=(aQ 2050 [5,64,10,mP,123,0x20060030030038004006004002002a8004002002000807003803803a8006004002002800400400400401401400580680480480480480240120024c00000,124,g8])
noncomputable abbrev CJ:Nat:=(aQ 671154197 [6,8194,106,gO,12,gk,4,34817,22,vC])
noncomputable abbrev IX:Nat:=(aQ 14592 [36,gb,6,3670912,36,ga,4,7168,49,gr,12,vD,36,g9,3,3840,26,gX])
noncomputable abbrev IY:Nat:=(aQ 3072 [182,gj])
noncomputable abbrev CK:Nat:=(aQ 0x7007007007007007 [12,1,12,1,14,256,12,gY,20,1,27,0x1001007007007007])
noncomputable abbrev xU:Nat:=(aQ 0x4002001001000a002400800801000280080080018018 [33,824835072006,6,0])
noncomputable abbrev CL:Nat:=(aQ 0xc00680180180100100100080000080080080060014004004002 [18,16781312,16,vC,3,0])
noncomputable abbrev CN:Nat:=(aQ 1 [12,vE,3,512,10,mP,4,2,44,gm])
noncomputable abbrev IZ:Nat:=(aQ 0x10014030018806006006003001801801600a4028028 [12,vF,4,4098,20,vF,8,16388,6,0])
noncomputable abbrev vG:Nat:=0x1200240048008000004004002002000000
noncomputable abbrev xV:Nat:=0x400200200200140040040040020010010000000
noncomputable abbrev CO:Nat:=(aQ 73730 [44,gm])
noncomputable abbrev xW:Nat:=0x7466746a62732e7566682e6d626a64667174
noncomputable abbrev JA:Nat:=(aQ 0x401c00400400800 [12,gk,12,gk,6,4195328,12,gZ,3,512,12,vF,1,1])
noncomputable abbrev JB:Nat:=0x1801801801801801801801a01a01a018018018017003002002001002001
noncomputable abbrev JC:Nat:=(aQ 10 [9,20485,13,8,6,8,8,9437952,20,rL])
noncomputable abbrev xX:Nat:=0x48008000004004002002000000
noncomputable abbrev xY:Nat:=0x4004004004004004004002001
noncomputable abbrev JD:Nat:=0x66646a78752e7366756a2e6f706a746f66696673716e7064
noncomputable abbrev JE:Nat:=0x100140100028008008010010010000004004000000
noncomputable abbrev JF:Nat:=0x9001200240048008000004004002002000000
noncomputable abbrev JG:Nat:=0x10010010010010010008008008005001001
noncomputable abbrev JH:Nat:=0x100024008008006008004006004005003
noncomputable abbrev xZ:Nat:=6756017949908993
inductive bP where
 |nat (a:Nat)
 |obj (o:Obj)
 |code (c:Code) (l:List Env)
 |codeP (c:Code) (l:List Env) (p:Pos)
 |tree (t:Sem Fin)
inductive Fr where
 |ret (k:Result->Sem Fin) (Γ:PySem.Ctx) (p:Pos) (d:Nat)
 |gen (j:Nat) (k:GenResult->Sem Fin) (Γ:PySem.Ctx) (p:Pos) (d:Nat)
structure HS where
 code:Code
 pre:List (Nat×Obj)
 post:List (Nat×Obj)
 news:List Obj
 res:Result
 nt:Nat
 slot:Nat
 tok:Nat
 dep:Nat
 env:Option (List Env)
noncomputable abbrev HF:=(Nat->Nat)->(Nat->Nat)->HS
structure St where
 Γ:PySem.Ctx
 p:Pos
 κ:List Fr
 d:Nat
 t:Sem Fin
 T:BT
 n:Nat
 i:Nat
 ch:Ch
 G:List GenState
 L:List bP
 R:List bP
noncomputable def den(c:Code):Sem Fin:=Fast.tw11892475500146522536 Fast.tw14364793385576792824 c
theorem yA(c:Code):denote table c=den c:=by
 unfold den;rw[<-Fast.te11892475500146522536,<-Fast.te14364793385576792824,<-table_eq_tree]
noncomputable def JI:Str:=⟨#[46,60,108,111,99,97,108,115,62,46]⟩
noncomputable def CP:Str:=⟨#[115,121,115,46,114,101,99,117,114,115,105,111,110,108,105,109,105,116]⟩
noncomputable def yC(self:Addr)(fd:FuncData)(args:Args)(q:Str):Sem Fin:=
 bindR (Fast.tw9782568553167038054 fd args) fun bs=>
 bindR (Fast.tw11113344188204177931 fd.scope fd.globals fd.closure bs (q++JI) (some self) fd.code none fd.builtins) fun env=>
 bindR (Fast.tw13143150168775219229 cStatics CP) fun v=>match v with
  |none=>match fd.scope.isGenerator with
   |true=> .unsupported ""
   |false=>match fd.scope.isCoroutine with
    |true=> .unsupported ""
    |false=> .pure (.again (match fd.body with
     | .stmts b=> .func b env
     | .expr e=> .expr e env))
  |some _=> .unsupported ""
noncomputable def mN{α:Type}(c:Value)(x:α)(y:Value->α):α:=match c with
 | .none=>x
 |c=>y c
noncomputable def mS{α:Type}(v:Value)(x:Str->α)(y:α):α:=match v with
 | .str q _=>x q
 |_=>y
noncomputable def yD(self:Addr)(fd:FuncData)(args:Args):Sem Fin:=
 bindR (mN fd.code (Sem.pure fd.qualname) fun c=>bindR (Fast.tw6609576154772507232 c 1) fun v=>mS v Sem.pure (Sem.pure fd.qualname)) (yC self fd args)
noncomputable def CQ(t:Sem Fin)(o:Obj):Sem Fin:=match t with
 | .load _ _ k=>k o
 |_=> .unsupported ""
noncomputable def kY(c:Code):Sem Fin:=match c with
 | .call f args=>match f with
  | .ref a=> .load a none fun o=>match o.data with
   | .func fd=>yD a fd args
   |_=>CQ (den (.call (.ref a) args)) o
  |f=>den (.call f args)
 |c=>den c
theorem eR{α β:Type}(M:Model)(Γ:PySem.Ctx)(m:Sem α)(f:α->Sem β)(Q:β->Pos->Shared->Prop)(E:Value->Pos->Shared->Prop)(p:Pos)(s:Shared):
  Sem.wp M Γ (bindR m f) Q E p s=Sem.wp M Γ m (fun a p' s'=>Sem.wp M Γ (f a) Q E p' s') E p s:=by
 rw[<-PySem.W.R.bindR_eq,Sem.wp_bind]
section
variable{M:Model}
theorem WO:CP=Str.ofString "sys.recursionlimit":=by decide+kernel
theorem WP:JI=Str.ofString ".<locals>.":=by decide+kernel
theorem WR {Q:Unit->Pos->Shared->Prop}{E:Value->Pos->Shared->Prop}(hd:frameCount Γ.below+Γ.code.weight<recursionLimit)(h:Sem.wp M Γ (nsGet cStatics CP) (fun v p' s'=>v=none/\Q () p' s') E p s):Sem.wp M Γ enterFrame Q E p s:=by
 have hΓ:Γ.In {handled:=Γ.handled,depth:=frameCount Γ.below+Γ.code.weight,frames:=none,guards:=none,units:=Γ.units}:=
  ⟨rfl,Nat.le_refl _,fun u q=>(nomatch q),fun u q=>(nomatch q),Nat.le_refl _⟩
 have hge:=frameCount_ge ((Γ.code,p)::Γ.below);rw[frameCount_cons] at hge;have hn:=not_nearTheLimit (p:=p) hΓ hd;have h1:¬((((Γ.code,p)::Γ.below).map (·.1)).map (·.frames)).sum - 0>=recursionLimit:=Nat.not_le.mpr (Nat.lt_of_le_of_lt (Nat.le_trans (Nat.le_add_right _ _) hge) (Nat.add_comm _ _▸hd));have h2:¬((((Γ.code,p)::Γ.below).map (·.1)).map (·.frames)).sum - 0+((((Γ.code,p)::Γ.below).map (·.1)).filter Code.isCreation).length>=recursionLimit:=Nat.not_le.mpr (Nat.lt_of_le_of_lt hge (Nat.add_comm _ _▸hd));unfold enterFrame;rw[Sem.wp_bind'];show Sem.wp M Γ (currentRecursionLimit>>= _) _ _ p s;unfold currentRecursionLimit;rw[Sem.wp_bind',Sem.wp_bind'];show Sem.wp M Γ (nsGet cStatics "sys.recursionlimit") _ _ p s;rw[WO] at h;refine Sem.wp_mono _ _ _ (fun v p' s' q=> ?_) (fun u u u q=>q) _ _ h;obtain⟨rfl,q⟩:=q;show Sem.wp M Γ (if nearTheLimitUnderAClaim (((Γ.code,p)::Γ.below).map (·.1)) (((((Γ.code,p)::Γ.below).map (·.1)).map (·.frames)).sum - 0+((((Γ.code,p)::Γ.below).map (·.1)).filter Code.isCreation).length) recursionLimit=true then _ else _) _ _ p' s';rw[if_neg (by rw[Nat.sub_zero,hn];exact Bool.false_ne_true)];show Sem.wp M Γ (if((((Γ.code,p)::Γ.below).map (·.1)).map (·.frames)).sum - 0>=recursionLimit then _ else _) _ _ p' s';rw[if_neg h1];show Sem.wp M Γ (if((((Γ.code,p)::Γ.below).map (·.1)).map (·.frames)).sum - 0+((((Γ.code,p)::Γ.below).map (·.1)).filter Code.isCreation).length>=recursionLimit then _ else _) _ _ p' s';rw[if_neg h2];exact q
noncomputable def rM(self:Addr)(fd:FuncData)(args:Args)(q:Str):Sem Fin:=do
 let bs <-bindArgs fd args;let env <-newFunctionEnv fd.scope fd.globals fd.closure bs (q++Str.ofString ".<locals>.") (some self) fd.code none fd.builtins
 enterFrame
 let code:Code:=match fd.body with
  |FuncBody.stmts b=>Code.func b env
  |FuncBody.expr e=>Code.expr e env
 match fd.scope.isGenerator,fd.scope.isCoroutine with
 |false,false=>again code
 |true,false=>do ret (<-newGenerator code fd.name fd.qualname)
 |false,true=>do ret (<-newCoroutine code fd.name fd.qualname)
 |true,true=>do ret (<-newAsyncGenerator code fd.name fd.qualname)
section
variable{Γ:PySem.Ctx}{p:Pos}{s:Shared}{Q:PySem.Fin->Pos->Shared->Prop}{E:Value->Pos->Shared->Prop}
theorem JJ{self:Addr}{fd:FuncData}{args:Args}{q:Str}(hd:frameCount Γ.below+Γ.code.weight<recursionLimit)(h:Sem.wp M Γ (yC self fd args q) Q E p s):Sem.wp M Γ (rM self fd args q) Q E p s:=by
 unfold yC at h;unfold rM;rw[eR,<-Fast.te9782568553167038054] at h;rw[Sem.wp_bind'];refine Sem.wp_mono _ _ _ (fun bs p s h=> ?_) (fun u u u q=>q) _ _ h;rw[eR,<-Fast.te11113344188204177931,WP] at h;rw[Sem.wp_bind'];refine Sem.wp_mono _ _ _ (fun env p s h=> ?_) (fun u u u q=>q) _ _ h;rw[eR,<-Fast.te13143150168775219229] at h;rw[Sem.wp_bind'];refine WR hd (Sem.wp_mono _ _ _ (fun v p s h=> ?_) (fun u u u q=>q) _ _ h);cases v with
 |some v=>rw[Sem.wp_unsupported] at h;exact h.elim
 |none=>
  refine⟨rfl,?_⟩;generalize fd.scope.isGenerator=b1 at h ⊢;cases b1 with
  |true=>rw[Sem.wp_unsupported] at h;exact h.elim
  |false=>
   generalize fd.scope.isCoroutine=b2 at h ⊢;cases b2 with
   |true=>rw[Sem.wp_unsupported] at h;exact h.elim
   |false=>exact h
section
variable {A:Str->Pos->Shared->Prop}
theorem WT {B:Str->Sem Fin}{q₀:Str}(key:∀{q p s},A q p s->Sem.wp M Γ (B q) Q E p s)(v:Value)(h:Sem.wp M Γ (mS v Sem.pure (Sem.pure q₀)) A E p s):
  Sem.wp M Γ (mS v B (B q₀)) Q E p s:=by cases v <;> exact key h
theorem WU {X:Value->Sem Str}{Y:Value->Sem Fin}{B:Sem Fin}{q₀:Str}(c:Value)(k0:A q₀ p s->Sem.wp M Γ B Q E p s)(k1:∀c,Sem.wp M Γ (X c) A E p s->Sem.wp M Γ (Y c) Q E p s)(h:Sem.wp M Γ (mN c (Sem.pure q₀) X) A E p s):Sem.wp M Γ (mN c B Y) Q E p s:=by
 cases c with
 |none=>exact k0 h
 |_=>exact k1 _ h
end
theorem WV{self:Addr}{fd:FuncData}{args:Args}(hd:frameCount Γ.below+Γ.code.weight<recursionLimit)(h:Sem.wp M Γ (yD self fd args) Q E p s):Sem.wp M Γ (callFunction self fd args) Q E p s:=by
 unfold yD at h;rw[eR] at h;show Sem.wp M Γ (mN fd.code (rM self fd args fd.qualname) fun c=>field c 1>>= fun v=>mS v (rM self fd args) (rM self fd args fd.qualname)) Q E p s;refine WU fd.code (JJ hd) (fun c h=> ?_) h;rw[eR,<-Fast.te6609576154772507232] at h;rw[Sem.wp_bind'];exact Sem.wp_mono _ _ _ (fun v p s h=>WT (A:=fun q p s=>Sem.wp M Γ (yC self fd args q) Q E p s) (B:=rM self fd args) (JJ hd) v h) (fun u u u q=>q) _ _ h
end
end
section
noncomputable def wb(c:Code):Nat:=ZFast.zw1243936422450756474 c
noncomputable def qD(c:Code):Bool:=ZFast.zw17772548960776305114 c
theorem qE(c:Code):qD c=c.quiet:=by unfold qD;rw[<-ZFast.ze17772548960776305114]
noncomputable def oO:List (Nat×Obj)->BT->List bP->List bP->Option (List bP×List bP)
 | [],_,L,R=>some (L,R)
 |x::xs,T,L,R=>match T.get x.1 with
  |none=>none
  |some o=>oO xs T (.obj o::L) (.obj x.2::R)
noncomputable def rN:List (Nat×Obj)->BT->BT
 | [],T=>T
 |x::xs,T=>rN xs (T.set x.1 fun u=>x.2)
noncomputable def oP:List Obj->Nat->BT->Option BT
 | [],_,T=>some T
 |o::os,n,T=>match(T.ins n o).get n with
  |none=>none
  |some _=>oP os (n+1) (T.ins n o)
noncomputable def qF:List (Nat×Obj)->Nat->Bool
 | [],_=>true
 |x::xs,n=>match Nat.blt x.1 n with
  |true=>qF xs n
  |false=>false
noncomputable def CR:List Obj->Bool
 | []=>true
 |o::os=>match o.isFreed with
  |true=>false
  |false=>CR os
noncomputable def CS:List (Nat×Obj)->Bool
 | []=>true
 |x::xs=>match x.2.isFreed with
  |true=>false
  |false=>CS xs
noncomputable def rO(c:Code):Option Env:=match c.isFrame with
 |true=>c.env?
 |false=>none
noncomputable def nR:List (Code×Pos)->List Env
 | []=>[]
 |x::l=>match rO x.1 with
  |some e=>e::nR l
  |none=>nR l
noncomputable def rP(e:Option (List Env))(l:List (Code×Pos)):List Env:=match e with
 |none=>[]
 |some _=>nR l
noncomputable def rQ(e:Option (List Env)):List Env:=match e with
 |none=>[]
 |some l=>l
theorem JK(c:Code):c.envs=(rO c).toList:=by
 unfold Code.envs rO;cases c.isFrame <;> rfl
theorem CT:∀l,envsOf l=nR l
 | []=>rfl
 | (c,p)::l=>by
  rw[envsOf_cons,JK,CT l];show (rO c).toList++nR l=match rO c with |some e=>e::nR l |none=>nR l
  cases rO c <;> rfl
theorem WW{e:Option (List Env)}{l:List (Code×Pos)}(h:rP e l=rQ e):∀x,e=some x->envsOf l=x:=fun x hx=>by
 subst hx;rw[CT];exact h
noncomputable def JL{α:Type}:List α->Bool
 | []=>false
 |_::_=>true
noncomputable def CU(l:List (Code×Pos))(p:Pos):Pos:=match l with
 | []=>p
 |x::_=>x.2
theorem WX {l:List (Code×Pos)}(h:JL l=true)(hp:CU l p=p):∃x l',l=(x,p)::l':=by
 cases l with
 |nil=>cases h
 |cons y l=>exact⟨y.1,l,by rw[<-hp];rfl⟩
noncomputable def oQ{α:Type}:Option α->Bool
 |none=>true
 |some _=>false
noncomputable def WY(b:Bool)(Γ:PySem.Ctx):Option Value:=match b with
 |true=>Γ.own
 |false=>Γ.handled
noncomputable def WZ:Flow->Value
 | .ret v=>v
 |_=> .none
noncomputable def yE(kt:KT)(ch:Ch)(a:Addr):Option Obj:=match chLook ch a with
 |some vs=>some (tableObj vs)
 |none=>kt.get a
noncomputable def nC(m:Nat)(x:St)(y:Nat->St):St:=match m with
 |0=>x
 |j+1=>y j
noncomputable def kZ(b:Bool)(x y:St):St:=match b with
 |true=>y
 |false=>x
noncomputable def oC{β:Type}(o:Option β)(x:St)(y:β->St):St:=match o with
 |none=>x
 |some v=>y v
noncomputable def rR(hk:HS)(d n i:Nat)(b:Bool)(T:BT)(L R:List bP)(x:St)(y:BT->List bP->List bP->St):St:=
 kZ (b && Nat.ble d hk.dep && Nat.beq hk.slot n && Nat.beq hk.tok i && qF hk.pre n && qF hk.post n && CR hk.news && CS hk.post) x
  (oC (oO hk.pre T L R) x fun c=>oC (oP hk.news n (rN hk.post T)) x fun T'=>y T' c.1 c.2)
noncomputable abbrev oR:Type:=Nat->List HF->PySem.Ctx->Pos->List Fr->Nat->Sem Fin->BT->Nat->Nat->Ch->List GenState->List bP->List bP->St
section
variable(S S₁ S₂:Setting)(kt:KT)(g₀:Nat)(A:Nat->Nat)(K:Nat->Nat)
noncomputable def CV(r:oR)(x y:St)(h:Nat)(hs:List HF)(Γ:PySem.Ctx)(p:Pos)(κ:List Fr)(d:Nat)(t:Sem Fin)(T:BT)(n i:Nat)(ch:Ch)(G:List GenState)(L R:List bP):St:=
 match t with
 | .pure fin=>match κ with
  | []=>y
  |fr::κ'=>match fin with
   | .done fl=>match fr with
    | .ret k Γ' p' d'=>r h hs Γ' p' κ' d' (k (.ok fl)) T n i ch G L R
    | .gen j k Γ' p' d'=>r h hs Γ' p' κ' d' (k (.returned (WZ fl))) T n i ch (G.set j .finished) L R
   | .again c=>kZ (qD c) x (match fr with
    | .ret k Γ' p' d'=>nC (h % 2) (kZ (Nat.blt d 1000) x (r (h / 2) hs (Γ.goto c) p (.ret k Γ' p' d'::κ') d (kY c) T n i ch G L R)) fun u=>match hs with
     | []=>x
     |hf::hs'=>rR (hf A K) d n i (JL Γ.below && oQ Γ.handled && oQ Γ.own && oQ Γ.past) T L R x fun T' l q=>r (h / 2) hs' Γ' p' κ' d' (k (hf A K).res) T' (n+(hf A K).news.length) (i+(hf A K).nt) ch G
       (.codeP c (rP (hf A K).env Γ.below) (CU Γ.below p)::l) (.codeP (hf A K).code (rQ (hf A K).env) p::q)
    | .gen j k Γ' p' d'=>r h hs (Γ.goto c) p (.gen j k Γ' p' d'::κ') d (den c) T n i ch G L R)
 | .raise e=>match κ with
  | []=>y
  |fr::κ'=>match fr with
   | .ret k Γ' p' d'=>r h hs Γ' p' κ' d' (k (.error e)) T n i ch G L R
   | .gen j k Γ' p' d'=>r h hs Γ' p' κ' d' (k (.raised e)) T n i ch (G.set j .finished) L R
 | .rule _ k=>r h hs Γ p κ d (k ()) T n i ch G L R
 | .at q k=>r h hs Γ q κ d (k ()) T n i ch G L R
 | .point _ k=>r h hs Γ p κ d (k ()) T n i ch G L R
 | .ask k=>nC (h % 2) (r (h / 2) hs Γ p κ d (k S) T n i ch G L R) fun u=>r (h / 2) hs Γ p κ d (k S₁) T n i ch G (.tree (k S₁)::L) (.tree (k S₂)::R)
 | .load a _ k=>nC (h % 4096) (kZ (Nat.blt a 817) x (oC (yE kt ch a) x fun o=>r (h / 4096) hs Γ p κ d (k o) T n i ch G L R)) fun j=>
   oC (T.get j) x fun o=>r (h / 4096) hs Γ p κ d (k o) T n i ch G (.nat a::L) (.nat (A j)::R)
 | .loadIfAlive a k=>nC (h % 4096) (kZ (Nat.blt a 817) x (oC (yE kt ch a) x fun o=>r (h / 4096) hs Γ p κ d (k (some o)) T n i ch G L R)) fun j=>
   oC (T.get j) x fun o=>r (h / 4096) hs Γ p κ d (k (some o)) T n i ch G (.nat a::L) (.nat (A j)::R)
 | .alloc o k=>kZ (not o.isFreed) x (oC ((T.ins n o).get n) x fun u=>r h hs Γ p κ d (k (A n)) (T.ins n o) (n+1) i ch G L R)
 | .update a _ g k=>nC (h % 4096) (kZ (Nat.blt a 817) x (oC (chLook ch a) x fun vs=>oC (tabOf (g (tableObj vs))) x fun vs'=>oC (strip vs.toList vs'.toList) x fun u=>
    r (h / 4096) hs Γ p κ d (k ()) T n i (chPut ch a vs') G L R)) fun j=>
   oC (T.get j) x fun o=>kZ (not (g o).isFreed) x (r (h / 4096) hs Γ p κ d (k ()) (T.set j g) n i ch G (.nat a::L) (.nat (A j)::R))
 | .fresh k=>r h hs Γ p κ d (k (K i)) T n (i+1) ch G L R
 | .handled own k=>r h hs Γ p κ d (k (WY own Γ)) T n i ch G L R
 | .stack k=>r h hs Γ p κ d (k ((Γ.code,p)::Γ.below)) T n i ch G L R
 | .call c hd _ _ k=>nC (h % 2) (kZ (Nat.blt (d+wb Γ.code) 1000) x (r (h / 2) hs (Γ.enter c hd p) p (.ret k Γ p d::κ) (d+wb Γ.code) (kY c) T n i ch G L R)) fun u=>match hs with
   | []=>x
   |hf::hs'=>rR (hf A K) (d+wb Γ.code) n i (oQ hd && oQ Γ.handled && oQ Γ.own && oQ Γ.past) T L R x fun T' l q=>r (h / 2) hs' Γ p κ d (k (hf A K).res) T' (n+(hf A K).news.length) (i+(hf A K).nt) ch G
     (.code c (rP (hf A K).env ((Γ.code,p)::Γ.below))::l) (.code (hf A K).code (rQ (hf A K).env)::q)
 | .newGen c k=>r h hs Γ p κ d (k (g₀+G.length)) T n i ch (G++[GenState.fresh c]) L R
 | .genState g k=>oC G[h % 4096]? x fun gs=>r (h / 4096) hs Γ p κ d (k gs.seen) T n i ch G (.nat g::L) (.nat (g₀+h % 4096)::R)
 | .resume g w _ k=>oC G[h % 4096]? x fun gs=>match gs with
   | .fresh c₀=>match w with
    | .send v=>match v with
     | .none=>r (h / 4096) hs (Γ.wake c₀ p) p (.gen (h % 4096) k Γ p d::κ) (d+wb Γ.code) (den c₀) T n i ch (G.set (h % 4096) .running) (.nat g::L) (.nat (g₀+h % 4096)::R)
     |_=>x
    |_=>x
   | .suspended k₀ _ c₀ p₀ fs₀ _=>match fs₀ with
    | []=>r (h / 4096) hs (Γ.wake c₀ p) p₀ (.gen (h % 4096) k Γ p d::κ) (d+wb Γ.code) (k₀ w) T n i ch (G.set (h % 4096) .running) (.nat g::L) (.nat (g₀+h % 4096)::R)
    |_=>x
   |_=>x
 | .yield v gd l k=>match κ with
  |fr::κ'=>match fr with
   | .gen j k' Γ' p' d'=>kZ (not gd) x (r h hs Γ' p' κ' d' (k' (.yielded v)) T n i ch (G.set j (.suspended k l Γ.code p [] false)) L R)
   |_=>x
  | []=>y
 |_=>x
noncomputable def run:Nat->oR
 |0,_,_,Γ,p,κ,d,t,T,n,i,ch,G,L,R=>⟨Γ,p,κ,d,t,T,n,i,ch,G,L,R⟩
 |f+1,h,hs,Γ,p,κ,d,t,T,n,i,ch,G,L,R=>CV S S₁ S₂ kt g₀ A K (run f) ⟨Γ,p,κ,d,.unsupported "",T,n,i,ch,G,L,R⟩ ⟨Γ,p,κ,d,t,T,n,i,ch,G,L,R⟩ h hs Γ p κ d t T n i ch G L R
end
end
section
structure Vc where
 prog:Program
 w:World
 kt:KT
 h₀:Heap
 n₀:Nat
 gs₀:Array GenState
 d₀:Drawn
 os:OsState
 t₀:Nat
noncomputable abbrev Vc.M(V:Vc):Model:=model V.prog V.w
noncomputable abbrev Vc.S(V:Vc):Setting:=⟨V.prog,V.w.params⟩
noncomputable def eK(prog:Program)(w:World)(b:Bool):Setting:=⟨prog,{w.params with followText:=fun r=>match PySem.W.S.eqLit xW r with
 |true=>b
 |false=>w.params.followText r}⟩
theorem JM(prog:Program)(w:World):eK prog w (w.params.followText "special-get-raises")=⟨prog,w.params⟩:=by
 unfold eK
 have e:(fun r=>match PySem.W.S.eqLit xW r with |true=>w.params.followText "special-get-raises" |false=>w.params.followText r)=w.params.followText:=by
  funext r
  have h:=congrFun (PySem.W.S.eqLit_eq "special-get-raises" xW (by decide+kernel)) r;rw[<-h];cases hb:(r == "special-get-raises") with
  |false=>rfl
  |true=>rw[eq_of_beq hb]
 rw[e]
noncomputable abbrev Vc.S₁(V:Vc):Setting:=eK V.prog V.w true
noncomputable abbrev Vc.S₂(V:Vc):Setting:=eK V.prog V.w false
theorem vH(c:Code):c.weight<=wb c:=Nat.le_of_eq (congrFun ZFast.ze1243936422450756474 c)
theorem vI {c:Code}(h:Nat.ble (wb c) k=true):c.weight<=k:=Nat.le_trans (vH c) (Nat.le_of_ble_eq_true h)
section
variable(V:Vc)(P:End->Shared->Prop)
noncomputable def cR:List Fr->PySem.Ctx->Pos->Sem Fin->Shared->Prop
 | [],Γ,p,t,s=>∃e s',Runs V.M Γ p t [] s e s'/\e.quiet=true/\P e s'
 | .ret k Γ' p' _::κ,Γ,p,t,s=>∃e s',Runs V.M Γ p t [] s e s'/\∃r,e= .ret r/\cR κ Γ' p' (k r) s'
 | .gen j k Γ' p' _::κ,Γ,p,t,s=>∃e s',Runs V.M Γ p t [] s e s'/\e.quiet=true/\cR κ Γ' p' (k e.result) (s'.setGen (V.gs₀.size+j) e.genState)
end
def XA(t:Sem Fin)(fs:List Frame)(s:Shared)(e:End)(s':Shared):Prop:=match fs with
 | []=>match t with
  | .unsupported _=>False
  | .pure (.done f)=>e= .ret (.ok f)/\s'=s
  | .raise x=>e= .ret (.error x)/\s'=s
  |_=>True
 |_::_=>True
theorem CW {M:Model}{t:Sem Fin}{fs:List Frame}{e:End}(h:Runs M Γ p t fs s e s'):XA t fs s e s':=by
 induction h <;> first |exact True.intro |exact⟨rfl,rfl⟩
section
variable{V:Vc}{P:End->Shared->Prop}
section
variable {κ:List Fr}
theorem cR.step {t t':Sem Fin}(h:cR V P κ Γ' p' t' s')(hs:∀e s₂,Runs V.M Γ' p' t' [] s' e s₂->Runs V.M Γ p t [] s e s₂):cR V P κ Γ p t s:=by
 cases κ with
 |nil=>obtain⟨e,s₂,hr,hq⟩:=h;exact⟨e,s₂,hs _ _ hr,hq⟩
 |cons fr κ=>
  cases fr with
  |ret=>obtain⟨e,s₂,hr,hq⟩:=h;exact⟨e,s₂,hs _ _ hr,hq⟩
  |gen=>obtain⟨e,s₂,hr,hq⟩:=h;exact⟨e,s₂,hs _ _ hr,hq⟩
theorem cR.no {w:String}(h:cR V P κ Γ p (.unsupported w) s):False:=by
 have key:∀{e s₂},Runs V.M Γ p (.unsupported w) [] s e s₂->False:=fun h=>CW h;cases κ with
 |nil=>obtain⟨e,s₂,hr,hq⟩:=h;exact key hr
 |cons fr κ=>
  cases fr with
  |ret=>obtain⟨e,s₂,hr,hq⟩:=h;exact key hr
  |gen=>obtain⟨e,s₂,hr,hq⟩:=h;exact key hr
theorem cR.call {c:Code}{hd:Option Value}{g:Bool}{l:List Value}{k:Result->Sem Fin}{s₁:Shared}(hb:Runs V.M (Γ.enter c hd p) p (V.M.den c) [] s (.ret r) s₁)(h:cR V P κ Γ p (k r) s₁):cR V P κ Γ p (.call c hd g l k) s:=
 h.step fun u u hr=> .call hb hr
end
theorem XB{c:Code}{f:Value}{args:Args}(e:c= .call f args)(a:Addr)(ef:f= .ref a):∃F:Obj->Sem Fin,den c= .load a none F/\denote table c= .load a none F/\∀o fd,o.data= .func fd->F o=callFunction a fd args:=by
 subst e ef
 have h:denote table (.call (.ref a) args)= .load a none (fun o=>Sem.bind (Sem.pure o) fun o=>match o.data with
  | .func fd=>callFunction a fd args
  | .fields vs=>
   if o.cls == .type "method" || o.cls == .type "builtin_function_or_method" || o.cls == .type "method-wrapper" then
    let __x:=(vs[0]?,vs[1]?)
    match __x with
    | (some func,some self)=>
     let all:Args:={args with pos:=self::args.pos};let jp:Unit->Sem Fin:=fun u=>again (.call func all)
     match func with
     | .builtin id=>if o.cls != .type "method" then do
       checkBoundCall id all
       let __y <-again (.builtin id all)
       pure __y
      else jp ()
     |_=>jp ()
    |_=>unsupported "internal:method-record"
   else callAny.viaDunder (.ref a) args
  |_=>callAny.viaDunder (.ref a) args):=rfl
 refine⟨_,(yA _).symm.trans h,h,fun o fd ho=> ?_⟩;show (match o.data with | .func fd=>callFunction a fd args | .fields vs=>_ |_=>_)=_;rw[ho]
theorem yG (hd:frameCount Γ.below<1000)(h:Runs V.M Γ p (kY Γ.code) [] s (.ret r) s'):Runs V.M Γ p (V.M.den Γ.code) [] s (.ret r) s':=by
 obtain⟨c,hnd,own,below,past⟩:=Γ
 have plain:kY c=den c->Runs V.M ⟨c,hnd,own,below,past⟩ p (V.M.den c) [] s (.ret r) s':=fun e=>by
  show Runs V.M _ p (denote table c) [] s (.ret r) s';rw[yA,<-e];exact h
 cases c with
 |call f args=>
  cases f with
  |ref a=>
   obtain⟨F,e1,e2,e3⟩:=XB (c:= .call (.ref a) args) rfl a rfl;have hw:=(Sem.wp_iff_runs V.M ⟨.call (.ref a) args,hnd,own,below,past⟩ _ (fun r' s''=>r'=r/\s''=s') p s).mpr ⟨r,s',h,rfl,rfl⟩
   have goal:Sem.wp V.M ⟨.call (.ref a) args,hnd,own,below,past⟩ (V.M.den (.call (.ref a) args)) (Sem.finPost V.M ⟨.call (.ref a) args,hnd,own,below,past⟩ fun r' s''=>r'=r/\s''=s') (fun e u s''=>(fun r' s''=>r'=r/\s''=s') (.error e) s'') p s:=by
    have e:V.M.den (.call (.ref a) args)= .load a none F:=e2;rw[e]
    have hw':Sem.wp V.M _ (.load a none fun o=>match o.data with
      | .func fd=>yD a fd args
      |_=>CQ (den (.call (.ref a) args)) o) _ _ p s:=hw
    rw[Sem.wp_load] at hw' ⊢;obtain⟨o,ho,hw'⟩:=hw';refine⟨o,ho,?_⟩;revert hw';cases hdt:o.data with
    |func fd=>
     intro hw';rw[e3 o fd hdt];exact WV (by show frameCount below+0<recursionLimit;exact hd) hw'
    |_=>
     intro hw';have hw':Sem.wp V.M _ (CQ (den (.call (.ref a) args)) o) _ _ p s:=hw';rw[e1] at hw';exact hw'
   obtain⟨r',s'',hr,rfl,rfl⟩:=(Sem.wp_iff_runs V.M ⟨.call (.ref a) args,hnd,own,below,past⟩ _ (fun r' s''=>r'=r/\s''=s') p s).mp goal;exact hr
  |_=>exact plain rfl
 |_=>exact plain rfl
end
end
section
noncomputable def fG:List Nat:=[46,769,813]
structure dQ(V:Vc)(A:Nat->Nat)(s:Shared)(T:BT)(n:Nat)(ch:Ch)(G:List GenState):Prop where
 own:∀j o,T.get j=some o->j<n/\s.heap.get? (A j)=some o
 inj:∀j j',j<n->j'<n->A j=A j'->j=j'
 hi:∀j,j<n->817<=A j/\A j<s.heap.objs.size
 fresh:∀j,V.n₀<=j->j<n->V.h₀.objs.size<=A j
 top:∀(a:Nat) o,a<817->V.kt.get a=some o->s.heap.get? a=some o
 chs:∀(a:Nat) vs,chLook ch a=some vs->a∈fG/\s.heap.get? a=some (tableObj vs)/\∃c ps more,V.h₀.TableAt c a ps/\vs=ps++more
 frame:∀(b:Nat) o,V.h₀.get? b=some o->(∀j,j<V.n₀->b≠A j)->chLook ch b=none->s.heap.get? b=some o
 size:V.h₀.objs.size<=s.heap.objs.size
 low:817<=V.h₀.objs.size
 n0:V.n₀<=n
 toks:1335<=s.toks
 tk:V.t₀<=s.toks
 gens:s.gens=V.gs₀++G.toArray
 drawn:s.drawn=V.d₀
 os:s.os=V.os
def lT(kt:KT)(h:Heap):Prop:=∀a o,a<817->kt.get a=some o->h.get? a=some o
structure yH(A:Nat->Nat)(hk:HS)(s s':Shared):Prop where
 frame:∀(b:Nat) o,s.heap.get? b=some o->(∀x∈hk.post,b≠A x.1)->s'.heap.get? b=some o
 post:∀x∈hk.post,s'.heap.get? (A x.1)=some x.2
 news:∀j o,hk.news[j]? =some o->s'.heap.get? (A (hk.slot+j))=some o/\s.heap.objs.size<=A (hk.slot+j)
 apart:∀j j',j<hk.news.length->j'<hk.news.length->A (hk.slot+j)=A (hk.slot+j')->j=j'
 size:s.heap.objs.size<=s'.heap.objs.size
 toks:s.toks<=s'.toks
 gens:s'.gens=s.gens
 drawn:s'.drawn=s.drawn
 os:s'.os=s.os
structure aG(M:Model)(kt:KT)(hf:HF):Prop where
 loc:∀(A K A' K':Nat->Nat),(∀j,j<(hf A K).slot+(hf A K).news.length->A' j=A j)->(∀j,j<(hf A K).tok+(hf A K).nt->K' j=K j)->hf A' K'=hf A K
 ok:∀(A:Nat->Nat) (K:Nat->Nat) (Γ:PySem.Ctx) (p:Pos) (s:Shared) (R:Result->Shared->Prop),
  (∀j,817<=A j)->(∀j,1335<=K j)->Γ.code=(hf A K).code->frameCount Γ.below<=(hf A K).dep->Γ.handled=none->Γ.own=none->Γ.past=none->
  lT kt s.heap->817<=s.heap.objs.size->1335<=s.toks->(∀x∈(hf A K).pre,s.heap.get? (A x.1)=some x.2)->
  (∀j j',j<(hf A K).slot->j'<(hf A K).slot->A j=A j'->j=j')->(∀j,j<(hf A K).slot->A j<s.heap.objs.size)->(∀l,(hf A K).env=some l->envsOf Γ.below=l)->(∃x l,Γ.below=(x,p)::l)->
  (∀A' K' s',(∀j,j<(hf A K).slot->A' j=A j)->(∀j,j<(hf A K).tok->K' j=K j)->(∀j,817<=A' j)->(∀j,1335<=K' j)->yH A' (hf A' K') s s'->R (hf A' K').res s')->
  wpCode M Γ R p s
section
variable{S S₁ S₂:Setting}{kt:KT}{g₀:Nat}{A:Nat->Nat}{K:Nat->Nat}
def LR(o:St)(L R:List bP):Prop:=∃X Y,o.L=X++L/\o.R=Y++R/\X.length=Y.length
theorem LR.refl{Γ p κ d t T n i ch G}(L R:List bP):LR ⟨Γ,p,κ,d,t,T,n,i,ch,G,L,R⟩ L R:=⟨[],[],rfl,rfl,rfl⟩
theorem LR.cons{o:St}{L R:List bP}{a b:bP}(h:LR o (a::L) (b::R)):LR o L R:=by
 obtain⟨X,Y,h1,h2,h3⟩:=h;exact⟨X++[a],Y++[b],by rw[h1,List.append_assoc];rfl,by rw[h2,List.append_assoc];rfl,by simp[h3]⟩
theorem LR.eq{o:St}{L R:List bP}(h:LR o L R)(e:o.L=o.R):L=R:=by
 obtain⟨X,Y,h1,h2,h3⟩:=h;rw[h1,h2] at e;exact(List.append_inj e h3).2
theorem JN:∀{xs:List (Nat×Obj)} {T:BT} {L R:List bP} {r:List bP×List bP},oO xs T L R=some r->∀{o:St},LR o r.1 r.2->LR o L R
 | [],_,_,_,_,e,_,h=>by cases e;exact h
 |x::xs,T,L,R,r,e,o,h=>by
  unfold oO at e;split at e
  ·cases e
  ·exact(JN e h).cons
theorem rS{m:Nat}{x:St}{y:Nat->St}{L R:List bP}(h1:LR x L R)(h2:∀j,LR (y j) L R):LR (nC m x y) L R:=match m with
 |0=>h1
 |j+1=>h2 j
theorem mQ {x y:St}{L R:List bP}(h1:LR x L R)(h2:LR y L R):LR (kZ b x y) L R:=match b with
 |true=>h2
 |false=>h1
theorem kH{β:Type}{o:Option β}{x:St}{y:β->St}{L R:List bP}(h1:LR x L R)(h2:∀v,o=some v->LR (y v) L R):LR (oC o x y) L R:=match o,h2 with
 |none,_=>h1
 |some v,h2=>h2 v rfl
theorem JO {hk:HS}{T:BT}{L R:List bP}{x:St}{y:BT->List bP->List bP->St}(h1:LR x L R)(h2:∀T' l r,LR (y T' l r) l r):LR (rR hk d n i b T L R x y) L R:=
 mQ h1 (kH h1 fun u e=>kH h1 fun u u=>JN e (h2 _ _ _))
def vJ(r:oR):Prop:=∀{h hs Γ p κ d t T n i ch G L R},LR (r h hs Γ p κ d t T n i ch G L R) L R
theorem XC {r:oR}(ih:vJ r){x y:St}{L R:List bP}(hx:LR x L R)(hy:LR y L R){hs:List HF}{κ:List Fr}{t:Sem Fin}{T:BT}{ch:Ch}:
  LR (CV S S₁ S₂ kt g₀ A K r x y h hs Γ p κ d t T n i ch G L R) L R:=by
 cases t with
 |pure fin=>
  cases κ with
  |nil=>exact hy
  |cons fr=>
   cases fin with
   |done=>cases fr <;> exact ih
   |again=>
    refine mQ hx ?_;cases fr with
    |ret=>
     refine rS (mQ hx ih) fun u=> ?_;cases hs with
     |nil=>exact hx
     |cons=>exact JO hx fun u u u=>ih.cons
    |gen=>exact ih
 |raise=>
  cases κ with
  |nil=>exact hy
  |cons fr=>cases fr <;> exact ih
 |ask=>exact rS ih fun u=>ih.cons
 |load=>exact rS (mQ hx (kH hx fun u u=>ih)) fun u=>kH hx fun u u=>ih.cons
 |loadIfAlive=>exact rS (mQ hx (kH hx fun u u=>ih)) fun u=>kH hx fun u u=>ih.cons
 |alloc=>exact mQ hx (kH hx fun u u=>ih)
 |update=>exact rS (mQ hx (kH hx fun u u=>kH hx fun u u=>kH hx fun u u=>ih)) fun u=>kH hx fun u u=>mQ hx ih.cons
 |call=>
  refine rS (mQ hx ih) fun u=> ?_;cases hs with
  |nil=>exact hx
  |cons=>exact JO hx fun u u u=>ih.cons
 |genState=>exact kH hx fun u u=>ih.cons
 |resume g w=>
  refine kH hx fun gs u=> ?_;cases gs with
  |fresh=>
   cases w with
   |send v=>cases v <;> first |exact ih.cons |exact hx
   |throw=>exact hx
  |suspended k₀ l₀ c₀ p₀ fs₀=>
   cases fs₀ with
   |nil=>exact ih.cons
   |cons=>exact hx
  |running=>exact hx
  |finished=>exact hx
 |yield v gd=>
  cases κ with
  |nil=>exact hy
  |cons fr=>
   cases fr with
   |ret=>exact hx
   |gen=>exact mQ hx ih
 |rule=>exact ih
 |«at»=>exact ih
 |point=>exact ih
 |fresh=>exact ih
 |handled=>exact ih
 |stack=>exact ih
 |newGen=>exact ih
 |_=>exact hx
theorem JP:∀f,vJ (run S S₁ S₂ kt g₀ A K f)
 |0=>LR.refl _ _
 |f+1=>XC (JP f) (LR.refl _ _) (LR.refl _ _)
end
end
section
noncomputable def rT:List Fr->Prop
 | []=>True
 | .ret _ Γ _ d::κ=>frameCount Γ.below<=d/\rT κ
 | .gen _ _ Γ _ d::κ=>frameCount Γ.below<=d/\rT κ
def yI(V:Vc)(P:End->Shared->Prop)(A:Nat->Nat)(o:St):Prop:=
 o.L=o.R/\∀s',dQ V A s' o.T o.n o.ch o.G->frameCount o.Γ.below<=o.d->rT o.κ->cR V P o.κ o.Γ o.p o.t s'
section
variable{V:Vc}{A A':Nat->Nat}{s:Shared}{T:BT}{n:Nat}{ch:Ch}{G:List GenState}
theorem dQ.congr(D:dQ V A s T n ch G)(e:∀j,j<n->A' j=A j):dQ V A' s T n ch G where
 own j o h:=by have z:=D.own j o h;exact⟨z.1,by rw[e j z.1];exact z.2⟩
 inj j j' h h' q:=D.inj j j' h h' (by rw[<-e j h,<-e j' h'];exact q)
 hi j h:=by rw[e j h];exact D.hi j h
 fresh j h0 h:=by rw[e j h];exact D.fresh j h0 h
 top:=D.top
 chs:=D.chs
 frame b o h q:=D.frame b o h fun j hj=>by rw[<-e j (Nat.lt_of_lt_of_le hj D.n0)];exact q j hj
 size:=D.size
 low:=D.low
 n0:=D.n0
 toks:=D.toks
 tk:=D.tk
 gens:=D.gens
 drawn:=D.drawn
 os:=D.os
theorem CX (h:a∈fG):a<817:=(by decide:∀a∈fG,a<817) a h
theorem dQ.alloc(D:dQ V A s T n ch G){o:Obj}(hf:o.isFreed=false)(hg:((T.ins n o).get n).isSome=true)(ea:A n=s.heap.objs.size):
  dQ V A {s with heap:=s.heap.push o} (T.ins n o) (n+1) ch G where
 own j o' e:=by
  rw[BT.get_ins o T n hg] at e
  by_cases hj:j=n
  ·subst hj
   rw[if_pos rfl] at e;cases e;exact⟨Nat.lt_succ_self _,by rw[ea];exact Heap.get?_push_size _ hf⟩
  ·rw[if_neg hj] at e
   have z:=D.own j o' e;exact⟨Nat.lt_succ_of_lt z.1,Heap.get?_push_of_some _ z.2⟩
 inj j j' h h' q:=by
  rcases Nat.lt_succ_iff_lt_or_eq.mp h with h1 |rfl
  ·rcases Nat.lt_succ_iff_lt_or_eq.mp h' with h2 |rfl
   ·exact D.inj j j' h1 h2 q
   ·have:=(D.hi j h1).2;rw[q,ea] at this;exact absurd this (Nat.lt_irrefl _)
  ·rcases Nat.lt_succ_iff_lt_or_eq.mp h' with h2 |rfl
   ·have:=(D.hi j' h2).2;rw[<-q,ea] at this;exact absurd this (Nat.lt_irrefl _)
   ·rfl
 hi j h:=by
  rcases Nat.lt_succ_iff_lt_or_eq.mp h with h1 |rfl
  ·have z:=D.hi j h1
   exact⟨z.1,by rw[Heap.size_push];exact Nat.lt_succ_of_lt z.2⟩
  ·rw[ea]
   exact⟨Nat.le_trans D.low D.size,by show _<(s.heap.push o).objs.size;rw[Heap.size_push];lia⟩
 fresh j h0 h:=by
  rcases Nat.lt_succ_iff_lt_or_eq.mp h with h1 |rfl
  ·exact D.fresh j h0 h1
  ·rw[ea];exact D.size
 top a o' ha e:=Heap.get?_push_of_some _ (D.top a o' ha e)
 chs a vs e:=by
  obtain⟨h1,h2,h3⟩:=D.chs a vs e;exact⟨h1,Heap.get?_push_of_some _ h2,h3⟩
 frame b o' h q c:=Heap.get?_push_of_some _ (D.frame b o' h q c)
 size:=by show _<=(s.heap.push o).objs.size;rw[Heap.size_push];exact Nat.le_succ_of_le D.size
 low:=D.low
 n0:=Nat.le_succ_of_le D.n0
 toks:=D.toks
 tk:=D.tk
 gens:=D.gens
 drawn:=D.drawn
 os:=D.os
theorem dQ.update (D:dQ V A s T n ch G){o:Obj}{g:Obj->Obj}(e:T.get j=some o)(hf:(g o).isFreed=false):
  dQ V A {s with heap:=s.heap.update (A j) g} (T.set j g) n ch G:=by
 have z:=D.own j o e;have hs:Heap.SameBut (A j) s.heap (s.heap.update (A j) g):=Heap.SameBut.update ..;have ge:(s.heap.update (A j) g).get? (A j)=some (g o):=by first |exact Heap.get?_update_self g z.2 hf |exact Heap.get?_update_self _ z.2 hf
 have lo:=(D.hi j z.1).1;refine⟨fun i o' e'=> ?_,D.inj,fun i h=> ?_,D.fresh,fun a o' ha e'=> ?_,fun a vs e'=> ?_,fun b o' h q c=> ?_,by show _<=(s.heap.update (A j) g).objs.size;rw[hs.1];exact D.size,D.low,D.n0,D.toks,D.tk,D.gens,D.drawn,D.os⟩
 ·rw[BT.get_set] at e'
  by_cases hi:i=j
  ·subst hi
   rw[if_pos rfl,e] at e';cases e';exact⟨z.1,ge⟩
  ·rw[if_neg hi] at e'
   have y:=D.own i o' e';exact⟨y.1,(hs.2 _ fun q=>hi (D.inj _ _ y.1 z.1 q)).trans y.2⟩
 ·show 817<=A i/\A i<(s.heap.update (A j) g).objs.size
  rw[hs.1];exact D.hi i h
 ·exact(hs.2 a (Nat.ne_of_lt (Nat.lt_of_lt_of_le ha lo))).trans (D.top a o' ha e')
 ·obtain⟨h1,h2,h3⟩:=D.chs a vs e'
  exact⟨h1,(hs.2 a (Nat.ne_of_lt (Nat.lt_of_lt_of_le (CX h1) lo))).trans h2,h3⟩
 ·have bn:b≠A j:=by
   rintro rfl
   by_cases hj:j<V.n₀
   ·exact q j hj rfl
   ·exact absurd (Heap.lt_size h) (Nat.not_lt.mpr (D.fresh j (Nat.le_of_not_lt hj) z.1))
  exact(hs.2 b bn).trans (D.frame b o' h q c)
theorem dQ.table (hkt:∀a∈fG,V.kt.get a=none)(D:dQ V A s T n ch G){g:Obj->Obj}{vs vs':Array Value}{more:List Value}(e:chLook ch a=some vs)(hn:tabOf (g (tableObj vs))=some vs')(hm:strip vs.toList vs'.toList=some more):s.heap.get? a=some (tableObj vs)/\dQ V A {s with heap:=s.heap.update a g} T n (chPut ch a vs') G:=by
 obtain⟨h1,h2,c,ps,mo,h3,h4⟩:=D.chs a vs e;have hn:=tabOf_eq hn;have la:=CX h1
 have hv:vs'=vs++more.toArray:=by
  have:=strip_eq hm;apply Array.ext';rw[Array.toList_append,this]
 refine⟨h2,?_⟩;have hs:Heap.SameBut a s.heap (s.heap.update a g):=Heap.SameBut.update ..;have hf:(g (tableObj vs)).isFreed=false:=by rw[hn];rfl
 have ge:(s.heap.update a g).get? a=some (tableObj vs'):=by
  have:(s.heap.update a g).get? a=some (g (tableObj vs)):=by first |exact Heap.get?_update_self g h2 hf |exact Heap.get?_update_self _ h2 hf
  rw[this,hn]
 refine⟨fun i o' e'=> ?_,D.inj,fun i h=> ?_,D.fresh,fun b o' hb e'=> ?_,fun b x e'=> ?_,fun b o' h q c=> ?_,by show _<=(s.heap.update a g).objs.size;rw[hs.1];exact D.size,D.low,D.n0,D.toks,D.tk,D.gens,D.drawn,D.os⟩
 ·have y:=D.own i o' e'
  exact⟨y.1,(hs.2 _ (Nat.ne_of_gt (Nat.lt_of_lt_of_le la (D.hi i y.1).1))).trans y.2⟩
 ·show 817<=A i/\A i<(s.heap.update a g).objs.size
  rw[hs.1];exact D.hi i h
 ·have bn:b≠a:=by
   rintro rfl
   rw[hkt b h1] at e';cases e'
  exact(hs.2 b bn).trans (D.top b o' hb e')
 ·rw[chPut_look] at e'
  by_cases hb:a=b
  ·subst hb
   rw[if_pos rfl] at e';cases e';exact⟨h1,ge,c,ps,mo++more.toArray,h3,by rw[hv,h4,Array.append_assoc]⟩
  ·rw[if_neg hb] at e'
   obtain⟨y1,y2,y3⟩:=D.chs b x e';exact⟨y1,(hs.2 b (Ne.symm hb)).trans y2,y3⟩
 ·rw[chPut_look] at c
  by_cases hb:a=b
  ·rw[if_pos hb] at c;cases c
  ·rw[if_neg hb] at c
   exact(hs.2 b (Ne.symm hb)).trans (D.frame b o' h q c)
theorem dQ.toks' (D:dQ V A s T n ch G)(h:s.toks<=k):dQ V A {s with toks:=k} T n ch G:=
 ⟨D.own,D.inj,D.hi,D.fresh,D.top,D.chs,D.frame,D.size,D.low,D.n0,Nat.le_trans D.toks h,Nat.le_trans D.tk h,D.gens,D.drawn,D.os⟩
theorem dQ.gens'(D:dQ V A s T n ch G){G':List GenState}{g:Array GenState}(h:g=V.gs₀++G'.toArray):dQ V A {s with gens:=g} T n ch G':=
 ⟨D.own,D.inj,D.hi,D.fresh,D.top,D.chs,D.frame,D.size,D.low,D.n0,D.toks,D.tk,h,D.drawn,D.os⟩
end
end
section
set_option tactic.hygienic true in
theorem JQ:∀{xs:List (Nat×Obj)} {n:Nat},qF xs n=true->∀x∈xs,x.1<n
 | [],_,_,_,hx=>nomatch hx
 |y::ys,n,h,x,hx=>by
  unfold qF at h;split at h
  ·rename_i e
   rcases List.mem_cons.mp hx with rfl |hx
   ·exact blt_true e
   ·exact JQ h x hx
  ·cases h
set_option tactic.hygienic true in
theorem JR:∀{xs:List (Nat×Obj)} {T:BT} {L R:List bP} {r:List bP×List bP},oO xs T L R=some r->r.1=r.2->L=R/\∀x∈xs,T.get x.1=some x.2
 | [],_,_,_,_,e,q=>by cases e;exact⟨q,fun _ hx=>nomatch hx⟩
 |x::xs,T,L,R,r,e,q=>by
  unfold oO at e;split at e
  ·cases e
  ·rename_i o ho
   obtain⟨h1,h2⟩:=JR e q;have h3:(bP.obj o)=bP.obj x.2:=(List.cons.inj h1).1;have h4:o=x.2:=by injection h3
   refine⟨(List.cons.inj h1).2,fun y hy=> ?_⟩;rcases List.mem_cons.mp hy with rfl |hy
   ·rw[ho,h4]
   ·exact h2 y hy
theorem JS:∀{xs:List (Nat×Obj)} {T:BT} {j:Nat} {o:Obj},(rN xs T).get j=some o->(∃x∈xs,x.1=j/\x.2=o)\/(T.get j=some o/\∀x∈xs,x.1≠j)
 | [],_,_,_,h=> .inr ⟨h,fun u hx=>nomatch hx⟩
 |x::xs,T,j,o,h=>by
  rcases JS (xs:=xs) h with⟨y,hy,h1⟩ |⟨h1,h2⟩
  ·exact .inl ⟨y,.tail _ hy,h1⟩
  ·rw[BT.get_set] at h1
   by_cases e:j=x.1
   ·rw[if_pos e] at h1
    cases hT:T.get j with
    |none=>rw[e] at hT;rw[hT] at h1;cases h1
    |some o'=>
     rw[e] at hT;rw[hT] at h1;exact .inl ⟨x,.head _,e.symm,by simpa using h1⟩
   ·rw[if_neg e] at h1
    refine .inr ⟨h1,fun y hy=> ?_⟩;rcases List.mem_cons.mp hy with rfl |hy
    ·exact fun q=>e q.symm
    ·exact h2 y hy
set_option tactic.hygienic true in
theorem CY:∀{os:List Obj} {n:Nat} {T T':BT},oP os n T=some T'->∀{j:Nat} {o:Obj},T'.get j=some o->(∃k,j=n+k/\os[k]? =some o)\/T.get j=some o
 | [],_,_,_,e,_,_,h=>by cases e;exact .inr h
 |x::xs,n,T,T',e,j,o,h=>by
  unfold oP at e;split at e
  ·cases e
  ·rename_i o' ho
   rcases CY e h with⟨k,h1,h2⟩ |h1
   ·exact .inl ⟨k+1,by lia,by simpa using h2⟩
   ·rw[BT.get_ins x T n (by rw[ho];rfl)] at h1
    by_cases q:j=n
    ·rw[if_pos q] at h1
     exact .inl ⟨0,by lia,by simpa using h1⟩
    ·rw[if_neg q] at h1
     exact .inr h1
section
variable{V:Vc}{A A':Nat->Nat}{s s':Shared}{T T':BT}{n:Nat}{ch:Ch}{G:List GenState}
theorem dQ.hook(D:dQ V A s T n ch G){hk:HS}(hn:hk.slot=n)(ea:∀j,j<n->A' j=A j)(lo:∀j,817<=A' j)(H:yH A' hk s s')(hpost:∀x∈hk.post,x.1<n)
  (e:oP hk.news n (rN hk.post T)=some T'):dQ V A' s' T' (n+hk.news.length) ch G:=by
 have D':=D.congr ea
 have hnew:∀k,k<hk.news.length->s.heap.objs.size<=A' (n+k)/\A' (n+k)<s'.heap.objs.size:=fun k hk'=>by
  have z:=H.news k _ (List.getElem?_eq_getElem hk');rw[hn] at z;exact⟨z.2,Heap.lt_size z.1⟩
 have old:∀j,j<n->A' j<s.heap.objs.size:=fun j hj=>(D'.hi j hj).2;refine⟨fun j o h=> ?_,fun j j' h h' q=> ?_,fun j h=> ?_,fun j h0 h=> ?_,fun a o ha ht=> ?_,fun a vs hc=> ?_,fun b o hb q c=> ?_,Nat.le_trans D.size H.size,D.low,Nat.le_trans D.n0 (Nat.le_add_right _ _),Nat.le_trans D.toks H.toks,Nat.le_trans D.tk H.toks,H.gens.trans D.gens,H.drawn.trans D.drawn,H.os.trans D.os⟩
 ·rcases CY e h with⟨k,rfl,h1⟩ |h1
  ·have z:=H.news k o h1
   rw[hn] at z
   have lk:k<hk.news.length:=by
    rcases Nat.lt_or_ge k hk.news.length with q |q
    ·exact q
    ·rw[List.getElem?_eq_none q] at h1;cases h1
   exact⟨Nat.add_lt_add_left lk n,z.1⟩
  ·rcases JS h1 with⟨x,hx,rfl,rfl⟩ |⟨h2,h3⟩
   ·exact⟨Nat.lt_of_lt_of_le (hpost x hx) (Nat.le_add_right _ _),H.post x hx⟩
   ·have z:=D'.own j o h2
    refine⟨Nat.lt_of_lt_of_le z.1 (Nat.le_add_right _ _),H.frame _ _ z.2 fun x hx q=> ?_⟩;exact h3 x hx (D'.inj _ _ (hpost x hx) z.1 q.symm)
 ·have split:∀i,i<n+hk.news.length->i<n\/∃k,k<hk.news.length/\i=n+k:=fun i hi=>by
   rcases Nat.lt_or_ge i n with q |q
   ·exact .inl q
   ·exact .inr ⟨i - n,Nat.sub_lt_left_of_lt_add q hi,(Nat.add_sub_cancel' q).symm⟩
  rcases split j h with h1 |⟨k,hk1,rfl⟩ <;> rcases split j' h' with h2 |⟨k',hk2,rfl⟩
  ·exact D'.inj j j' h1 h2 q
  ·exact absurd q (Nat.ne_of_lt (Nat.lt_of_lt_of_le (old j h1) (hnew k' hk2).1))
  ·exact absurd q.symm (Nat.ne_of_lt (Nat.lt_of_lt_of_le (old j' h2) (hnew k hk1).1))
  ·have:=H.apart k k' hk1 hk2 (by rw[hn];exact q)
   rw[this]
 ·refine⟨lo j,?_⟩
  rcases Nat.lt_or_ge j n with q |q
  ·exact Nat.lt_of_lt_of_le (old j q) H.size
  ·have:=(hnew (j - n) (Nat.sub_lt_left_of_lt_add q h)).2
   rwa [Nat.add_sub_cancel' q] at this
 ·rcases Nat.lt_or_ge j n with q |q
  ·exact D'.fresh j h0 q
  ·have:=(hnew (j - n) (Nat.sub_lt_left_of_lt_add q h)).1
   rw[Nat.add_sub_cancel' q] at this;exact Nat.le_trans D.size this
 ·exact H.frame a o (D.top a o ha ht) fun x hx q=>by have:=lo x.1;rw[q] at ha;exact absurd ha (Nat.not_lt.mpr this)
 ·obtain⟨h1,h2,h3⟩:=D.chs a vs hc
  exact⟨h1,H.frame a _ h2 fun x hx q=>Nat.not_lt.mpr (lo x.1) (q▸CX h1),h3⟩
 ·refine H.frame b o (D'.frame b o hb q c) fun x hx w=> ?_
  by_cases hj:x.1<V.n₀
  ·exact q _ hj w
  ·have:=D'.fresh x.1 (Nat.le_of_not_lt hj) (hpost x hx)
   have l:=Heap.lt_size hb;rw[w] at l;exact absurd l (Nat.not_lt.mpr this)
end
theorem qG{α:Type}{o:Option α}(h:oQ o=true):o=none:=by cases o <;> first |rfl |cases h
end
section
theorem vK {gs:Array GenState}{x:GenState}:(gs++G.toArray).setIfInBounds (gs.size+j) x=gs++(G.set j x).toArray:=by
 apply Array.ext';simp
theorem CZ {gs:Array GenState}:(gs++G.toArray)[gs.size+j]? =G[j]? :=by
 rw[Array.getElem?_append_right (Nat.le_add_right _ _)];simp
section
variable{V:Vc}{P:End->Shared->Prop}{n i:Nat}{A K:Nat->Nat}
structure Ag(n i:Nat)(A K A' K':Nat->Nat):Prop where
 a:∀j,j<n->A' j=A j
 k:∀j,j<i->K' j=K j
 lo:∀j,817<=A' j
 lok:∀j,1335<=K' j
def Go(V:Vc)(P:End->Shared->Prop)(n i:Nat)(A K:Nat->Nat)(g:(Nat->Nat)->(Nat->Nat)->St):Prop:=∀A' K',Ag n i A K A' K'->yI V P A' (g A' K')
structure Cx(V:Vc)(P:End->Shared->Prop)(n i:Nat)(A K:Nat->Nat)(x:St):Prop where
 ag:Ag n i A K A K
 no:∀A',(∀j,j<n->A' j=A j)->¬yI V P A' x
theorem Go.nt{m:Nat}{a:(Nat->Nat)->(Nat->Nat)->St}{b:(Nat->Nat)->(Nat->Nat)->Nat->St}(H:Go V P n i A K fun A' K'=>nC m (a A' K') (b A' K')):
  (m=0/\Go V P n i A K a)\/∃j,m=j+1/\Go V P n i A K fun A' K'=>b A' K' j:=match m,H with
 |0,H=> .inl ⟨rfl,H⟩
 |j+1,H=> .inr ⟨j,rfl,H⟩
theorem Go.bt {x:St}(c:Cx V P n i A K x){y:(Nat->Nat)->(Nat->Nat)->St}(H:Go V P n i A K fun A' K'=>kZ b x (y A' K')):b=true/\Go V P n i A K y:=match b,H with
 |true,H=>⟨rfl,H⟩
 |false,H=>(c.no A (fun u u=>rfl) (H A K c.ag)).elim
theorem Go.ot{β:Type}{o:Option β}{x:St}(c:Cx V P n i A K x){y:(Nat->Nat)->(Nat->Nat)->β->St}(H:Go V P n i A K fun A' K'=>oC o x (y A' K')):∃v,o=some v/\Go V P n i A K fun A' K'=>y A' K' v:=match o,H with
 |some v,H=>⟨v,rfl,H⟩
 |none,H=>(c.no A (fun u u=>rfl) (H A K c.ag)).elim
theorem Go.st{x:St}(c:Cx V P n i A K x){q:Prop}(H:Go V P n i A K fun u u=>x):q:=(c.no A (fun u u=>rfl) (H A K c.ag)).elim
def DA(V:Vc)(P:End->Shared->Prop)(r:(Nat->Nat)->(Nat->Nat)->oR):Prop:=∀{h:Nat} {hs:List HF} {Γ:PySem.Ctx} {p:Pos} {κ:List Fr} {d:Nat} {t:Sem Fin} {T:BT} {n i:Nat} {ch:Ch} {G:List GenState} {L R:List bP} {A K:Nat->Nat} {s:Shared},
  dQ V A s T n ch G->(∀hf∈hs,aG V.M V.kt hf)->frameCount Γ.below<=d->rT κ->Ag n i A K A K->(Go V P n i A K fun A' K'=>r A' K' h hs Γ p κ d t T n i ch G L R)->cR V P κ Γ p t s
section
variable{r:(Nat->Nat)->(Nat->Nat)->oR}(RL:∀A K,vJ (r A K))
include RL
theorem Go.chk (g:Ag n i A K A K){hs:List HF}{κ:List Fr}{t:Sem Fin}{T:BT}{m i':Nat}{ch:Ch}{L R:List bP}{u:bP}{v:(Nat->Nat)->(Nat->Nat)->bP}(H:Go V P n i A K fun A' K'=>r A' K' h hs Γ p κ d t T m i' ch G (u::L) (v A' K'::R)):u=v A K:=(List.cons.inj ((RL A K).eq (H A K g).1)).1
theorem Go.own {hs:List HF}{κ:List Fr}{t:Sem Fin}{T T₀:BT}{ch ch₀:Ch}{L R:List bP}{o:Obj}(g:Ag n i A K A K)(D:dQ V A s T₀ n ch₀ G₀)(hj:T₀.get j=some o)(H:Go V P n i A K fun A' K'=>r A' K' h hs Γ p κ d t T n i ch G (.nat a::L) (.nat (A' j)::R)):
  a=A j/\s.heap.get? a=some o/\Go V P n i A K fun A' K'=>r A' K' h hs Γ p κ d t T n i ch G (.nat a::L) (.nat (A j)::R):=by
 have e:a=A j:=by injection Go.chk RL g H
 exact⟨e,by rw[e];exact(D.own j o hj).2,fun A' K' a1=>by rw[<-a1.a j (D.own j o hj).1];exact H A' K' a1⟩
end
structure JU(hk:HS)(d n i:Nat)(b:Bool)(T:BT)(L R:List bP)(u v:bP)(Q:BT->List bP->List bP->Prop):Prop where
 b:b=true
 dep:d<=hk.dep
 slot:hk.slot=n
 tok:hk.tok=i
 post:∀x∈hk.post,x.1<n
 pre:∀x∈hk.pre,T.get x.1=some x.2
 uv:u=v
 go:∃T',oP hk.news n (rN hk.post T)=some T'/\∃c:List bP×List bP,oO hk.pre T L R=some c/\Q T' c.1 c.2
theorem XD {Q:St->Prop}{hk:HS}{T:BT}{L R:List bP}{x:St}{y:BT->List bP->List bP->St}{u v:bP}(hx:¬Q x)(hy:∀T' l q,Q (y T' l q)->u::l=v::q)(h:Q (rR hk d n i b T L R x y)):
  JU hk d n i b T L R u v fun T' l q=>Q (y T' l q):=by
 unfold rR at h;generalize hB:(b && Nat.ble d hk.dep && Nat.beq hk.slot n && Nat.beq hk.tok i && qF hk.pre n && qF hk.post n && CR hk.news && CS hk.post)=B at h;cases B with
 |false=>exact(hx h).elim
 |true=>
  generalize hc:oO hk.pre T L R=c at h;cases c with
  |none=>exact(hx h).elim
  |some c=>
   generalize hT:oP hk.news n (rN hk.post T)=o at h;cases o with
   |none=>exact(hx h).elim
   |some T'=>
    have q:=List.cons.inj (hy _ _ _ h);have hB:=hB;simp only[Bool.and_eq_true] at hB;exact⟨hB.1.1.1.1.1.1.1,Nat.le_of_ble_eq_true hB.1.1.1.1.1.1.2,Nat.eq_of_beq_eq_true hB.1.1.1.1.1.2,Nat.eq_of_beq_eq_true hB.1.1.1.1.2,JQ hB.1.1.2,(JR hc q.2).2,q.1,T',hT,c,hc,h⟩
theorem JV {r:(Nat->Nat)->(Nat->Nat)->oR}(RL:∀A K,vJ (r A K))(IH:DA V P r){hf:HF}{hs:List HF}{κ:List Fr}{d':Nat}{k:Result->Sem Fin}{T:BT}{ch:Ch}{L R:List bP}{x:St}{u v:HS->bP}(D:dQ V A s T n ch G)(hh:∀g∈hf::hs,aG V.M V.kt g)(hd:frameCount Γ.below<=d)(hd':frameCount Γ'.below<=d')(hκ:rT κ)(c:Cx V P n i A K x)(hb:b=true->Γ.handled=none/\Γ.own=none/\Γ.past=none/\∀hk,u hk=v hk->Γ.code=hk.code/\rP hk.env Γ.below=rQ hk.env/\∃x l,Γ.below=(x,p)::l)(H:Go V P n i A K fun A' K'=>rR (hf A' K') d n i b T L R x fun T' l q=>r A' K' h hs Γ' p' κ d' (k (hf A' K').res) T' (n+(hf A' K').news.length) (i+(hf A' K').nt) ch G (u (hf A' K')::l) (v (hf A' K')::q)):
  wpCode V.M Γ (fun r s'=>cR V P κ Γ' p' (k r) s') p s:=by
 have all:∀A' K',Ag n i A K A' K'->JU (hf A' K') d n i b T L R (u (hf A' K')) (v (hf A' K')) fun T' l q=>yI V P A' (r A' K' h hs Γ' p' κ d' (k (hf A' K').res) T' (n+(hf A' K').news.length) (i+(hf A' K').nt) ch G (u (hf A' K')::l) (v (hf A' K')::q)):=
  fun A' K' g=>XD (c.no A' g.a) (fun z z z q=>(RL A' K').eq q.1) (H A' K' g)
 have F:=all A K c.ag;have B:=hb F.b;have C:=B.2.2.2 _ F.uv
 refine(hh hf (.head _)).ok A K Γ p s (fun r s'=>cR V P κ Γ' p' (k r) s') c.ag.lo c.ag.lok C.1 (Nat.le_trans hd F.dep) B.1 B.2.1 B.2.2.1
  (fun a o ha ht=>D.top a o ha ht) (Nat.le_trans D.low D.size) D.toks (fun x hx=>(D.own _ _ (F.pre x hx)).2) (by rw[F.slot];exact fun j j'=>D.inj j j') (by rw[F.slot];exact fun j hj=>(D.hi j hj).2) (WW C.2.1) C.2.2 fun A' K' s' a1 a2 a3 a4 st=> ?_
 rw[F.slot] at a1;rw[F.tok] at a2;have F':=all A' K' ⟨a1,a2,a3,a4⟩;obtain⟨T',e1,l,e2,_⟩:=F'.go;refine IH (h:=h) (i:=i+(hf A' K').nt) (t:=k (hf A' K').res) (L:=u (hf A' K')::l.1) (R:=v (hf A' K')::l.2) (D.hook F'.slot a1 a3 st F'.post e1) (fun x hx=>hh x (.tail _ hx)) hd' hκ ⟨fun z z=>rfl,fun z z=>rfl,a3,a4⟩ fun A₂ K₂ g=> ?_;have lo:=(hh hf (.head _)).loc A' K' A₂ K₂ (by rw[F'.slot];exact g.a) (by rw[F'.tok];exact g.k);have F₂:=all A₂ K₂ ⟨fun j hj=>(g.a j (Nat.lt_of_lt_of_le hj (Nat.le_add_right _ _))).trans (a1 j hj),fun j hj=>(g.k j (Nat.lt_of_lt_of_le hj (Nat.le_add_right _ _))).trans (a2 j hj),g.lo,g.lok⟩;rw[lo] at F₂;obtain⟨T₂,f1,l₂,f2,y⟩:=F₂.go;rw[e1] at f1;rw[e2] at f2;cases f1;cases f2;exact y
set_option tactic.hygienic true in
theorem JW {T:BT}{ch:Ch}(D:dQ V A s T n ch G){o:Obj}(hb:Nat.blt a 817=true)(ht:yE V.kt ch a=some o):s.heap.get? a=some o:=by
 unfold yE at ht;split at ht
 ·rename_i vs hc;cases ht;exact(D.chs a vs hc).2.1
 ·exact D.top a o (blt_true hb) ht
theorem XE{k:Setting->Sem Fin}(e:k V.S₁=k V.S₂):k V.S=k V.S₁:=by
 have w:=JM V.prog V.w;cases hb:V.w.params.followText "special-get-raises" with
 |true=>rw[hb] at w;exact(congrArg k w).symm
 |false=>rw[hb] at w;exact((congrArg k w).symm).trans e.symm
theorem JX (hd:frameCount Γ.below<=d):frameCount ((Γ.code,p)::Γ.below)<=d+wb Γ.code:=by
 rw[frameCount_cons];have:=vH Γ.code
 lia
theorem JY{o:Obj}(h:not o.isFreed=true):o.isFreed=false:=by simpa using h
theorem XF (hkt:∀a∈fG,V.kt.get a=none){r:(Nat->Nat)->(Nat->Nat)->oR}(RL:∀A K,vJ (r A K))(IH:DA V P r){hs:List HF}{κ:List Fr}{t:Sem Fin}{T:BT}{ch:Ch}{L R:List bP}(D:dQ V A s T n ch G)(hh:∀hf∈hs,aG V.M V.kt hf)(hd:frameCount Γ.below<=d)(hκ:rT κ){x y:St}(c:Cx V P n i A K x)(hy:yI V P A y->cR V P κ Γ p t s)(H:Go V P n i A K fun A' K'=>CV V.S V.S₁ V.S₂ V.kt V.gs₀.size A' K' (r A' K') x y h hs Γ p κ d t T n i ch G L R):cR V P κ Γ p t s:=by
 have g:=c.ag;cases t with
 |pure fin=>
  cases κ with
  |nil=>exact hy (H A K g)
  |cons fr κ=>
   cases fin with
   |done fl=>
    cases fr with
    |ret k Γ' p' d'=>exact⟨_,s,.done,_,rfl,IH D hh hκ.1 hκ.2 g H⟩
    |gen j k Γ' p' d'=>exact⟨_,s,.done,rfl,IH (G:=G.set j .finished) (D.gens' (by rw[D.gens,vK];rfl)) hh hκ.1 hκ.2 g H⟩
   |again c₁=>
    cases fr with
    |ret k Γ' p' d'=>
     obtain⟨hq,H⟩:=Go.bt c H;rw[qE] at hq;rcases Go.nt H with⟨_,H⟩ |⟨_,_,H⟩
     ·obtain⟨hb,H⟩:=Go.bt c H
      obtain⟨e,s₂,hr,r,rfl,hm⟩:=IH (Γ:=Γ.goto c₁) (κ:= .ret k Γ' p' d'::κ) D hh hd hκ g H;exact⟨_,s₂,.again hq (yG (Γ:=Γ.goto c₁) (Nat.lt_of_le_of_lt hd (blt_true hb)) hr),r,rfl,hm⟩
     ·cases hs with
      |nil=>exact Go.st c H
      |cons hf hs=>
       obtain⟨r,s₁,hr,hm⟩:=JV (Γ:=Γ.goto c₁) (p:=p) (u:=fun hk=> .codeP c₁ (rP hk.env Γ.below) (CU Γ.below p)) (v:=fun hk=> .codeP hk.code (rQ hk.env) p) RL IH D hh hd hκ.1 hκ.2 c (fun hB=>by
        simp only[Bool.and_eq_true] at hB;refine⟨qG hB.1.1.2,qG hB.1.2,qG hB.2,fun hk e=> ?_⟩;injection e with e1 e2 e3
        exact⟨e1,e2,WX hB.1.1.1 e3⟩) H
       exact⟨_,s₁,.again hq hr,r,rfl,hm⟩
    |gen j k Γ' p' d'=>
     obtain⟨hq,H⟩:=Go.bt c H;rw[qE] at hq;refine(IH (Γ:=Γ.goto c₁) (κ:= .gen j k Γ' p' d'::κ) D hh hd hκ g H).step fun e s₂ hr=> .again hq ?_;show Runs V.M _ p (denote table c₁) [] s e s₂;rw[yA];exact hr
 |raise e=>
  cases κ with
  |nil=>exact hy (H A K g)
  |cons fr κ=>
   cases fr with
   |ret k Γ' p' d'=>exact⟨_,s,.raise,_,rfl,IH D hh hκ.1 hκ.2 g H⟩
   |gen j k Γ' p' d'=>exact⟨_,s,.raise,rfl,IH (G:=G.set j .finished) (D.gens' (by rw[D.gens,vK];rfl)) hh hκ.1 hκ.2 g H⟩
 |rule tag k=>exact(IH D hh hd hκ g H).step fun z z hr=> .rule hr
 |«at» q k=>exact(IH D hh hd hκ g H).step fun z z hr=> .at hr
 |point l k=>exact(IH D hh hd hκ g H).step fun z z hr=> .point hr
 |ask k=>
  rcases Go.nt H with⟨_,H⟩ |⟨_,_,H⟩
  ·exact(IH D hh hd hκ g H).step fun z z hr=> .ask hr
  ·have e:=XE (by injection Go.chk RL g H)
   exact(IH D hh hd hκ g H).step fun z z hr=> .ask (by show Runs V.M Γ p (k V.S) [] s _ _;rw[e];exact hr)
 |load a q k=>
  rcases Go.nt H with⟨_,H⟩ |⟨j,_,H⟩
  ·obtain⟨hb,H⟩:=Go.bt c H
   obtain⟨o,ht,H⟩:=Go.ot c H;exact(IH D hh hd hκ g H).step fun z z hr=> .load (JW D hb ht) hr
  ·obtain⟨o,ht,H⟩:=Go.ot c H
   obtain⟨_,ho,H⟩:=Go.own RL g D ht H;exact(IH D hh hd hκ g H).step fun z z hr=> .load ho hr
 |loadIfAlive a k=>
  rcases Go.nt H with⟨_,H⟩ |⟨j,_,H⟩
  ·obtain⟨hb,H⟩:=Go.bt c H
   obtain⟨o,ht,H⟩:=Go.ot c H;exact(IH D hh hd hκ g H).step fun z z hr=> .loadIfAlive (by rw[JW D hb ht];exact hr)
  ·obtain⟨o,ht,H⟩:=Go.ot c H
   obtain⟨_,ho,H⟩:=Go.own RL g D ht H;exact(IH D hh hd hκ g H).step fun z z hr=> .loadIfAlive (by rw[ho];exact hr)
 |alloc o k=>
  obtain⟨hf,H⟩:=Go.bt c H;obtain⟨o',hg,H⟩:=Go.ot c H;have ag:∀j,j<n->(if j=n then s.heap.objs.size else A j)=A j:=fun j hj=>if_neg (Nat.ne_of_lt hj);refine(IH (h:=h) (i:=i) (L:=L) (R:=R) ((D.congr ag).alloc (JY hf) (by rw[hg];rfl) (if_pos rfl)) hh hd hκ ⟨fun z z=>rfl,fun z z=>rfl,fun j=> ?_,g.lok⟩ fun A' K' a1=> ?_).step fun z z hr=> .alloc hr
  ·show 817<=(if j=n then s.heap.objs.size else A j)
   split
   ·exact Nat.le_trans D.low D.size
   ·exact g.lo j
  ·have q:A' n=s.heap.objs.size:=(a1.a n (Nat.lt_succ_self n)).trans (if_pos rfl)
   rw[<-q];exact H A' K' ⟨fun j hj=>(a1.a j (Nat.lt_succ_of_lt hj)).trans (ag j hj),a1.k,a1.lo,a1.lok⟩
 |update a q f k=>
  rcases Go.nt H with⟨_,H⟩ |⟨j,_,H⟩
  ·obtain⟨_,H⟩:=Go.bt c H
   obtain⟨vs,hc,H⟩:=Go.ot c H;obtain⟨vs',hn,H⟩:=Go.ot c H;obtain⟨more,hst,H⟩:=Go.ot c H;obtain⟨ho,D'⟩:=D.table hkt hc hn hst;exact(IH D' hh hd hκ g H).step fun z z hr=> .update (by rw[ho];rfl) hr
  ·obtain⟨o,ht,H⟩:=Go.ot c H
   obtain⟨hf,H⟩:=Go.bt c H;obtain⟨ea,ho,H⟩:=Go.own RL g D ht H;exact(IH (D.update ht (JY hf)) hh hd hκ g H).step fun z z hr=> .update (by rw[ho];rfl) (by rw[ea];exact hr)
 |fresh k=>
  have ag:∀j,j<i->(if j=i then s.toks else K j)=K j:=fun j hj=>if_neg (Nat.ne_of_lt hj);refine(IH (h:=h) (i:=i+1) (K:=fun j=>if j=i then s.toks else K j) (L:=L) (R:=R) (D.toks' (Nat.le_succ _)) hh hd hκ ⟨fun z z=>rfl,fun z z=>rfl,g.lo,fun j=> ?_⟩ fun A' K' a1=> ?_).step fun z z hr=> .fresh hr
  ·show 1335<=(if j=i then s.toks else K j)
   split
   ·exact D.toks
   ·exact g.lok j
  ·have q:K' i=s.toks:=(a1.k i (Nat.lt_succ_self i)).trans (if_pos rfl)
   rw[<-q];exact H A' K' ⟨a1.a,fun j hj=>(a1.k j (Nat.lt_succ_of_lt hj)).trans (ag j hj),a1.lo,a1.lok⟩
 |handled own k=>exact(IH D hh hd hκ g H).step fun z z hr=> .handled (by cases own <;> exact hr)
 |stack k=>exact(IH D hh hd hκ g H).step fun z z hr=> .stack hr
 |newGen c₁ k=>
  refine(IH (s:={s with gens:=s.gens.push (.fresh c₁)}) (D.gens' (by rw[D.gens];apply Array.ext';simp)) hh hd hκ g H).step fun z z hr=> .newGen ?_;have q:s.gens.size=V.gs₀.size+G.length:=by rw[D.gens];simp
  rw[q];exact hr
 |genState q k=>
  obtain⟨gs,hg,H⟩:=Go.ot c H;have ea:q=V.gs₀.size+h % 4096:=by injection Go.chk RL g H
  exact(IH D hh hd hκ g H).step fun z z hr=> .genState (by rw[ea,D.gens,CZ];exact hg) hr
 |call c₁ hd' g₁ l k=>
  have hd2:=JX (p:=p) hd;rcases Go.nt H with⟨_,H⟩ |⟨_,_,H⟩
  ·obtain⟨hb,H⟩:=Go.bt c H
   obtain⟨e,s₂,hr,r,rfl,hm⟩:=IH (κ:= .ret k Γ p d::κ) D hh hd2 ⟨hd,hκ⟩ g H;exact .call (yG (Γ:=Γ.enter c₁ hd' p) (Nat.lt_of_le_of_lt hd2 (blt_true hb)) hr) hm
  ·cases hs with
   |nil=>exact Go.st c H
   |cons hf hs=>
    obtain⟨r,s₁,hr,hm⟩:=JV (Γ:=Γ.enter c₁ hd' p) (p:=p) (u:=fun hk=> .code c₁ (rP hk.env ((Γ.code,p)::Γ.below))) (v:=fun hk=> .code hk.code (rQ hk.env)) RL IH D hh hd2 hd hκ c (fun hB=>by
     simp only[Bool.and_eq_true] at hB;have e:=qG hB.1.1.1;subst e;refine⟨qG hB.1.1.2,qG hB.1.2,qG hB.2,fun hk e=> ?_⟩;injection e with e1 e2
     exact⟨e1,e2,_,_,rfl⟩) H
    exact .call hr hm
 |resume q w l k=>
  obtain⟨gs,hg,H⟩:=Go.ot c H;have hd2:=JX (p:=p) hd;cases gs with
  |fresh c₀=>
   cases w with
   |throw=>exact Go.st c H
   |send v=>
    cases v with
    |none=>
     have ea:q=V.gs₀.size+h % 4096:=by injection Go.chk RL g H
     obtain⟨e₁,s₁,hr,hq,hz⟩:=IH (κ:= .gen (h % 4096) k Γ p d::κ) (s:=s.setGen (V.gs₀.size+h % 4096) .running) (D.gens' (by rw[D.gens,vK])) hh hd2 ⟨hd,hκ⟩ g H;refine hz.step fun e s₂ hr2=>(Sem.runs_resume_iff V.M _).mpr ⟨e₁.result,_,?_,hr2⟩;unfold Wakes;rw[ea,D.gens,CZ,hg];exact⟨e₁,s₁,by show Runs V.M _ p (denote table c₀) [] _ _ _;rw[yA];exact hr,hq,rfl,rfl⟩
    |_=>exact Go.st c H
  |suspended k₀ l₀ c₀ p₀ fs₀ cl=>
   cases fs₀ with
   |cons=>exact Go.st c H
   |nil=>
    have ea:q=V.gs₀.size+h % 4096:=by injection Go.chk RL g H
    obtain⟨e₁,s₁,hr,hq,hz⟩:=IH (κ:= .gen (h % 4096) k Γ p d::κ) (s:=s.setGen (V.gs₀.size+h % 4096) .running) (D.gens' (by rw[D.gens,vK])) hh hd2 ⟨hd,hκ⟩ g H;refine hz.step fun e s₂ hr2=>(Sem.runs_resume_iff V.M _).mpr ⟨e₁.result,_,?_,hr2⟩;unfold Wakes;rw[ea,D.gens,CZ,hg];exact⟨e₁,s₁,hr,hq,rfl,rfl⟩
  |running=>exact Go.st c H
  |finished=>exact Go.st c H
 |yield v gd l k=>
  cases κ with
  |nil=>exact hy (H A K g)
  |cons fr κ=>
   cases fr with
   |ret=>exact Go.st c H
   |gen j k' Γ' p' d'=>
    obtain⟨e,H⟩:=Go.bt c H;cases gd with
    |true=>cases e
    |false=>exact⟨_,s,.yield,rfl,IH (G:=G.set j (.suspended k l Γ.code p [] false)) (D.gens' (by rw[D.gens,vK];rfl)) hh hκ.1 hκ.2 g H⟩
 |_=>exact Go.st c H
theorem JZ(hkt:∀a∈fG,V.kt.get a=none):∀f,DA V P fun A K=>run V.S V.S₁ V.S₂ V.kt V.gs₀.size A K f
 |0=>fun D u hd hκ g H=>(H _ _ g).2 _ D hd hκ
 |f+1=>fun D hh hd hκ g H=>XF hkt (fun u u=>JP f) (JZ hkt f) D hh hd hκ ⟨g,fun u a q=>(q.2 _ (D.congr a) hd hκ).no⟩ (fun q=>q.2 _ D hd hκ) H
end
end
section
noncomputable def DB(r:Result):Sem Fin:=match r with
 | .ok f=> .pure (.done f)
 | .error e=> .raise e
noncomputable def bZ(Γ:PySem.Ctx)(p:Pos)(d:Nat):Fr:= .ret DB Γ p d
noncomputable def nS:List Nat->Nat->Option Nat
 | [],_=>none
 |a::l,j=>match j with
  |0=>some a
  |k+1=>nS l k
noncomputable def bG(l:List Nat)(ad:Nat->Nat)(j:Nat):Nat:=match nS l j with
 |some a=>a
 |none=>ad j+817
noncomputable def aC(tb:Nat->Nat)(j:Nat):Nat:=tb j+1335
noncomputable def T0(os:List Obj):BT:=match oP os 0 .nil with
 |some T=>T
 |none=> .nil
theorem qH:∀(l:List Nat) (j:Nat),nS l j=l[j]?
 | [],_=>rfl
 |a::l,0=>rfl
 |a::l,j+1=>by show nS l j=_;rw[qH l j];simp
theorem DC {l:List Nat}(h:j<l.length):∃a,nS l j=some a/\a∈l:=by
 rw[qH];exact⟨l[j],List.getElem?_eq_getElem h,List.getElem_mem h⟩
theorem KA {l:List Nat}(h:l.length<=j):nS l j=none:=by rw[qH];exact List.getElem?_eq_none h
theorem XG(l:List Nat)(A:Nat->Nat)(h1:∀j,j<l.length->A j=bG l (fun _=>0) j)(h2:∀j,817<=A j):A=bG l fun j=>A j - 817:=by
 funext j
 rcases Nat.lt_or_ge j l.length with q |q
 ·obtain⟨a,e,_⟩:=DC q
  rw[h1 j q];unfold bG;rw[e]
 ·unfold bG
  rw[KA q];exact(Nat.sub_add_cancel (h2 j)).symm
theorem XH(K:Nat->Nat)(h:∀j,1335<=K j):K=aC fun j=>K j - 1335:=by
 funext j
 exact(Nat.sub_add_cancel (h j)).symm
structure aJ(m:List Nat)(s s':Shared):Prop where
 frame:∀(b:Nat) x,s.heap.get? b=some x->b∉m->s'.heap.get? b=some x
 size:s.heap.objs.size<=s'.heap.objs.size
 toks:s.toks<=s'.toks
 gens:s'.gens=s.gens
 drawn:s'.drawn=s.drawn
 os:s'.os=s.os
theorem aJ.refl(s:Shared):aJ [] s s:=⟨fun u u h u=>h,Nat.le_refl _,Nat.le_refl _,rfl,rfl,rfl⟩
theorem aJ.trans (h:aJ m s s')(h':aJ m' s' s''):aJ (m++m') s s'' where
 frame b x e q:=h'.frame b x (h.frame b x e fun z=>q (List.mem_append_left _ z)) fun z=>q (List.mem_append_right _ z)
 size:=Nat.le_trans h.size h'.size
 toks:=Nat.le_trans h.toks h'.toks
 gens:=h'.gens.trans h.gens
 drawn:=h'.drawn.trans h.drawn
 os:=h'.os.trans h.os
theorem aJ.mono (h:aJ m s s')(hm:∀a∈m,a∈m'):aJ m' s s':=
 ⟨fun b x e q=>h.frame b x e fun z=>q (hm b z),h.size,h.toks,h.gens,h.drawn,h.os⟩
theorem aJ.less (h:aJ m s s')(hm:∀a∈m,a∈m'\/s.heap.objs.size<=a):aJ m' s s':=
 ⟨fun b x e q=>h.frame b x e fun z=>(hm b z).elim q fun w=>absurd (Heap.lt_size e) (Nat.not_lt.mpr w),h.size,h.toks,h.gens,h.drawn,h.os⟩
theorem lT.ext {kt:KT}(h:lT kt s.heap)(e:aJ m s s')(hm:∀a∈m,817<=a):lT kt s'.heap:=fun a o ha ht=>
 e.frame a o (h a o ha ht) fun z=>absurd ha (Nat.not_lt.mpr (hm a z))
structure yJ(olds:List Nat)(A:Nat->Nat)(s s':Shared)(o:St):Prop where
 frame:∀(b:Nat) x,s.heap.get? b=some x->b∉olds->s'.heap.get? b=some x
 size:s.heap.objs.size<=s'.heap.objs.size
 toks:s.toks<=s'.toks
 drawn:s'.drawn=s.drawn
 os:s'.os=s.os
 gens:s'.gens=s.gens++o.G.toArray
 own:∀(j:Nat) x,o.T.get j=some x->s'.heap.get? (A j)=some x
 new:∀j,olds.length<=j->j<o.n->s.heap.objs.size<=A j/\A j<s'.heap.objs.size
 inj:∀j j',j<o.n->j'<o.n->A j=A j'->j=j'
theorem yJ.ext {o:St}(h:yJ olds A s s' o)(hG:o.G=[]):aJ olds s s':=
 ⟨h.frame,h.size,h.toks,by rw[h.gens,hG];apply Array.ext';simp,h.drawn,h.os⟩
structure KB where
 L:List bP
 κ:List Fr
 Γ:PySem.Ctx
 t:Sem Fin
 os:List (Option Obj)
 G:List GenState
 n:Nat
 ch:Ch
noncomputable def oU(T:BT):List Nat->List (Option Obj)
 | []=>[]
 |j::js=>T.get j::oU T js
noncomputable def dI(o:St)(js:List Nat):KB:=⟨o.L,o.κ,o.Γ,o.t,oU o.T js,o.G,o.n,o.ch⟩
noncomputable def dJ(o:St)(κ:List Fr)(Γ:PySem.Ctx)(t:Sem Fin)(os:List (Option Obj))(G:List GenState)(n:Nat):KB:=⟨o.R,κ,Γ,t,os,G,n,[]⟩
section
variable{V:Vc}{R:Result->Shared->Prop}
noncomputable abbrev lU(R:Result->Shared->Prop):End->Shared->Prop:=fun e s'=>∃r,e= .ret r/\R r s'
theorem qI {f:Flow}(h:R (.ok f) s):cR V (lU R) [] Γ p (.pure (.done f)) s:=⟨_,s,.done,rfl,_,rfl,h⟩
theorem DD {e:Value}(h:R (.error e) s):cR V (lU R) [] Γ p (.raise e) s:=⟨_,s,.raise,rfl,_,rfl,h⟩
theorem XI {M:Model}{e:End}(h:Runs M Γ p (DB r) [] s e s'):e= .ret r/\s'=s:=by
 cases r with
 |ok f=>exact CW h
 |error x=>exact CW h
theorem vL (h:R r s):cR V (lU R) [] Γ p (DB r) s:=by
 cases r with
 |ok f=>exact qI h
 |error e=>exact DD h
theorem KC {c:Code}(hq:c.quiet=true)(h:wpCode V.M (Γ'.goto c) R p' s):
  cR V (lU R) [bZ Γ p d] Γ' p' (.pure (.again c)) s:=by
 obtain⟨r,s',hr,hR⟩:=h;exact⟨_,s',.again hq hr,r,rfl,vL hR⟩
end
set_option tactic.hygienic true in
theorem XJ {os:List Obj}{o:Obj}(h:(T0 os).get j=some o):os[j]? =some o:=by
 unfold T0 at h;split at h
 ·rename_i T e
  rcases CY e h with⟨k,rfl,h1⟩ |h1
  ·rw[Nat.zero_add];exact h1
  ·cases h1
 ·cases h
structure XK(olds:List Nat)(gs₀:Array GenState)(A:Nat->Nat)(s s':Shared)(o:St):Prop where
 frame:∀(b:Nat) x,s.heap.get? b=some x->b∉olds->chLook o.ch b=none->s'.heap.get? b=some x
 size:s.heap.objs.size<=s'.heap.objs.size
 toks:s.toks<=s'.toks
 drawn:s'.drawn=s.drawn
 os:s'.os=s.os
 gens:s'.gens=gs₀++o.G.toArray
 own:∀(j:Nat) x,o.T.get j=some x->s'.heap.get? (A j)=some x
 new:∀j,olds.length<=j->j<o.n->s.heap.objs.size<=A j/\A j<s'.heap.objs.size
 inj:∀j j',j<o.n->j'<o.n->A j=A j'->j=j'
 tabs:∀(a:Nat) vs,chLook o.ch a=some vs->a∈fG/\s'.heap.get? a=some (tableObj vs)/\∃c ps more,s.heap.TableAt c a ps/\vs=ps++more
theorem DE {kt:KT}(hkt:∀a∈fG,kt.get a=none)(t:Sem Fin)(olds:List Nat)(objs:List Obj)(d f h:Nat)(hs:List HF)(gs₀:Array GenState)(G₀:List GenState)(ch₀:Ch)(hlen:objs.length=olds.length)(ho:∀(j a:Nat) (x:Obj),olds[j]? =some a->objs[j]? =some x->s.heap.get? a=some x)(hnd:olds.Nodup)(hlo:∀a∈olds,817<=a)(htop:lT kt s.heap)(hsz:817<=s.heap.objs.size)(htk:1335<=s.toks)(hd:frameCount Γ.below<=d)(hhs:∀hf∈hs,aG (model prog w) kt hf)(hg:s.gens=gs₀++G₀.toArray)(hch:∀(a:Nat) vs,chLook ch₀ a=some vs->a∈fG/\∃c,s.heap.TableAt c a vs)(H:∀ad tb:Nat->Nat,(run ⟨prog,w.params⟩ (eK prog w true) (eK prog w false) kt gs₀.size (bG olds ad) (aC tb) f h hs Γ p [bZ Γ p d] d t (T0 objs) olds.length 0 ch₀ G₀ [] []).L=
    (run ⟨prog,w.params⟩ (eK prog w true) (eK prog w false) kt gs₀.size (bG olds ad) (aC tb) f h hs Γ p [bZ Γ p d] d t (T0 objs) olds.length 0 ch₀ G₀ [] []).R/\
   ∀s',XK olds gs₀ (bG olds ad) s s' (run ⟨prog,w.params⟩ (eK prog w true) (eK prog w false) kt gs₀.size (bG olds ad) (aC tb) f h hs Γ p [bZ Γ p d] d t (T0 objs) olds.length 0 ch₀ G₀ [] [])->
    let o:=run ⟨prog,w.params⟩ (eK prog w true) (eK prog w false) kt gs₀.size (bG olds ad) (aC tb) f h hs Γ p [bZ Γ p d] d t (T0 objs) olds.length 0 ch₀ G₀ [] []
    cR ⟨prog,w,kt,s.heap,olds.length,gs₀,s.drawn,s.os,s.toks⟩ (lU R) o.κ o.Γ o.p o.t s'):
  ∃r s',Runs (model prog w) Γ p t [] s (.ret r) s'/\R r s':=by
 have hA:∀j,817<=bG olds (fun u=>0) j:=fun j=>by
  rcases Nat.lt_or_ge j olds.length with q |q
  ·obtain⟨a,e,m⟩:=DC q
   unfold bG;rw[e];exact hlo a m
  ·unfold bG;rw[KA q];exact Nat.le_add_left _ _
 have at_:∀j,j<olds.length->bG olds (fun u=>0) j=olds[j]?.getD 0:=fun j q=>by
  unfold bG;rw[qH,List.getElem?_eq_getElem q];rfl
 have D:dQ ⟨prog,w,kt,s.heap,olds.length,gs₀,s.drawn,s.os,s.toks⟩ (bG olds fun u=>0) s (T0 objs) olds.length ch₀ G₀:=by
  refine⟨fun j o e=> ?_,fun j j' h1 h2 e=> ?_,fun j h1=>⟨hA j,?_⟩,fun j h1 h2=>absurd h2 (Nat.not_lt.mpr h1),htop,fun a vs e=> ?_,fun b o e u u=>e,Nat.le_refl _,hsz,Nat.le_refl _,htk,Nat.le_refl _,hg,rfl,rfl⟩
  ·have e:=XJ e
   have lt:j<olds.length:=by
    rcases Nat.lt_or_ge j objs.length with q |q
    ·rw[<-hlen];exact q
    ·rw[List.getElem?_eq_none q] at e;cases e
   refine⟨lt,?_⟩;rw[at_ j lt,List.getElem?_eq_getElem lt];exact ho j _ o (List.getElem?_eq_getElem lt) e
  ·rw[at_ j h1,at_ j' h2,List.getElem?_eq_getElem h1,List.getElem?_eq_getElem h2] at e
   exact(List.getElem_inj hnd).mp e
  ·rw[at_ j h1,List.getElem?_eq_getElem h1]
   have:j<objs.length:=by rw[hlen];exact h1
   exact Heap.lt_size (ho j _ _ (List.getElem?_eq_getElem h1) (List.getElem?_eq_getElem this))
  ·obtain⟨h1,c,h2⟩:=hch a vs e
   exact⟨h1,h2.2,c,vs,#[],h2,by simp⟩
 obtain⟨e,s₂,hr,r,rfl,e',s₃,hr',_,r',rfl,hR⟩:=JZ (V:=⟨prog,w,kt,s.heap,olds.length,gs₀,s.drawn,s.os,s.toks⟩) (P:=lU R) hkt f (h:=h) (κ:=[bZ Γ p d]) (t:=t) (i:=0) (L:=[]) (R:=[]) (K:=aC fun u=>0)
  D hhs hd ⟨hd,trivial⟩ ⟨fun u u=>rfl,fun u u=>rfl,hA,fun j=>Nat.le_add_left _ _⟩ fun A' K' g=>by
   rw[XG olds A' g.a g.lo,XH K' g.lok];obtain⟨h1,h2⟩:=H (fun j=>A' j - 817) (fun j=>K' j - 1335);refine⟨h1,fun s' D' u u=>h2 s' ⟨fun b x e q q2=>D'.frame b x e (fun j hj w=>q ?_) q2,D'.size,D'.tk,D'.drawn,D'.os,D'.gens,fun j x e=>(D'.own j x e).2,fun j h1 h2=>⟨D'.fresh j h1 h2,(D'.hi j h2).2⟩,D'.inj,D'.chs⟩⟩;rw[w];obtain⟨a,e,m⟩:=DC (l:=olds) hj;unfold bG;rw[e];exact m
 obtain⟨q1,rfl⟩:=XI hr';injection q1 with q1
 subst q1;exact⟨r',s₃,hr,hR⟩
section
variable {kt:KT}(hkt:∀a∈fG,kt.get a=none)
include hkt
theorem vM (t:Sem Fin)(olds:List Nat)(objs:List Obj)(d f h:Nat)(hs:List HF)(hlen:objs.length=olds.length)(ho:∀(j a:Nat) (x:Obj),olds[j]? =some a->objs[j]? =some x->s.heap.get? a=some x)(hnd:olds.Nodup)(hlo:∀a∈olds,817<=a)(htop:lT kt s.heap)(hsz:817<=s.heap.objs.size)(htk:1335<=s.toks)(hd:frameCount Γ.below<=d)(hhs:∀hf∈hs,aG (model prog w) kt hf)(H:∀ad tb:Nat->Nat,let o:=run ⟨prog,w.params⟩ (eK prog w true) (eK prog w false) kt s.gens.size (bG olds ad) (aC tb) f h hs Γ p [bZ Γ p d] d t (T0 objs) olds.length 0 [] [] [] []
   o.L=o.R/\o.ch=[]/\∀s',yJ olds (bG olds ad) s s' o->cR ⟨prog,w,kt,s.heap,olds.length,s.gens,s.drawn,s.os,s.toks⟩ (lU R) o.κ o.Γ o.p o.t s'):
  ∃r s',Runs (model prog w) Γ p t [] s (.ret r) s'/\R r s':=by
 refine DE hkt t olds objs d f h hs s.gens [] [] hlen ho hnd hlo htop hsz htk hd hhs (by apply Array.ext';simp) (fun a vs e=>nomatch e) fun ad tb=> ?_;obtain⟨h1,hc,h2⟩:=H ad tb;exact⟨h1,fun s' D=>h2 s' ⟨fun b x e q=>D.frame b x e q (by rw[hc];rfl),D.size,D.toks,D.drawn,D.os,D.gens,D.own,D.new,D.inj⟩⟩
theorem XM (olds:List Nat)(objs:List Obj)(d f h:Nat)(hs:List HF)(hlen:objs.length=olds.length)(ho:∀(j a:Nat) (x:Obj),olds[j]? =some a->objs[j]? =some x->s.heap.get? a=some x)(hnd:olds.Nodup)(hlo:∀a∈olds,817<=a)(htop:lT kt s.heap)(hsz:817<=s.heap.objs.size)(htk:1335<=s.toks)(hd:frameCount Γ.below<=d)(hd2:d<1000)(hhs:∀hf∈hs,aG (model prog w) kt hf)(H:∀ad tb:Nat->Nat,let o:=run ⟨prog,w.params⟩ (eK prog w true) (eK prog w false) kt s.gens.size (bG olds ad) (aC tb) f h hs Γ p [bZ Γ p d] d (kY Γ.code) (T0 objs) olds.length 0 [] [] [] []
   o.L=o.R/\o.ch=[]/\∀s',yJ olds (bG olds ad) s s' o->cR ⟨prog,w,kt,s.heap,olds.length,s.gens,s.drawn,s.os,s.toks⟩ (lU R) o.κ o.Γ o.p o.t s'):
  wpCode (model prog w) Γ R p s:=by
 obtain⟨r,s',hr,hR⟩:=vM hkt (kY Γ.code) olds objs d f h hs hlen ho hnd hlo htop hsz htk hd hhs H;exact⟨r,s',yG (V:=⟨prog,w,kt,s.heap,olds.length,s.gens,s.drawn,s.os,s.toks⟩) (Nat.lt_of_le_of_lt hd hd2) hr,hR⟩
end
end
noncomputable def sE(ns:List Nat)(h:S.low ns=true):String:=S.litE (ns.map UInt8.ofNat) ns h rfl
theorem cA(ns:List Nat)(h:S.low ns=true):String.ofList (ns.map Char.ofNat)=sE ns h:=S.litE_eq _ ns h rfl
theorem lA {t:Sem Fin}{S:PySem.Spec}(g:Meets t S)(hden:(model prog w).den Γ.code=t)(h:S ⟨Γ.handled,frameCount Γ.below+Γ.code.weight,none,none,Γ.units⟩ R s):wpCode (model prog w) Γ R p s:=by
 rw[wpCode_iff_wp,hden]
 have hin:Γ.In (Around.in1 ⟨Γ.handled,frameCount Γ.below+Γ.code.weight,none,none,Γ.units⟩):=
  ⟨rfl,Nat.le_refl _,fun u q=>(nomatch q),fun u q=>(nomatch q),Nat.le_succ _⟩
 refine Sem.wp_mono _ _ _ (fun fin p' s' q=> ?_) (fun u u u q=>q) _ _ (g prog w _ R s h Γ p hin);cases fin with
 |done f=>exact q
 |again c'=>
  refine⟨q.1,q.2 (Γ.goto c') p' rfl ⟨rfl,Nat.le_add_right _ _,fun u q=>(nomatch q),fun u q=>(nomatch q),?_⟩⟩;show unitsOf Γ.below<=Γ.units;exact Nat.le_add_left _ _
theorem eM {B:Builtin}(e:entryFor table id=some B)(args:Args):(model prog w).den (.builtin id args)=B args:=by
 show denote table (.builtin id args)=B args;show (match entryFor table id with |some b=>b args |none=>unsupported ((withoutEnding? id "#data").getD id))=B args;rw[e]
def cH{α:Type}(f:(Nat->Nat)->(Nat->Nat)->α)(n i:Nat):Prop:=∀A K A' K':Nat->Nat,(∀j,j<n->A' j=A j)->(∀j,j<i->K' j=K j)->f A' K'=f A K
theorem mT {c:Code}{nt:Nat}{pre:List (Nat×Obj)}(h:s.toks<=k):yH A ⟨c,pre,[],[],r,nt,n,i,dep,none⟩ s {s with toks:=k}:=
 ⟨fun u u e u=>e,fun u hx=>(List.not_mem_nil hx).elim,fun u u e=>absurd e (Option.some_ne_none _).symm,fun u u hj=>(Nat.not_lt_zero _ hj).elim,Nat.le_refl _,h,rfl,rfl,rfl⟩
section
variable {kt:KT}{B:Builtin}(entry:entryFor table id=some B)(args:(Nat->Nat)->(Nat->Nat)->List Value)
include entry
theorem XO (v:Value)(n i:Nat)(hl:cH args n i)(hg:∀A K,Gives (B ⟨args A K,[]⟩) (.val v)):aG (model prog w) kt (fun A K=>⟨.builtin id ⟨args A K,[]⟩,[],[],[],.ok (.ret v),0,n,i,900,none⟩) where
 loc A K A' K' h1 h2:=by
  show HS.mk _ _ _ _ _ _ _ _ _ _=HS.mk _ _ _ _ _ _ _ _ _ _;rw[hl A K A' K' (fun j hj=>h1 j hj) (fun j hj=>h2 j hj)]
 ok A K Γ p s R hA hK hc hd h1 h2 h3 ht hs hk hp hi hl' _ _ hR:=by
  refine lA (hg A K).meets (by rw[hc];exact eM entry _) ?_;exact hR A K s (fun u u=>rfl) (fun u u=>rfl) hA hK (mT (k:=s.toks) (Nat.le_refl _))
theorem XQ (x:Int)(n i:Nat)(hl:cH args n i)(hg:∀A K,Gives (B ⟨args A K,[]⟩) (.int x)):aG (model prog w) kt (fun A K=>⟨.builtin id ⟨args A K,[]⟩,[],[],[],.ok (.ret (.int x (K i))),1,n,i,900,none⟩) where
 loc A K A' K' h1 h2:=by
  show HS.mk _ _ _ _ _ _ _ _ _ _=HS.mk _ _ _ _ _ _ _ _ _ _;rw[hl A K A' K' (fun j hj=>h1 j hj) (fun j hj=>h2 j (Nat.lt_succ_of_lt hj)),h2 i (Nat.lt_succ_self _)]
 ok A K Γ p s R hA hK hc hd h1 h2 h3 ht hs hk hp hi hl' _ _ hR:=by
  refine lA (hg A K).meets (by rw[hc];exact eM entry _) ?_
  have z:=hR A (fun j=>if j=i then s.toks else K j) {s with toks:=s.toks+1} (fun u u=>rfl) (fun j hj=>if_neg (Nat.ne_of_lt hj)) hA (fun j=>by
   show 1335<=(if j=i then s.toks else K j);split
   ·exact hk
   ·exact hK j) (mT (Nat.le_succ _))
  have q:(if i=i then s.toks else K i)=s.toks:=if_pos rfl;simp only[q] at z;exact z
theorem XR (x:Str)(hx:x.length<=sizeLine)(n i:Nat)(hl:cH args n i)(hg:∀A K,Gives (B ⟨args A K,[]⟩) (.str x)):aG (model prog w) kt (fun A K=>⟨.builtin id ⟨args A K,[]⟩,[],[],[],.ok (.ret (.str x (K i))),1,n,i,900,none⟩) where
 loc A K A' K' h1 h2:=by
  show HS.mk _ _ _ _ _ _ _ _ _ _=HS.mk _ _ _ _ _ _ _ _ _ _;rw[hl A K A' K' (fun j hj=>h1 j hj) (fun j hj=>h2 j (Nat.lt_succ_of_lt hj)),h2 i (Nat.lt_succ_self _)]
 ok A K Γ p s R hA hK hc hd h1 h2 h3 ht hs hk hp hi hl' _ _ hR:=by
  refine lA (hg A K).meets (by rw[hc];exact eM entry _) ⟨hx,?_⟩
  have z:=hR A (fun j=>if j=i then s.toks else K j) {s with toks:=s.toks+1} (fun u u=>rfl) (fun j hj=>if_neg (Nat.ne_of_lt hj)) hA (fun j=>by
   show 1335<=(if j=i then s.toks else K j);split
   ·exact hk
   ·exact hK j) (mT (Nat.le_succ _))
  have q:(if i=i then s.toks else K i)=s.toks:=if_pos rfl;simp only[q] at z;exact z
end
theorem XS {kt:KT}(x:Str)(t:Nat)(j:Nat)(l u st:Option (Int×Nat))(sl:(Nat->Nat)->(Nat->Nat)->Obj)(y:Str)(hy:y.length<=sizeLine)(n i:Nat)(hj:j<n)(tf:(Nat->Nat)->Nat)(hsl:∀A K,∃l' u' st':Option (Int×Nat),(sl A K).cls= .type "slice"/\(sl A K).data= .fields #[partValue l',partValue u',partValue st']/\l'.map (·.1)=l.map (·.1)/\u'.map (·.1)=u.map (·.1)/\st'.map (·.1)=st.map (·.1))(hloc:cH sl n i)(htf:∀K K':Nat->Nat,(∀j,j<i->K' j=K j)->tf K'=tf K)(h0:((st.map (·.1)).getD 1 == 0)=false)(hm:(((st.map (·.1)).getD 1 == 1 && (slicePicked x l u st).length == x.length)=false))(hp:((slicePicked x l u st).filterMap (x.cps[·]?)).toArray=y.cps):
  aG (model prog w) kt (fun A K=>⟨.builtin "str.__getitem__" ⟨[.str x (tf K),.ref (A j)],[]⟩,[(j,sl A K)],[],[],.ok (.ret (.str y (K i))),1,n,i,900,none⟩) where
 loc A K A' K' h1 h2:=by
  show HS.mk _ _ _ _ _ _ _ _ _ _=HS.mk _ _ _ _ _ _ _ _ _ _;have h2':∀j,j<i->K' j=K j:=fun j hj=>h2 j (Nat.lt_succ_of_lt hj);rw[hloc A K A' K' (fun j hj=>h1 j hj) h2',htf K K' h2',h2 i (Nat.lt_succ_self _),h1 j hj]
 ok A K Γ p s R hA hK hc hd h1 h2 h3 ht hs hk hp' hi hl' _ _ hR:=by
  obtain⟨l',u',st',e1,e2,e3,e4,e5⟩:=hsl A K;have ho:s.heap.get? (A j)=some (sl A K):=hp' _ (.head _);refine lA (meets_str_getitem_slice x (tf K) (A j) l' u' st' (by rw[e5];exact h0)) (by rw[hc];exact eM F.entry_str_getitem _) ⟨⟨_,ho,e1,e2⟩,?_⟩
  have em:sliceMade x (tf K) l' u' st'= .str y:=by
   unfold sliceMade slicePicked;unfold slicePicked at hm hp;rw[e3,e4,e5,hm];simp only[Bool.false_eq_true,if_false];rw[hp]
  rw[em];refine⟨hy,?_⟩
  have z:=hR A (fun j=>if j=i then s.toks else K j) {s with toks:=s.toks+1} (fun v v=>rfl) (fun j hj=>if_neg (Nat.ne_of_lt hj)) hA (fun j=>by
   show 1335<=(if j=i then s.toks else K j);split
   ·exact hk
   ·exact hK j) (mT (Nat.le_succ _))
  have q:(if i=i then s.toks else K i)=s.toks:=if_pos rfl;simp only[q] at z;exact z
noncomputable def pb:List Stmt:=PySem.Challenge.pw_ik0071_01.main.body
noncomputable def cM(i:Nat):Stmt:=match pb.drop i with
 |s::_=>s
 | []=> .Pass default
noncomputable def sD(s:Stmt):Arguments×Scope×List Stmt×List Stmt×Expr×Expr×List Expr×Pos×Str:=match s with
 | .FunctionDef n a b _ _ _ c _ _ p=>(a,c,b,[],default,default,[],p,n)
 | .ClassDef _ _ _ b _ _ _ _ _ _ p=>(default,default,b,[],default,default,[],p,default)
 | .For t i b e p=>(default,default,b,e,t,i,[],p,default)
 | .While t b e p=>(default,default,b,e,t,t,[],p,default)
 | .If t b e p=>(default,default,b,e,t,t,[],p,default)
 | .Assign l v p=>(default,default,[],[],v,v,l,p,default)
 | .Return (some e) p=>(default,default,[],[],e,e,[],p,default)
 |_=>(default,default,[],[],default,default,[],default,default)
noncomputable def DF(s:Stmt):Arguments:=(sD s).1
noncomputable def kI(s:Stmt):Scope:=(sD s).2.1
noncomputable def bF(s:Stmt):List Stmt:=(sD s).2.2.1
noncomputable def fV(s:Stmt):List Stmt:=(sD s).2.2.2.1
noncomputable def bR(s:Stmt):Expr:=(sD s).2.2.2.2.1
noncomputable def KD(s:Stmt):List Expr:=(sD s).2.2.2.2.2.2.1
noncomputable def yK(s:Stmt):Pos:=(sD s).2.2.2.2.2.2.2.1
noncomputable def fK(s:Stmt)(i:Nat):Stmt:=match(bF s).drop i with
 |s::_=>s
 | []=> .Pass default
noncomputable def eD(e:Expr):Expr×List Expr×Scope×Arguments×List Comprehension×Str×Nat:=match e with
 | .Call _ (a::_) _ _=>(a,[],default,default,[],default,0)
 | .GeneratorExp a g s _=>(a,[],s,default,g,default,0)
 | .ListComp a g s _=>(a,[],s,default,g,default,0)
 | .Lambda a b s _=>(b,[],s,a,[],default,0)
 | .List l _=>(e,l,default,default,[],default,0)
 | .Tuple l k _=>(e,l,default,default,[],default,k)
 | .Compare l _ r _=>(l,r,default,default,[],default,0)
 | .BinOp _ _ r _=>(r,[],default,default,[],default,0)
 | .Name x _=>(e,[],default,default,[],x,0)
 |_=>(e,[],default,default,[],default,0)
noncomputable def fW(e:Expr):Expr:=(eD e).1
noncomputable def yL(e:Expr):List Expr:=(eD e).2.1
noncomputable def rU(e:Expr):Scope:=(eD e).2.2.1
noncomputable def XT(e:Expr):Arguments:=(eD e).2.2.2.1
noncomputable def jL(e:Expr):List Comprehension:=(eD e).2.2.2.2.1
noncomputable def yM(e:Expr):Str:=(eD e).2.2.2.2.2.1
noncomputable def KE(e:Expr):Nat:=(eD e).2.2.2.2.2.2
noncomputable def sv(l:List Nat)(t:Nat):Value:= .str ⟨⟨l⟩⟩ t
noncomputable def de(P:Params)(l:List Nat)(t:Nat)(v:Value):DictEntry:=⟨PyData.keyHash P ⟨⟨l⟩⟩,.str ⟨⟨l⟩⟩ t,v⟩
noncomputable def eS(nm qn:List Nat)(st:Stmt)(g:Nat)(df kw doc md cd ct:Value)(b:Nat):Data:=
 .func {name:=⟨⟨nm⟩⟩,qualname:=⟨⟨qn⟩⟩,params:=DF st,body:= .stmts (bF st),scope:=kI st,globals:=g,closure:=[],defaults:=df,kwdefaults:=kw,doc:=doc,pyModule:=md,annotations:=none,code:=cd,closureTuple:=ct,builtins:=b}
noncomputable def o0(P:Params):Obj:=⟨.type SL.s14018661285674007319x4,none,.dict ⟨[de P [95,95,110,97,109,101,95,95] 1 (sv [98,117,105,108,116,105,110,115] 160),de P sO 2 (.builtin "builtins.__doc__:str#opaque"),de P IA 3 (.builtin "builtins.__package__:str#opaque"),de P IB 4 (.builtin "builtins.__loader__:shared#opaque"),de P [95,95,115,112,101,99,95,95] 5 (.builtin SL.s11665532747177232413x24),de P [95,95,98,117,105,108,100,95,99,108,97,115,115,95,95] 6 (.builtin SL.s15183661809925369436x15),de P [95,95,105,109,112,111,114,116,95,95] 7 (.builtin SL.s13915890719876406383x10),de P [97,98,115] 8 (.builtin SL.s13459172003223722735x3),de P [97,108,108] 9 (.builtin SL.s10557405761357834076x3),de P [97,110,121] 10 (.builtin SL.s4233737765568776869x3),de P [97,115,99,105,105] 11 (.builtin SL.s2508922471967985374x5),de P [98,105,110] 12 (.builtin SL.s15574269061696679450x3),de P [98,114,101,97,107,112,111,105,110,116] 13 (.builtin SL.s6016482663378992977x10),de P [99,97,108,108,97,98,108,101] 14 (.builtin SL.s5596568736180474577x8),de P [99,104,114] 15 (.builtin SL.s2839554839881490554x3),de P [99,111,109,112,105,108,101] 16 (.builtin SL.s725004073602090463x7),de P [100,101,108,97,116,116,114] 17 (.builtin SL.s9436932552931045734x7),de P [100,105,114] 18 (.builtin SL.s2754603736356183583x3),de P [100,105,118,109,111,100] 19 (.builtin SL.s15185746759980889043x6),de P [101,118,97,108] 20 (.builtin SL.s8192189862530294059x4),de P [101,120,101,99] 21 (.builtin SL.s7038307821325472102x4),de P [102,111,114,109,97,116] 22 (.builtin SL.s5662562618415449548x6),de P [103,101,116,97,116,116,114] 23 (.builtin SL.s15281542589158584767x7),de P [103,108,111,98,97,108,115] 24 (.builtin SL.s17651547275483570877x7),de P [104,97,115,97,116,116,114] 25 (.builtin SL.s4036449017235975746x7),de P [104,97,115,104] 26 (.builtin SL.s8879979712987360175x4),de P [104,101,120] 27 (.builtin SL.s1801250619170735830x3),de P [105,100] 28 (.builtin SL.s17659931425627118568x2),de P [105,110,112,117,116] 29 (.builtin SL.s6063217899685152688x5),de P [105,115,105,110,115,116,97,110,99,101] 30 (.builtin SL.s8008927332132565319x10),de P [105,115,115,117,98,99,108,97,115,115] 31 (.builtin SL.s3544116645089599534x10),de P [105,116,101,114] 32 (.builtin SL.s13761710972054866084x4),de P [97,105,116,101,114] 33 (.builtin SL.s12896375587409280029x5),de P [108,101,110] 34 (.builtin SL.s13014049009108672802x3),de P [108,111,99,97,108,115] 35 (.builtin SL.s13935586738268321596x6),de P [109,97,120] 36 (.builtin SL.s8200498257699607233x3),de P [109,105,110] 37 (.builtin SL.s14114244577727609259x3),de P [110,101,120,116] 38 (.builtin SL.s1499430450269397089x4),de P [97,110,101,120,116] 39 (.builtin SL.s8755793994789770505x5),de P [111,99,116] 40 (.builtin SL.s15725212667919936108x3),de P [111,114,100] 41 (.builtin SL.s15791221867095933363x3),de P [112,111,119] 42 (.builtin SL.s81309575031448614x3),de P [112,114,105,110,116] 43 (.builtin SL.s8069831620301644142x5),de P [114,101,112,114] 44 (.builtin SL.s10061844253413749634x4),de P [114,111,117,110,100] 45 (.builtin SL.s9496514870978017513x5),de P [115,101,116,97,116,116,114] 46 (.builtin SL.s8899691144933366716x7),de P [115,111,114,116,101,100] 47 (.builtin SL.s15201008993051130160x6),de P [115,117,109] 48 (.builtin SL.s741896355592496720x3),de P [118,97,114,115] 49 (.builtin SL.s17925004256654032244x4),de P [78,111,110,101] 50 (.none),de P [69,108,108,105,112,115,105,115] 51 (.ellipsis),de P [78,111,116,73,109,112,108,101,109,101,110,116,101,100] 52 (.notImplemented),de P [70,97,108,115,101] 53 (.bool false),de P [84,114,117,101] 54 (.bool true),de P [98,111,111,108] 55 (.type SL.s11695548795398191787x4),de P [109,101,109,111,114,121,118,105,101,119] 56 (.type SL.s4156966113859768872x10),de P [98,121,116,101,97,114,114,97,121] 57 (.type SL.s9501651726347032510x9),de P [98,121,116,101,115] 58 (.type SL.s15722918466584999320x5),de P [99,108,97,115,115,109,101,116,104,111,100] 59 (.type SL.s591115383303110208x11),de P [99,111,109,112,108,101,120] 60 (.type SL.s15721156781594690315x7),de P [100,105,99,116] 61 (.type SL.s14018661285674007319x4),de P [101,110,117,109,101,114,97,116,101] 62 (.type SL.s14340494229221121180x9),de P [102,105,108,116,101,114] 63 (.type SL.s13429844117177748173x6),de P [102,108,111,97,116] 64 (.type SL.s16463266125957815391x5),de P [102,114,111,122,101,110,115,101,116] 65 (.type SL.s4922535414793169389x9),de P [112,114,111,112,101,114,116,121] 66 (.type SL.s8101838861749082086x8),de P [105,110,116] 67 (.type SL.s7066276694103001551x3),de P [108,105,115,116] 68 (.type SL.s9222952809800978799x4),de P [109,97,112] 69 (.type SL.s462964344163437139x3),de P [111,98,106,101,99,116] 70 (.type SL.s2742458400755230247x6),de P [114,97,110,103,101] 71 (.type SL.s1438033511350832697x5),de P [114,101,118,101,114,115,101,100] 72 (.type SL.s14365286008749172514x8),de P [115,101,116] 73 (.type SL.s3642769012341782148x3),de P [115,108,105,99,101] 74 (.type SL.s4674234679698826739x5),de P [115,116,97,116,105,99,109,101,116,104,111,100] 75 (.type SL.s16656946322747308186x12),de P [115,116,114] 76 (.type SL.s10796804682411823810x3),de P [115,117,112,101,114] 77 (.type SL.s4290257624100764138x5),de P [116,117,112,108,101] 78 (.type SL.s2766695959194262286x5),de P [116,121,112,101] 79 (.type SL.s17162191345867700912x4),de P [122,105,112] 80 (.type SL.s14339709457334898076x3),de P [95,95,100,101,98,117,103,95,95] 81 (.bool true),de P [66,97,115,101,69,120,99,101,112,116,105,111,110] 82 (.type SL.s4278001404047624695x13),de P [66,97,115,101,69,120,99,101,112,116,105,111,110,71,114,111,117,112] 83 (.type SL.s6585700554429387442x18),de P [69,120,99,101,112,116,105,111,110] 84 (.type SL.s5946037652744460706x9),de P [71,101,110,101,114,97,116,111,114,69,120,105,116] 85 (.type SL.s7410770068591931388x13),de P [75,101,121,98,111,97,114,100,73,110,116,101,114,114,117,112,116] 86 (.type SL.s11817881795495490833x17),de P [83,121,115,116,101,109,69,120,105,116] 87 (.type SL.s15679963881808890155x10),de P [65,114,105,116,104,109,101,116,105,99,69,114,114,111,114] 88 (.type SL.s3871700062485845797x15),de P [65,115,115,101,114,116,105,111,110,69,114,114,111,114] 89 (.type SL.s7689518266570723881x14),de P [65,116,116,114,105,98,117,116,101,69,114,114,111,114] 90 (.type SL.s9001593270443806431x14),de P [66,117,102,102,101,114,69,114,114,111,114] 91 (.type SL.s6882542574934516792x11),de P [69,79,70,69,114,114,111,114] 92 (.type SL.s14403400214490484960x8),de P [73,109,112,111,114,116,69,114,114,111,114] 93 (.type SL.s14457978657717015782x11),de P [76,111,111,107,117,112,69,114,114,111,114] 94 (.type SL.s1753610191782819921x11),de P [77,101,109,111,114,121,69,114,114,111,114] 95 (.type SL.s14119380538032626715x11),de P [78,97,109,101,69,114,114,111,114] 96 (.type SL.s11437920000406562045x9),de P [79,83,69,114,114,111,114] 97 (.type SL.s10852414792293593619x7),de P [82,101,102,101,114,101,110,99,101,69,114,114,111,114] 98 (.type SL.s14816307405966870543x14),de P [82,117,110,116,105,109,101,69,114,114,111,114] 99 (.type SL.s8682627914449686677x12),de P [83,116,111,112,65,115,121,110,99,73,116,101,114,97,116,105,111,110] 100 (.type SL.s4428170145600203450x18),de P [83,116,111,112,73,116,101,114,97,116,105,111,110] 101 (.type SL.s5991306692159431302x13),de P [83,121,110,116,97,120,69,114,114,111,114] 102 (.type SL.s16067994140765818257x11),de P [83,121,115,116,101,109,69,114,114,111,114] 103 (.type SL.s2327743974964600596x11),de P [84,121,112,101,69,114,114,111,114] 104 (.type SL.s2804747833354056582x9),de P [86,97,108,117,101,69,114,114,111,114] 105 (.type SL.s6070975301684473832x10),de P [87,97,114,110,105,110,103] 106 (.type SL.s14270485950484850486x7),de P [70,108,111,97,116,105,110,103,80,111,105,110,116,69,114,114,111,114] 107 (.type SL.s12041534306414923332x18),de P [79,118,101,114,102,108,111,119,69,114,114,111,114] 108 (.type SL.s2531307568338490285x13),de P [90,101,114,111,68,105,118,105,115,105,111,110,69,114,114,111,114] 109 (.type SL.s631175304937289666x17),de P [66,121,116,101,115,87,97,114,110,105,110,103] 110 (.type SL.s5144983644357021410x12),de P [68,101,112,114,101,99,97,116,105,111,110,87,97,114,110,105,110,103] 111 (.type SL.s18039099521571816885x18),de P [69,110,99,111,100,105,110,103,87,97,114,110,105,110,103] 112 (.type SL.s6011586214260557989x15),de P [70,117,116,117,114,101,87,97,114,110,105,110,103] 113 (.type SL.s5430567037509283100x13),de P [73,109,112,111,114,116,87,97,114,110,105,110,103] 114 (.type SL.s8117915138073963741x13),de P [80,101,110,100,105,110,103,68,101,112,114,101,99,97,116,105,111,110,87,97,114,110,105,110,103] 115 (.type SL.s3423317712779056401x25),de P [82,101,115,111,117,114,99,101,87,97,114,110,105,110,103] 116 (.type SL.s2007317383269046180x15),de P [82,117,110,116,105,109,101,87,97,114,110,105,110,103] 117 (.type SL.s17481586968713580700x14),de P [83,121,110,116,97,120,87,97,114,110,105,110,103] 118 (.type SL.s2450899226349176912x13),de P [85,110,105,99,111,100,101,87,97,114,110,105,110,103] 119 (.type SL.s16626165730633575011x14),de P [85,115,101,114,87,97,114,110,105,110,103] 120 (.type SL.s14288496050688921416x11),de P [66,108,111,99,107,105,110,103,73,79,69,114,114,111,114] 121 (.type SL.s5735081916595925998x15),de P [67,104,105,108,100,80,114,111,99,101,115,115,69,114,114,111,114] 122 (.type SL.s3865607918536308442x17),de P [67,111,110,110,101,99,116,105,111,110,69,114,114,111,114] 123 (.type SL.s13337502604062700212x15),de P [70,105,108,101,69,120,105,115,116,115,69,114,114,111,114] 124 (.type SL.s13114017843053701147x15),de P [70,105,108,101,78,111,116,70,111,117,110,100,69,114,114,111,114] 125 (.type SL.s17467278006356818441x17),de P [73,110,116,101,114,114,117,112,116,101,100,69,114,114,111,114] 126 (.type SL.s17722149559621369488x16),de P [73,115,65,68,105,114,101,99,116,111,114,121,69,114,114,111,114] 127 (.type SL.s7855274175708717672x17),de P [78,111,116,65,68,105,114,101,99,116,111,114,121,69,114,114,111,114] 128 (.type SL.s13351283678309829046x18),de P [80,101,114,109,105,115,115,105,111,110,69,114,114,111,114] 129 (.type SL.s6668348653404991179x15),de P [80,114,111,99,101,115,115,76,111,111,107,117,112,69,114,114,111,114] 130 (.type SL.s12913350958174193794x18),de P [84,105,109,101,111,117,116,69,114,114,111,114] 131 (.type SL.s16115879512475548326x12),de P [73,110,100,101,110,116,97,116,105,111,110,69,114,114,111,114] 132 (.type SL.s15920661018069861047x16),de P [95,73,110,99,111,109,112,108,101,116,101,73,110,112,117,116,69,114,114,111,114] 133 (.type SL.s10779130036587390575x21),de P [73,110,100,101,120,69,114,114,111,114] 134 (.type SL.s7801419657504700863x10),de P [75,101,121,69,114,114,111,114] 135 (.type SL.s1688129525768580628x8),de P [77,111,100,117,108,101,78,111,116,70,111,117,110,100,69,114,114,111,114] 136 (.type SL.s1031832959479892071x19),de P [78,111,116,73,109,112,108,101,109,101,110,116,101,100,69,114,114,111,114] 137 (.type SL.s8991790508128307865x19),de P [80,121,116,104,111,110,70,105,110,97,108,105,122,97,116,105,111,110,69,114,114,111,114] 138 (.type SL.s14539662485746970245x23),de P [82,101,99,117,114,115,105,111,110,69,114,114,111,114] 139 (.type SL.s11643622729373238714x14),de P [85,110,98,111,117,110,100,76,111,99,97,108,69,114,114,111,114] 140 (.type SL.s3386828779285465597x17),de P [85,110,105,99,111,100,101,69,114,114,111,114] 141 (.type SL.s13042696260734638735x12),de P [66,114,111,107,101,110,80,105,112,101,69,114,114,111,114] 142 (.type SL.s18239426817015966623x15),de P [67,111,110,110,101,99,116,105,111,110,65,98,111,114,116,101,100,69,114,114,111,114] 143 (.type SL.s1270395311379034370x22),de P [67,111,110,110,101,99,116,105,111,110,82,101,102,117,115,101,100,69,114,114,111,114] 144 (.type SL.s10696252587037064777x22),de P [67,111,110,110,101,99,116,105,111,110,82,101,115,101,116,69,114,114,111,114] 145 (.type SL.s7852717498200857586x20),de P [84,97,98,69,114,114,111,114] 146 (.type SL.s6377248116197321094x8),de P [85,110,105,99,111,100,101,68,101,99,111,100,101,69,114,114,111,114] 147 (.type SL.s3834378056692298002x18),de P [85,110,105,99,111,100,101,69,110,99,111,100,101,69,114,114,111,114] 148 (.type SL.s17586630440231065808x18),de P [85,110,105,99,111,100,101,84,114,97,110,115,108,97,116,101,69,114,114,111,114] 149 (.type SL.s15234114252648025395x21),de P [69,120,99,101,112,116,105,111,110,71,114,111,117,112] 150 (.type SL.s8496462677383758984x14),de P [69,110,118,105,114,111,110,109,101,110,116,69,114,114,111,114] 151 (.type SL.s10852414792293593619x7),de P [73,79,69,114,114,111,114] 152 (.type SL.s10852414792293593619x7),de P [111,112,101,110] 153 (.builtin SL.s16789243406116112673x4),de P [113,117,105,116] 154 (.builtin SL.s14400166428656793546x20),de P [101,120,105,116] 155 (.builtin SL.s5857708277339239366x20),de P [99,111,112,121,114,105,103,104,116] 156 (.builtin "builtins.copyright#opaque"),de P [99,114,101,100,105,116,115] 157 (.builtin "builtins.credits#opaque"),de P [108,105,99,101,110,115,101] 158 (.builtin "builtins.license#opaque"),de P [104,101,108,112] 159 (.builtin SL.s7804999707787243718x20)]⟩ 159,⟨[]⟩⟩
noncomputable def o2(P:Params):Obj:=⟨.none,none,.dict ⟨[de P [105,109,112,111,114,116,46,108,111,97,100,101,100,46,95,115,114,101] 183 (.bool true),de P [99,108,97,115,115,46,95,102,114,111,122,101,110,95,105,109,112,111,114,116,108,105,98,46,66,117,105,108,116,105,110,73,109,112,111,114,116,101,114] 185 (.ref 14),de P [119,97,116,99,104,101,100,46,105,109,112,111,114,116] 206 (.ref 18),de P [99,108,97,115,115,46,95,102,114,111,122,101,110,95,105,109,112,111,114,116,108,105,98,46,77,111,100,117,108,101,83,112,101,99] 216 (.ref 22),de P [115,121,115,46,109,111,100,117,108,101,115,46,98,111,111,107,101,100,45,101,112,111,99,104] 245 (.int (4) 0),de P [105,109,112,111,114,116,46,108,97,116,101,114,45,108,97,105,100,46,95,115,114,101] 270 (.bool true),de P [119,97,116,99,104,101,100,46,108,105,98,114,97,114,121] 272 (.ref 27),de P [119,97,116,99,104,101,100,46,108,105,98,114,97,114,121,45,111,98,106,101,99,116,115] 0 (sv [12,30] 0),de P [119,97,116,99,104,101,100,46,108,105,98,114,97,114,121,45,100,101,101,112,46,95,115,114,101] 273 (sv [4,0,0,11,4,0,0,11,4,0,0,3,4,0,0,11,8,4,100,105,99,116,2] 0),de P [105,109,112,111,114,116,46,108,111,97,100,101,100,46,95,99,111,108,108,101,99,116,105,111,110,115] 280 (.bool true),de P [115,121,115,46,109,111,100,117,108,101,115,46,108,97,110,100,101,100,46,95,99,111,108,108,101,99,116,105,111,110,115] 294 (.bool true),de P [105,109,112,111,114,116,46,108,97,116,101,114,45,108,97,105,100,46,95,99,111,108,108,101,99,116,105,111,110,115] 309 (.bool true),de P [119,97,116,99,104,101,100,46,108,105,98,114,97,114,121,45,100,101,101,112,46,95,99,111,108,108,101,99,116,105,111,110,115] 311 (sv [4,0,0,29,4,0,0,29,4,0,0,3,4,0,0,29,8,4,100,105,99,116,2] 0),de P [116,121,112,101,46,95,95,115,117,98,99,108,97,115,115,101,115,95,95,46,79,83,69,114,114,111,114,46,48] 443 (.int (96) 0),de P [116,121,112,101,46,95,95,115,117,98,99,108,97,115,115,101,115,95,95,46,79,83,69,114,114,111,114,46,110] 444 (.int (1) 0)]⟩ 15,⟨[]⟩⟩
noncomputable def o3(P:Params):Obj:=⟨.type SL.s14018661285674007319x4,none,.dict ⟨[de P [95,95,110,97,109,101,95,95] 165 (sv sf 1291),de P sO 166 (.none),de P IA 167 (.none),de P IB 168 (.builtin SL.s7097527257260152453x26),de P [95,95,115,112,101,99,95,95] 169 (.none),de P [95,95,97,110,110,111,116,97,116,105,111,110,115,95,95] 170 (.ref 6),de P [95,95,98,117,105,108,116,105,110,115,95,95] 171 (.ref 4),de P [95,95,102,105,108,101,95,95] 173 (sv s6 172),de P [95,95,99,97,99,104,101,100,95,95] 174 (.none),de P [95,115,114,101] 275 (.ref 12),de P [100,101,113,117,101] 317 (.type SL.s5314052453082223887x17),de P [95,119,97,108,108] 330 (.ref 44),de P sG 341 (.ref 51),de P [95,105,110,105,116,105,97,108,95,109,105,115,115,105,110,103] 342 (.ref 52),de P uR 354 (.ref 60),de P uT 366 (.ref 67),de P [95,116,119,105,110,95,114,101,95,49] 406 (.ref 72),de P [95,119,104,101,110,99,101] 416 (.ref 79),de P uS 424 (.ref 86),de P [85,110,115,117,112,112,111,114,116,101,100,79,112,101,114,97,116,105,111,110] 446 (.ref 96),de P uU 478 (.ref 116),de P [66,117,102,102,101,114,101,100,73,79,66,97,115,101] 496 (.ref 131),de P sK 514 (.ref 143),de P sY 776 (.ref 373),de P sU 1063 (.ref 620),de P [95,107,105,110,100] 1074 (.ref 629),de P [95,102,115,112,97,116,104] 1083 (.ref 636),de P [95,99,104,101,99,107,95,97,114,103,95,116,121,112,101,115] 1093 (.ref 643),de P [105,115,97,98,115] 1100 (.ref 650),de P uZ 1111 (.ref 774),de P [106,111,105,110,95,112,97,116,104] 1112 (.ref 657),de P [100,105,114,110,97,109,101] 1122 (.ref 664),de P uV 1263 (.ref 755),de P uW 1273 (.ref 767),de P [106,111,105,110,95,115,104,108,101,120] 1281 (.ref 774),de P [95,102,105,110,100,95,117,110,115,97,102,101] 1283 (.ref 775),de P uX 1290 (.ref 782),de P sn 1298 (.ref 787),de P sH 1304 (.ref 792),de P sI 1310 (.ref 797),de P sN 1320 (.ref 804),de P sw 1328 (.ref 811),de P [108,97,119] 1334 (.ref 816)]⟩ 43,⟨[]⟩⟩
noncomputable def o4(P:Params):Obj:=⟨.type SL.s6658869562736209489x6,(some 0),.plain,⟨[]⟩⟩
noncomputable def XU(P:Params):Obj:=⟨.type SL.s5856160107412720595x4,none,.fields ⟨[sv sG 333,sv sG 334,sv s6 335,.int (7) 0,.int (1) 0,.int (0) 0,.int (0) 0,.int (3) 0,.ref 45,.bool true,.int (318) 0,.ref 46,.none,.ref 47,.ref 48,.ref 49,.int (339) 0,.int (7) 0,sv s6 340]⟩,⟨[]⟩⟩
noncomputable def XV(P:Params):Obj:=⟨.type SL.s7174869446012820540x8,none,eS sG sG (cM 4) 3 (.none) (.none) (.none) (sv sh 331) (.ref 50) (.none) 0,⟨[]⟩⟩
noncomputable def XW(P:Params):Obj:=⟨.type SL.s2766695959194262286x5,none,.seq ⟨[.ref 52]⟩ 0,⟨[]⟩⟩
noncomputable def XX(P:Params):Obj:=⟨.type SL.s5856160107412720595x4,none,.fields ⟨[sv uR 343,sv uR 344,sv s6 345,.int (33) 0,.int (3) 0,.int (0) 0,.int (0) 0,.int (3) 0,.ref 54,.bool true,.int (318) 0,.ref 55,.none,.ref 56,.ref 57,.ref 58,.int (352) 0,.int (33) 0,sv s6 353]⟩,⟨[]⟩⟩
noncomputable def XY(P:Params):Obj:=⟨.type SL.s7174869446012820540x8,none,eS uR uR (cM 6) 3 (.ref 53) (.none) (.none) (sv sh 331) (.ref 59) (.none) 0,⟨[]⟩⟩
noncomputable def XZ(P:Params):Obj:=⟨.type SL.s5856160107412720595x4,none,.fields ⟨[sv uT 357,sv uT 358,sv s6 359,.int (46) 0,.int (1) 0,.int (0) 0,.int (0) 0,.int (3) 0,.ref 61,.bool true,.int (318) 0,.ref 62,.none,.ref 63,.ref 64,.ref 65,.int (364) 0,.int (46) 0,sv s6 365]⟩,⟨[]⟩⟩
noncomputable def YA(P:Params):Obj:=⟨.type SL.s7174869446012820540x8,none,eS uT uT (cM 8) 3 (.none) (.none) (.none) (sv [99,112,121,51,49,51,46,105,109,97,112,108,105,98] 355) (.ref 66) (.none) 0,⟨[]⟩⟩
noncomputable def YB(P:Params):Obj:=⟨.type SL.s2766695959194262286x5,none,.seq ⟨[.int (14) 0,.int (17) 0,.int (4) 0,.int (1) 0,.int (1) 0,.int (21) 0,.int (9) 0,.int (0) 0,.int (604043296) 0,.int (1) 0,.int (0) 0,.int (0) 0,.int (0) 0,.int (0) 0,.int (0) 0,.int (8) 0,.int (4) 0,.int (0) 0,.int (13) 0,.int (14) 0,.int (21) 0,.int (9) 0,.int (0) 0,.int (604043296) 0,.int (1) 0,.int (0) 0,.int (0) 0,.int (0) 0,.int (0) 0,.int (0) 0,.int (8) 0,.int (4) 0,.int (0) 0,.int (1) 0]⟩ 0,⟨[]⟩⟩
noncomputable def YC(P:Params):Obj:=⟨.type SL.s12171344214640291687x10,none,.fields ⟨[sv [91,94,92,119,64,37,43,61,58,44,46,47,45,93] 368,.int (256) 405,.int (0) 0,.none,.none,.ref 71,.int (0) 0]⟩,⟨[]⟩⟩
noncomputable def YD(P:Params):Obj:=⟨.type SL.s5856160107412720595x4,none,.fields ⟨[sv uS 417,sv uS 418,sv s6 419,.int (61) 0,.int (2) 0,.int (0) 0,.int (0) 0,.int (3) 0,.ref 80,.bool true,.int (318) 0,.ref 81,.none,.ref 82,.ref 83,.ref 84,.int (422) 0,.int (61) 0,sv s6 423]⟩,⟨[]⟩⟩
noncomputable def YE(P:Params):Obj:=⟨.type SL.s7174869446012820540x8,none,eS uS uS (cM 12) 3 (.none) (.none) (.none) (sv [105,111] 407) (.ref 85) (.none) 0,⟨[]⟩⟩
noncomputable def YF(P:Params):Obj:=⟨.type SL.s5856160107412720595x4,none,.fields ⟨[sv CC 461,sv HV 462,sv s6 463,.int (73) 0,.int (1) 0,.int (1) 0,.int (0) 0,.int (15) 0,.ref 107,.bool true,.int (318) 0,.ref 108,.none,.ref 109,.ref 110,.ref 111,.int (467) 0,.int (73) 0,sv s6 468]⟩,⟨[]⟩⟩
noncomputable def YG(P:Params):Obj:=⟨.type SL.s7174869446012820540x8,none,eS CC HV (fK (cM 14) 1) 3 (.none) (.none) (.none) (sv [105,111] 407) (.ref 112) (.none) 0,⟨[]⟩⟩
noncomputable def YH(P:Params):Obj:=⟨.type SL.s14018661285674007319x4,none,.dict ⟨[de P si 454 (sv [105,111] 459),de P sd 458 (.int (70) 457),de P CC 469 (.ref 117),de P s8 470 (.ref 114),de P [95,95,100,105,99,116,95,95] 473 (.ref 118),de P HZ 475 (.ref 119),de P sO 476 (.none)]⟩ 4,⟨[]⟩⟩
noncomputable def YI(P:Params):Obj:=⟨.type SL.s17162191345867700912x4,none,.cls {name:=⟨⟨uU⟩⟩,bases:=[.type SL.s2742458400755230247x6],mro:=[.ref 116,.type SL.s2742458400755230247x6],ns:=115,qualname:=⟨⟨uU⟩⟩,hasDict:=true,slotNames:=[],subclasses:=[.ref 131,.ref 143],abstract:=false,collection:=none,hasDel:=false},⟨[none,none,(some (sv uU 447)),(some (sv uU 455)),(some (.none)),(some (.bool true))]⟩⟩
noncomputable def YJ(P:Params):Obj:=⟨.type SL.s16656946322747308186x12,none,.fields ⟨[.ref 113]⟩,⟨[]⟩⟩
noncomputable def YK(P:Params):Obj:=⟨.type SL.s14018661285674007319x4,none,.dict ⟨[de P si 504 (sv [105,111] 509),de P sd 508 (.int (79) 507),de P s8 511 (.ref 141),de P sO 512 (.none)]⟩ 2,⟨[]⟩⟩
noncomputable def YL(P:Params):Obj:=⟨.type SL.s17162191345867700912x4,none,.cls {name:=⟨⟨sK⟩⟩,bases:=[.ref 116],mro:=[.ref 143,.ref 116,.type SL.s2742458400755230247x6],ns:=142,qualname:=⟨⟨sK⟩⟩,hasDict:=true,slotNames:=[],subclasses:=[.ref 620],abstract:=false,collection:=none,hasDel:=false},⟨[(some (.ref 134)),none,(some (sv sK 497)),(some (sv sK 505)),(some (.none)),(some (.bool true))]⟩⟩
noncomputable def YM(P:Params):Obj:=⟨.type SL.s17162191345867700912x4,none,.cls {name:=⟨⟨sY⟩⟩,bases:=[.ref 131],mro:=[.ref 373,.ref 131,.ref 116,.type SL.s2742458400755230247x6],ns:=372,qualname:=⟨⟨sY⟩⟩,hasDict:=true,slotNames:=[],subclasses:=[],abstract:=false,collection:=none,hasDel:=false},⟨[(some (.ref 146)),none,(some (sv sY 515)),(some (sv sY 523)),(some (.none)),(some (.bool true))]⟩⟩
noncomputable def YN(P:Params):Obj:=⟨.type SL.s2766695959194262286x5,none,.seq ⟨[sv [] 791,sv [10] 792]⟩ 0,⟨[]⟩⟩
noncomputable def YO(P:Params):Obj:=⟨.type SL.s5856160107412720595x4,none,.fields ⟨[sv sa 793,sv HN 794,sv s6 795,.int (254) 0,.int (3) 0,.int (0) 0,.int (0) 0,.int (3) 0,.ref 384,.bool true,.int (318) 0,.ref 385,.none,.ref 386,.ref 387,.ref 388,.int (799) 0,.int (254) 0,sv s6 800]⟩,⟨[]⟩⟩
noncomputable def YP(P:Params):Obj:=⟨.type SL.s7174869446012820540x8,none,eS sa HN (fK (cM 18) 1) 3 (.ref 383) (.none) (.none) (sv [105,111] 407) (.ref 389) (.none) 0,⟨[]⟩⟩
noncomputable def YQ(P:Params):Obj:=⟨.type SL.s5856160107412720595x4,none,.fields ⟨[sv HY 802,sv sP 803,sv s6 804,.int (267) 0,.int (2) 0,.int (0) 0,.int (0) 0,.int (3) 0,.ref 391,.bool true,.int (318) 0,.ref 392,.none,.ref 393,.ref 394,.ref 395,.int (808) 0,.int (267) 0,sv s6 809]⟩,⟨[]⟩⟩
noncomputable def YR(P:Params):Obj:=⟨.type SL.s7174869446012820540x8,none,eS HY sP (fK (cM 18) 2) 3 (.none) (.none) (.none) (sv [105,111] 407) (.ref 396) (.none) 0,⟨[]⟩⟩
noncomputable def YS(P:Params):Obj:=⟨.type SL.s5856160107412720595x4,none,.fields ⟨[sv [95,95,99,104,101,99,107] 811,sv HP 812,sv s6 813,.int (275) 0,.int (1) 0,.int (0) 0,.int (0) 0,.int (3) 0,.ref 398,.bool true,.int (318) 0,.ref 399,.none,.ref 400,.ref 401,.ref 402,.int (815) 0,.int (275) 0,sv s6 816]⟩,⟨[]⟩⟩
noncomputable def YT(P:Params):Obj:=⟨.type SL.s7174869446012820540x8,none,eS [95,95,99,104,101,99,107] HP (fK (cM 18) 3) 3 (.none) (.none) (.none) (sv [105,111] 407) (.ref 403) (.none) 0,⟨[]⟩⟩
noncomputable def YU(P:Params):Obj:=⟨.type SL.s2766695959194262286x5,none,.seq ⟨[.int (-1) 984]⟩ 0,⟨[]⟩⟩
noncomputable def YV(P:Params):Obj:=⟨.type SL.s5856160107412720595x4,none,.fields ⟨[sv [114,101,97,100] 985,sv HW 986,sv s6 987,.int (397) 0,.int (2) 0,.int (2) 0,.int (0) 0,.int (3) 0,.ref 560,.bool true,.int (318) 0,.ref 561,.none,.ref 562,.ref 563,.ref 564,.int (992) 0,.int (397) 0,sv s6 993]⟩,⟨[]⟩⟩
noncomputable def YW(P:Params):Obj:=⟨.type SL.s7174869446012820540x8,none,eS [114,101,97,100] HW (fK (cM 18) 25) 3 (.ref 559) (.none) (.none) (sv [105,111] 407) (.ref 565) (.none) 0,⟨[]⟩⟩
noncomputable def YX(P:Params):Obj:=⟨.type SL.s14018661285674007319x4,none,.dict ⟨[de P si 784 (sv [95,105,111] 789),de P sd 788 (.int (251) 787),de P sa 801 (.ref 390),de P [95,83,116,114,105,110,103,73,79,95,95,116,114,97,110,115,108,97,116,101,100] 810 (.ref 397),de P [95,83,116,114,105,110,103,73,79,95,95,99,104,101,99,107] 817 (.ref 404),de P [95,83,116,114,105,110,103,73,79,95,95,99,104,101,99,107,95,100,111,116] 824 (.ref 411),de P [95,83,116,114,105,110,103,73,79,95,95,108,105,110,101] 839 (.ref 418),de P [99,108,111,115,101,100] 847 (.ref 426),de P [108,105,110,101,95,98,117,102,102,101,114,105,110,103] 855 (.ref 434),de P [110,101,119,108,105,110,101,115] 863 (.ref 442),de P [101,110,99,111,100,105,110,103] 871 (.ref 450),de P [101,114,114,111,114,115] 879 (.ref 458),de P [99,108,111,115,101] 886 (.ref 465),de P [95,95,101,110,116,101,114,95,95] 893 (.ref 472),de P [95,95,101,120,105,116,95,95] 901 (.ref 479),de P [114,101,97,100,97,98,108,101] 908 (.ref 486),de P [119,114,105,116,97,98,108,101] 915 (.ref 493),de P [115,101,101,107,97,98,108,101] 922 (.ref 500),de P [105,115,97,116,116,121] 929 (.ref 507),de P [102,108,117,115,104] 936 (.ref 514),de P [102,105,108,101,110,111] 943 (.ref 521),de P [100,101,116,97,99,104] 950 (.ref 528),de P [103,101,116,118,97,108,117,101] 957 (.ref 535),de P [116,101,108,108] 964 (.ref 542),de P [115,101,101,107] 974 (.ref 550),de P [116,114,117,110,99,97,116,101] 982 (.ref 558),de P [114,101,97,100] 994 (.ref 566),de P [114,101,97,100,108,105,110,101] 1004 (.ref 574),de P [114,101,97,100,108,105,110,101,115] 1014 (.ref 582),de P xO 1021 (.ref 589),de P xP 1029 (.ref 596),de P [119,114,105,116,101] 1041 (.ref 603),de P [119,114,105,116,101,108,105,110,101,115] 1049 (.ref 610),de P [95,95,114,101,112,114,95,95] 1056 (.ref 617),de P s8 1060 (.ref 618),de P sO 1061 (.none)]⟩ 2,⟨[]⟩⟩
noncomputable def YY(P:Params):Obj:=⟨.type SL.s17162191345867700912x4,none,.cls {name:=⟨⟨sU⟩⟩,bases:=[.ref 143],mro:=[.ref 620,.ref 143,.ref 116,.type SL.s2742458400755230247x6],ns:=619,qualname:=⟨⟨sU⟩⟩,hasDict:=true,slotNames:=[],subclasses:=[],abstract:=false,collection:=none,hasDel:=false},⟨[(some (.ref 376)),none,(some (sv sU 777)),(some (sv sU 785)),(some (.none)),(some (.bool true))]⟩⟩
noncomputable def YZ(P:Params):Obj:=⟨.type SL.s2766695959194262286x5,none,.seq ⟨[.none,.none,.bool false,.bool false]⟩ 0,⟨[]⟩⟩
noncomputable def ZA(P:Params):Obj:=⟨.type SL.s5856160107412720595x4,none,.fields ⟨[sv sa 1137,sv HQ 1138,sv s6 1139,.int (523) 0,.int (5) 0,.int (0) 0,.int (0) 0,.int (3) 0,.ref 673,.bool true,.int (318) 0,.ref 674,.none,.ref 675,.ref 676,.ref 677,.int (1146) 0,.int (523) 0,sv s6 1147]⟩,⟨[]⟩⟩
noncomputable def ZB(P:Params):Obj:=⟨.type SL.s7174869446012820540x8,none,eS sa HQ (fK (cM 28) 0) 3 (.ref 672) (.none) (.none) (sv se 1123) (.ref 678) (.none) 0,⟨[]⟩⟩
noncomputable def ZC(P:Params):Obj:=⟨.type SL.s5856160107412720595x4,none,.fields ⟨[sv sk 1149,sv sM 1150,sv s6 1151,.int (564) 0,.int (1) 0,.int (0) 0,.int (0) 0,.int (3) 0,.ref 680,.bool true,.int (318) 0,.ref 681,.none,.ref 682,.ref 683,.ref 684,.int (1153) 0,.int (564) 0,sv s6 1154]⟩,⟨[]⟩⟩
noncomputable def ZD(P:Params):Obj:=⟨.type SL.s7174869446012820540x8,none,eS sk sM (fK (cM 28) 1) 3 (.none) (.none) (.none) (sv se 1123) (.ref 685) (.none) 0,⟨[]⟩⟩
noncomputable def ZE(P:Params):Obj:=⟨.type SL.s8101838861749082086x8,none,.fields ⟨[.ref 686,.none,.none,.none,sv sk 1156,.bool false]⟩,⟨[]⟩⟩
noncomputable def ZF(P:Params):Obj:=⟨.type SL.s5856160107412720595x4,none,.fields ⟨[sv CB 1181,sv HO 1182,sv s6 1183,.int (591) 0,.int (1) 0,.int (0) 0,.int (0) 0,.int (3) 0,.ref 710,.bool true,.int (318) 0,.ref 711,.none,.ref 712,.ref 713,.ref 714,.int (1190) 0,.int (591) 0,sv s6 1191]⟩,⟨[]⟩⟩
noncomputable def ZG(P:Params):Obj:=⟨.type SL.s7174869446012820540x8,none,eS CB HO (fK (cM 28) 5) 3 (.none) (.none) (.none) (sv se 1123) (.ref 715) (.none) 0,⟨[]⟩⟩
noncomputable def ZH(P:Params):Obj:=⟨.type SL.s5856160107412720595x4,none,.fields ⟨[sv CA 1193,sv sZ 1194,sv s6 1195,.int (618) 0,.int (1) 0,.int (0) 0,.int (0) 0,.int (3) 0,.ref 717,.bool true,.int (318) 0,.ref 718,.none,.ref 719,.ref 720,.ref 721,.int (1201) 0,.int (618) 0,sv s6 1202]⟩,⟨[]⟩⟩
noncomputable def ZI(P:Params):Obj:=⟨.type SL.s7174869446012820540x8,none,eS CA sZ (fK (cM 28) 6) 3 (.none) (.none) (.none) (sv se 1123) (.ref 722) (.none) 0,⟨[]⟩⟩
noncomputable def ZJ(P:Params):Obj:=⟨.type SL.s5856160107412720595x4,none,.fields ⟨[sv xO 1221,sv HT 1222,sv s6 1223,.int (765) 0,.int (1) 0,.int (0) 0,.int (0) 0,.int (3) 0,.ref 739,.bool true,.int (318) 0,.ref 740,.none,.ref 741,.ref 742,.ref 743,.int (1225) 0,.int (765) 0,sv s6 1226]⟩,⟨[]⟩⟩
noncomputable def ZK(P:Params):Obj:=⟨.type SL.s7174869446012820540x8,none,eS xO HT (fK (cM 28) 9) 3 (.none) (.none) (.none) (sv se 1123) (.ref 744) (.none) 0,⟨[]⟩⟩
noncomputable def ZL(P:Params):Obj:=⟨.type SL.s5856160107412720595x4,none,.fields ⟨[sv xP 1228,sv HU 1229,sv s6 1230,.int (768) 0,.int (1) 0,.int (0) 0,.int (0) 0,.int (3) 0,.ref 746,.bool true,.int (318) 0,.ref 747,.none,.ref 748,.ref 749,.ref 750,.int (1233) 0,.int (768) 0,sv s6 1234]⟩,⟨[]⟩⟩
noncomputable def ZM(P:Params):Obj:=⟨.type SL.s7174869446012820540x8,none,eS xP HU (fK (cM 28) 10) 3 (.none) (.none) (.none) (sv se 1123) (.ref 751) (.none) 0,⟨[]⟩⟩
noncomputable def ZO(P:Params):Obj:=⟨.type SL.s14018661285674007319x4,none,.dict ⟨[de P si 1132 (sv se 1123),de P sd 1136 (.int (521) 1135),de P sa 1148 (.ref 679),de P sk 1156 (.ref 687),de P [112,117,115,104,95,116,111,107,101,110] 1164 (.ref 694),de P [112,117,115,104,95,115,111,117,114,99,101] 1173 (.ref 702),de P [112,111,112,95,115,111,117,114,99,101] 1180 (.ref 709),de P CB 1192 (.ref 716),de P CA 1203 (.ref 723),de P [115,111,117,114,99,101,104,111,111,107] 1211 (.ref 730),de P [101,114,114,111,114,95,108,101,97,100,101,114] 1220 (.ref 738),de P xO 1227 (.ref 745),de P xP 1235 (.ref 752),de P s8 1256 (.ref 753),de P [95,95,100,105,99,116,95,95] 1258 (.ref 756),de P HZ 1260 (.ref 757),de P sO 1261 (.none)]⟩ 4,⟨[]⟩⟩
noncomputable def ZP(P:Params):Obj:=⟨.type SL.s17162191345867700912x4,none,.cls {name:=⟨⟨uV⟩⟩,bases:=[.type SL.s2742458400755230247x6],mro:=[.ref 755,.type SL.s2742458400755230247x6],ns:=754,qualname:=⟨⟨uV⟩⟩,hasDict:=true,slotNames:=[],subclasses:=[],abstract:=false,collection:=none,hasDel:=false},⟨[none,none,(some (sv uV 1125)),(some (sv uV 1133)),(some (.builtin SL.s11443829558043349243x14)),(some (.bool true))]⟩⟩
noncomputable def ZQ(P:Params):Obj:=⟨.type SL.s2766695959194262286x5,none,.seq ⟨[.bool false,.bool true]⟩ 0,⟨[]⟩⟩
noncomputable def ZR(P:Params):Obj:=⟨.type SL.s5856160107412720595x4,none,.fields ⟨[sv uW 1264,sv uW 1265,sv s6 1266,.int (773) 0,.int (3) 0,.int (0) 0,.int (0) 0,.int (3) 0,.ref 761,.bool true,.int (318) 0,.ref 762,.none,.ref 763,.ref 764,.ref 765,.int (1271) 0,.int (773) 0,sv s6 1272]⟩,⟨[]⟩⟩
noncomputable def ZS(P:Params):Obj:=⟨.type SL.s7174869446012820540x8,none,eS uW uW (cM 29) 3 (.ref 760) (.none) (.none) (sv se 1123) (.ref 766) (.none) 0,⟨[]⟩⟩
noncomputable def ZT(P:Params):Obj:=⟨.type SL.s5856160107412720595x4,none,.fields ⟨[sv uZ 1274,sv uZ 1275,sv s6 1276,.int (781) 0,.int (1) 0,.int (0) 0,.int (0) 0,.int (3) 0,.ref 768,.bool true,.int (318) 0,.ref 769,.none,.ref 770,.ref 771,.ref 772,.int (1278) 0,.int (781) 0,sv s6 1279]⟩,⟨[]⟩⟩
noncomputable def ZU(P:Params):Obj:=⟨.type SL.s7174869446012820540x8,none,eS uZ uZ (cM 30) 3 (.none) (.none) (.none) (sv se 1123) (.ref 773) (.none) 0,⟨[]⟩⟩
noncomputable def ZV(P:Params):Obj:=⟨.type SL.s11030030927630378310x26,none,.fields ⟨[.builtin SL.s9858327723941210770x17,.ref 72]⟩,⟨[]⟩⟩
noncomputable def ZW(P:Params):Obj:=⟨.type SL.s5856160107412720595x4,none,.fields ⟨[sv uX 1284,sv uX 1285,sv s6 1286,.int (785) 0,.int (1) 0,.int (0) 0,.int (0) 0,.int (3) 0,.ref 776,.bool true,.int (318) 0,.ref 777,.none,.ref 778,.ref 779,.ref 780,.int (1288) 0,.int (785) 0,sv s6 1289]⟩,⟨[]⟩⟩
noncomputable def ZX(P:Params):Obj:=⟨.type SL.s7174869446012820540x8,none,eS uX uX (cM 33) 3 (.none) (.none) (.none) (sv se 1123) (.ref 781) (.none) 0,⟨[]⟩⟩
noncomputable def ZY(P:Params):Obj:=⟨.type SL.s5856160107412720595x4,none,.fields ⟨[sv sn 1293,sv sn 1294,sv s6 1295,.int (792) 0,.int (2) 0,.int (0) 0,.int (0) 0,.int (3) 0,.ref 783,.bool true,.int (318) 0,.ref 784,.none,.none,.none,.ref 785,.int (1296) 0,.int (792) 0,sv s6 1297]⟩,⟨[]⟩⟩
noncomputable def ZZ(P:Params):Obj:=⟨.type SL.s7174869446012820540x8,none,eS sn sn (cM 35) 3 (.none) (.none) (.none) (sv sf 1291) (.ref 786) (.none) 0,⟨[]⟩⟩
noncomputable def aA0(P:Params):Obj:=⟨.type SL.s5856160107412720595x4,none,.fields ⟨[sv sH 1299,sv sH 1300,sv s6 1301,.int (802) 0,.int (1) 0,.int (0) 0,.int (0) 0,.int (3) 0,.ref 788,.bool true,.int (318) 0,.ref 789,.none,.none,.none,.ref 790,.int (1302) 0,.int (802) 0,sv s6 1303]⟩,⟨[]⟩⟩
noncomputable def aA1(P:Params):Obj:=⟨.type SL.s7174869446012820540x8,none,eS sH sH (cM 36) 3 (.none) (.none) (.none) (sv sf 1291) (.ref 791) (.none) 0,⟨[]⟩⟩
noncomputable def aA2(P:Params):Obj:=⟨.type SL.s5856160107412720595x4,none,.fields ⟨[sv sI 1305,sv sI 1306,sv s6 1307,.int (812) 0,.int (1) 0,.int (0) 0,.int (0) 0,.int (3) 0,.ref 793,.bool true,.int (318) 0,.ref 794,.none,.none,.none,.ref 795,.int (1308) 0,.int (812) 0,sv s6 1309]⟩,⟨[]⟩⟩
noncomputable def aA3(P:Params):Obj:=⟨.type SL.s7174869446012820540x8,none,eS sI sI (cM 37) 3 (.none) (.none) (.none) (sv sf 1291) (.ref 796) (.none) 0,⟨[]⟩⟩
noncomputable def aA4(P:Params):Obj:=⟨.type SL.s5856160107412720595x4,none,.fields ⟨[sv sN 1311,sv sN 1312,sv s6 1313,.int (820) 0,.int (2) 0,.int (0) 0,.int (0) 0,.int (3) 0,.ref 798,.bool true,.int (318) 0,.ref 799,.none,.ref 800,.ref 801,.ref 802,.int (1318) 0,.int (820) 0,sv s6 1319]⟩,⟨[]⟩⟩
noncomputable def aA5(P:Params):Obj:=⟨.type SL.s7174869446012820540x8,none,eS sN sN (cM 38) 3 (.none) (.none) (.none) (sv sf 1291) (.ref 803) (.none) 0,⟨[]⟩⟩
noncomputable def aA6(P:Params):Obj:=⟨.type SL.s5856160107412720595x4,none,.fields ⟨[sv sw 1321,sv sw 1322,sv s6 1323,.int (827) 0,.int (2) 0,.int (0) 0,.int (0) 0,.int (3) 0,.ref 805,.bool true,.int (318) 0,.ref 806,.none,.ref 807,.ref 808,.ref 809,.int (1326) 0,.int (827) 0,sv s6 1327]⟩,⟨[]⟩⟩
noncomputable def aA7(P:Params):Obj:=⟨.type SL.s7174869446012820540x8,none,eS sw sw (cM 39) 3 (.none) (.none) (.none) (sv sf 1291) (.ref 810) (.none) 0,⟨[]⟩⟩
noncomputable def aA8(P:Params):Obj:=⟨.type SL.s5856160107412720595x4,none,.fields ⟨[sv [108,97,119] 1329,sv [108,97,119] 1330,sv s6 1331,.int (829) 0,.int (1) 0,.int (0) 0,.int (0) 0,.int (3) 0,.ref 812,.bool true,.int (318) 0,.ref 813,.none,.none,.none,.ref 814,.int (1332) 0,.int (829) 0,sv s6 1333]⟩,⟨[]⟩⟩
noncomputable def aA9(P:Params):Obj:=⟨.type SL.s7174869446012820540x8,none,eS [108,97,119] [108,97,119] (cM 40) 3 (.none) (.none) (.none) (sv sf 1291) (.ref 815) (.none) 0,⟨[]⟩⟩
noncomputable def aX(P:Params):KT:=(.node (some (o0 P)) (.node none (.node (some (o3 P)) (.node none (.node none (.node none (.node none (.node none (.node none .nil (.node (some (ZS P)) .nil .nil)) (.node (some (YN P)) .nil .nil)) .nil) .nil) (.node none (.node none (.node (some (YL P)) .nil .nil) .nil) (.node none (.node none (.node none (.node (some (YU P)) .nil .nil) (.node (some (aA8 P)) .nil .nil)) (.node none (.node (some (ZE P)) .nil .nil) .nil)) (.node none .nil (.node none (.node (some (ZL P)) .nil .nil) .nil))))) (.node none (.node none (.node (some (YB P)) (.node none (.node none .nil (.node (some (ZV P)) .nil .nil)) .nil) .nil) (.node none (.node none .nil (.node none (.node (some (ZB P)) .nil .nil) .nil)) .nil)) (.node none (.node none (.node none (.node none .nil (.node (some (aA0 P)) .nil .nil)) .nil) .nil) .nil))) (.node none (.node none (.node none (.node (some (YA P)) .nil .nil) (.node none (.node none (.node none .nil (.node (some (aA4 P)) .nil .nil)) .nil) .nil)) (.node (some (XV P)) (.node none (.node none (.node none .nil (.node (some (ZZ P)) .nil .nil)) (.node (some (YS P)) .nil .nil)) (.node none .nil (.node none (.node (some (ZI P)) .nil .nil) .nil))) (.node (some (YH P)) .nil (.node none .nil (.node none (.node (some (ZP P)) .nil .nil) .nil))))) (.node none (.node none (.node none .nil (.node none .nil (.node none (.node (some (ZF P)) .nil .nil) .nil))) (.node none (.node none (.node none .nil (.node (some (aA7 P)) .nil .nil)) .nil) (.node none (.node none (.node (some (YX P)) .nil .nil) .nil) .nil))) (.node (some (XX P)) .nil .nil)))) (.node none (.node none (.node none .nil (.node none .nil (.node (some (YG P)) .nil .nil))) (.node none (.node none .nil (.node none .nil (.node none .nil (.node none (.node (some (ZK P)) .nil .nil) .nil)))) .nil)) (.node none (.node none (.node none (.node none (.node none (.node none .nil (.node (some (ZT P)) .nil .nil)) (.node (some (YO P)) .nil .nil)) .nil) .nil) (.node (some (XW P)) (.node (some (YD P)) .nil .nil) (.node (some (YJ P)) (.node none (.node none (.node (some (YV P)) .nil .nil) .nil) .nil) (.node none (.node (some (YM P)) .nil .nil) .nil)))) (.node none (.node none (.node none (.node none (.node none .nil (.node (some (ZW P)) .nil .nil)) (.node (some (YR P)) .nil .nil)) .nil) (.node none (.node none .nil (.node none (.node (some (ZC P)) .nil .nil) .nil)) .nil)) (.node none (.node none (.node none (.node none .nil (.node (some (aA3 P)) .nil .nil)) .nil) .nil) .nil))))) (.node (some (o2 P)) (.node (some (o4 P)) (.node none (.node none (.node none .nil (.node none (.node none .nil (.node none (.node (some (YZ P)) .nil .nil) .nil)) .nil)) (.node none .nil (.node (some (YF P)) (.node none (.node none .nil (.node (some (aA9 P)) .nil .nil)) .nil) (.node none .nil (.node none (.node (some (ZM P)) .nil .nil) .nil))))) (.node none (.node none (.node (some (YC P)) .nil .nil) (.node none .nil (.node none .nil (.node none (.node (some (ZJ P)) .nil .nil) .nil)))) (.node none (.node none (.node none (.node none .nil (.node (some (aA1 P)) .nil .nil)) .nil) .nil) (.node none .nil (.node none .nil (.node none (.node (some (ZQ P)) .nil .nil) .nil)))))) (.node none (.node none (.node none .nil (.node none (.node none (.node none .nil (.node (some (aA5 P)) .nil .nil)) .nil) .nil)) (.node none (.node none (.node none .nil (.node (some (YT P)) .nil .nil)) .nil) (.node (some (YI P)) .nil .nil))) (.node none (.node none (.node none (.node none .nil (.node (some (YQ P)) .nil .nil)) (.node none .nil (.node none (.node (some (ZG P)) .nil .nil) .nil))) (.node none .nil (.node none (.node none (.node (some (YY P)) .nil .nil) .nil) .nil))) (.node (some (XY P)) (.node none (.node none (.node none .nil (.node (some (aA2 P)) .nil .nil)) .nil) .nil) .nil)))) (.node none (.node none (.node none (.node none (.node (some (XZ P)) .nil .nil) .nil) (.node (some (XU P)) (.node none (.node none (.node none .nil (.node (some (ZY P)) .nil .nil)) .nil) (.node none .nil (.node none (.node (some (ZH P)) .nil .nil) .nil))) (.node none .nil (.node none .nil (.node none (.node (some (ZO P)) .nil .nil) .nil))))) (.node none (.node none .nil (.node none (.node none (.node none .nil (.node (some (aA6 P)) .nil .nil)) .nil) .nil)) .nil)) (.node none (.node none (.node none (.node none (.node none (.node none .nil (.node (some (ZU P)) .nil .nil)) (.node (some (YP P)) .nil .nil)) .nil) (.node none (.node none .nil (.node none (.node (some (ZA P)) .nil .nil) .nil)) .nil)) (.node none (.node (some (YE P)) .nil .nil) (.node none (.node none (.node none (.node (some (YW P)) .nil .nil) .nil) .nil) .nil))) (.node none (.node none (.node none (.node (some (YK P)) (.node none .nil (.node (some (ZX P)) .nil .nil)) .nil) .nil) (.node none (.node none .nil (.node none (.node (some (ZD P)) .nil .nil) .nil)) .nil)) (.node none .nil (.node none .nil (.node none .nil (.node none (.node (some (ZR P)) .nil .nil) .nil)))))))))
theorem aAa(P:Params):∀a∈fG,(aX P).get a=none:=by
 intro a h;have:a=46\/a=769\/a=813:=by simpa[fG] using h
 rcases this with rfl |rfl |rfl <;> rfl
noncomputable def bT:Nat->(Nat->Obj)->BT
 |0,_=> .nil
 |d+1,f=> .node (f 0) (bT d fun i=>f (2*i+1)) (bT d fun i=>f (2*i+2))
theorem DG:∀(d:Nat) (f:Nat->Obj) (i:Nat),i+1<2 ^ d->(bT d f).get i=some (f i)
 |0,f,i,h=>absurd h (by simp)
 |d+1,f,i,h=>by
  rw[Nat.pow_succ] at h;have e:=Nat.div_add_mod i 2;show (BT.node (f 0) (bT d fun i=>f (2*i+1)) (bT d fun i=>f (2*i+2))).get i=_;rw[BT.get_node];split
  ·next h0=>rw[h0]
  ·split
   ·next h1=>
    rw[h1] at e;rw[DG d _ _ (Nat.lt_of_mul_lt_mul_right (a:=2) (by rw[Nat.add_mul,Nat.mul_comm];show 2*(i / 2)+1+1<_;rw[e];exact h)),e]
   ·next h0 h1=>
    rw[(Nat.mod_two_eq_zero_or_one i).resolve_right h1] at e;cases q:i / 2 with
    |zero=>rw[q] at e;exact absurd e.symm h0
    |succ m=>
     rw[q] at e;rw[DG d _ _ (Nat.lt_of_mul_lt_mul_right (a:=2) (by rw[Nat.mul_comm];show 2*(m+1)+0<_;rw[e];exact Nat.lt_of_succ_lt h)),show 2*(m+1 - 1)+2=i from e]
noncomputable def hT(h:Heap):BT:=bT 10 fun i=>h.objs[i]?.getD default
theorem aAb {h:Heap}(hs:h.objs.size=n)(hn:n<1000):absHeap (hT h) n h.life=h:=by
 subst hs;obtain⟨⟨l⟩,life⟩:=h;unfold absHeap;congr 2;refine List.ext_getElem? fun i=> ?_;unfold BT.list
 by_cases hi:i<l.length
 ·have e:=DG 10 (fun i=>(⟨⟨l⟩,life⟩:Heap).objs[i]?.getD default) i (by simp at hn;omega)
  rw[List.getElem?_map,show (List.range (⟨⟨l⟩,life⟩:Heap).objs.size)[i]? =some i from List.getElem?_range hi,Option.map_some];show some ((hT ⟨⟨l⟩,life⟩).get i |>.getD default)=_;unfold hT;rw[e];simp[hi]
 ·simp[hi]
noncomputable def yN(ok:Thread->Bool)(stp:SharedT->Thread->Option (SharedT×Thread)):Nat->SharedT->Thread->Option SharedT
 |0,_,_=>none
 |n+1,s,t=>match through t with
  |true=>some s
  |false=>match ok t with
   |false=>none
   |true=>match stp s t with
    |some (s',t')=>yN ok stp n s' t'
    |none=>none
theorem KF{tb:String->Option Builtin}{p:Program}{w:World}{n₀:Nat}{ann:Option Value}:∀{n:Nat} {s s':SharedT} {t:Thread},
  yN (stepOk n₀ ann) (stepT (denote tb) p w) n s t=some s'->topRun tb p w n₀ ann n s.abs t=some s'.abs
 |0,_,_,_,h=>by cases h
 |n+1,s,s',t,h=>by
  unfold yN at h;unfold topRun;cases ht:through t with
  |true=>rw[ht] at h;cases h;rfl
  |false=>
   rw[ht] at h;cases hk:stepOk n₀ ann t with
   |false=>rw[hk] at h;cases h
   |true=>
    rw[hk] at h;cases hs:stepT (denote tb) p w s t with
    |none=>rw[hs] at h;cases h
    |some r=>obtain⟨s₂,t₂⟩:=r;rw[hs] at h;rw[stepT_spec hs];exact KF h
abbrev RW:=PySem.Challenge.rw_ik0071_01
abbrev RP:=RW.row.prog
noncomputable abbrev q0:=view RP [40]
noncomputable def KG:List Str:=(RP.main.scope.names.map (·.1)).filter fun x=>x != (⟨#[108,97,119]⟩:Str)
noncomputable def vO(s:Shared):List (Option Obj)×List (Option Obj)×Nat×Nat:=
 ((List.range 817).map (fun a=>match(aX (aWorld 1).params).get a with |none=>none |some _=>s.heap.get? a),fG.map s.heap.get?,s.heap.objs.size,s.toks)
noncomputable def vP(w:World):List (Option Obj)×List (Option Obj)×Nat×Nat:=((List.range 817).map (aX w.params).get,fG.map (fun u=>some (tableObj ⟨[]⟩)),817,1335)
theorem aAc{p q:Program}{loose:List Str}{Xt:Shared->Bool}{α:Type}{Yf:Shared->α}{Ya:World->α}{N:Nat}{iE dN tT sT oS fM st}(h1: @importEnds=iE)(h2: @denote=dN)(h3:treeTable=tT)(h4: @stepT=sT)(h5: @openSeen=oS)(h6: @fenceModules? =fM)(h7: @start=st)
  (h:∀w:World,((iE tT (opening p) w N (st (opening p)).1 (st (opening p)).2).bind (fM p)).bind (fun a=>(yN (stepOk a.heap.objs.size (a.heap.nsMap mainGlobals "__annotations__")) (sT (dN tT) p w) N
    ⟨hT a.heap,a.heap.objs.size,a.heap.life,a.gens,a.drawn,a.toks,a.os⟩ (topStub p)).map fun s=>
    (Nat.blt a.heap.objs.size 1000 && (a.heap.isNs mainGlobals && a.gens.size == 0) && (staticsOk (importedModules p.main.body) a.heap s.abs.heap && namesBound p s.abs.heap && gensDone s.abs && laidKept a.heap s.abs.heap),oS q loose (importedModules p.main.body) Xt true s.abs,Yf s.abs))
   =some (true,openGood q loose,Ya w)):LeftO p q loose Xt Yf Ya N:=fun w=>by
 subst h1 h2 h3 h4 h5 h6 h7;obtain⟨a,e1,e2⟩:=Option.bind_eq_some_iff.mp (h w);obtain⟨s,e3,e4⟩:=Option.map_eq_some_iff.mp e2;obtain⟨e5,e6⟩:=Prod.mk.inj e4;rw[Bool.and_eq_true,Bool.and_eq_true] at e5;obtain⟨⟨c1,c2⟩,c3⟩:=e5;have r:=KF e3
 rw[show SharedT.abs ⟨hT a.heap,a.heap.objs.size,a.heap.life,a.gens,a.drawn,a.toks,a.os⟩=a by
  unfold SharedT.abs;rw[aAb rfl (Nat.le_of_ble_eq_true c1)]] at r
 unfold openEnds;rw[show fencedOpening treeTable p w N=some a from e1];show (topFrom treeTable p w N a).map _=_;unfold topFrom;rw[c2];dsimp only;rw[r];show Option.map _ (match staticsOk (importedModules p.main.body) a.heap s.abs.heap && namesBound p s.abs.heap && gensDone s.abs && laidKept a.heap s.abs.heap with |true=>some s.abs |false=>none)=_;rw[c3];exact congrArg some e6
theorem aAd:LeftO RP q0 KG (fun s=>xlAt q0 [] s && recOk [] s) vO vP 5300:=aAc Fast.te10274390034422433532 Fast.te11892475500146522536 Fast.te14364793385576792824 Fast.te10156331382660048174 Fast.te4187177175401517315 Fast.te14289696077712309145 Fast.te1435165496053646825 fun w=>by kernel_rfl
noncomputable abbrev G0:PySem.Ctx:=⟨.builtin "claim.caller" {},none,none,[],none⟩
theorem aAe {t:Sem Fin}(hreg:s.asleep)(h:Sem.wp (model prog w) G0 t (fun fin u s'=>∃f,fin= .done f/\(R (.ok f) s'/\leftWithCleanup s'.gens=false)) (fun e u s'=>R (.error e) s'/\leftWithCleanup s'.gens=false) default s):
  ∃n r s' s'',runN (denote table) prog w n s ⟨t,.builtin "claim.caller" {},default,[]⟩= .halted (outcomeOf r) s'/\
   schedN (denote table) prog w n (.single s ⟨t,.builtin "claim.caller" {},default,[]⟩)= .halted (outcomeOf r) s'/\s'.forget=s''.forget/\R r s'':=by
 obtain⟨n,r,s₁,s₂,hs,hn,hfo,hR⟩:=wp_halts_full (M:=model prog w) (R:=R) hreg
  (Sem.wp_mono _ _ _ (fun fin u s' q=>by obtain⟨f,rfl,q⟩:=q;exact q) (fun u u u q=>q) _ _ h)
 exact⟨n,r,s₂,s₁,hn,hs,hfo,hR⟩
theorem aAf {free:Addr->Prop}{A:Prop}{B C D:Value->Prop}{G M W Z H:Addr->Obj->Prop}{N:ExcName->Obj->Prop}{U:ExcName->Prop}{S:Addr->Prop}(h:(∃v,r= .ok (.ret v)/\A/\B v/\C v/\(∀b o,G b o->M b o->W b o->Z b o)/\D v)\/∃e ob cls,r= .error (.ref e)/\H e ob/\N cls ob/\U cls/\S e/\∀b o,G b o->Z b o):
  (∃v,outcomeOf r= .done (.ret v)/\A/\B v/\C v/\(∀b o,G b o->¬free b->M b o->W b o->Z b o)/\D v)\/∃e ob cls,outcomeOf r= .uncaught (.ref e)/\H e ob/\N cls ob/\U cls/\S e/\∀b o,G b o->¬free b->Z b o:=by
 rcases h with⟨v,rfl,d1,d2,d3,d4,d5⟩ |⟨e,ob,cls,rfl,d1,d2,d3,d4,d5⟩
 ·exact .inl ⟨v,rfl,d1,d2,d3,fun b o y u=>d4 b o y,d5⟩
 ·exact .inr ⟨e,ob,cls,rfl,d1,d2,d3,d4,fun b o y u=>d5 b o y⟩
theorem aAg {c:ClaimW}{tree:List Value->Sem Fin}{free:Addr->Prop}{gens:Prop}{kept:Heap->Prop}(hz:s.asleep)(hgens:s.gens= #[])(hspec:∀args,c.pre args=true->WData.layableAll args=true->
   ∀ord:List DictEntry->List DictEntry,(∀l,(ord l).Perm l)->
   ∃vs s₁,layAllW c.records (classAt s.heap) w.params ord args s=some (vs,s₁)/\
    Sem.wp (model c.prog w) G0 (tree vs) (fun fin u s'=>∃f,fin= .done f/\(c.Ends s args vs s₁ (.ok f) s'/\s'.os=s.os/\AllBare s'.gens/\kept s'.heap))
     (fun e u s'=>c.Ends s args vs s₁ (.error e) s'/\s'.os=s.os/\AllBare s'.gens/\kept s'.heap) default s₁):
  c.CallFrom (fun vs=>⟨tree vs,.builtin "claim.caller" {},default,[]⟩) w free gens kept s:=by
 intro args hpre hlay ord hord;refine Classical.byContradiction fun zz=> ?_;obtain⟨vs,s₁,hlaid,hcode⟩:=hspec args hpre hlay ord hord;have hal:=layAllW_rest _ _ _ hlaid
 obtain⟨k,r,s',s'',hrun,hsched,hfo,hcase,hos,hkp⟩:=aAe (prog:=c.prog) (w:=w) (t:=tree vs) (s:=s₁)
  (R:=fun r s'=>c.Ends s args vs s₁ r s'/\s'.os=s.os/\kept s'.heap)
  (Shared.asleep_of_life hal.2.2.2 hz)
  (Sem.wp_mono _ _ _ (by
   rintro fin _ s' ⟨f,e,h1,h2,h3,h4⟩
   exact⟨f,e,⟨h1,h2,h4⟩,leftWithCleanup_false_of_bare h3⟩) (by
   rintro e _ s' ⟨h1,h2,h3,h4⟩
   exact⟨⟨h1,h2,h4⟩,leftWithCleanup_false_of_bare h3⟩) _ _ hcode)
 obtain⟨eh,_,_,eo,_⟩:=Shared.forget_eq hfo;have hcase:=hcase.congr eh;have hkp:kept s'.heap:=by first |exact eh▸hkp | (rw[eh] at hkp;exact hkp) | (rw[<-eh] at hkp;exact hkp)
 rw[<-eo] at hos;have hlife:s'.heap.life=s.heap.life:=(runN_life _ _ _ hrun).trans hal.2.2.2;refine zz ⟨vs,s₁,hlaid,k,_,s',hsched,aAf hcase,(fun u i x hx=>by rw[hgens] at hx;simp at hx),hkp,by rw[hlife],Shared.rest_eq hos⟩
abbrev KH(q:Program)(loose:List Str)(XP:(Str->Option Value)->Heap->Prop){α:Type}(Yf:Shared->α)(Ya:World->α)(r:RowW)(d:DefRec)(kwd:List (Str×Expr)):Prop:=
 ∀(w:World) (s₀ s₁:Shared) (mg mb:Str->Option Value),Ground q loose r.records XP w s₀ mg mb s₁.heap->Yf s₀=Ya w->∀(a:Addr) (o:Obj) (pm cd doc dV kV:Value),s₁.heap.get? a=some o->
  o.data= .func {docDef d.name d.params d.body d.scope pm cd doc with defaults:=dV,kwdefaults:=kV}->s₁.heap.CodeRec cd d.name->Dflts mg s₁.heap d.params kwd dV kV->mg d.name=some (.ref a)->s₁.gens= #[]->
  ∀(args:List WData) (vals:List Value) (as:List Addr),Laid r.records w s₀ s₁ args vals as->r.claim.pre args=true->WData.layableAll args=true->ReadsAllW r.records (classAt s₀.heap) s₁.heap vals args as->WellAll w.params s₁.heap vals args->(∀a∈as,(a == sysModules)=false)->
   wpCode (model r.prog w) (G0.enter (.call (.ref a) ⟨vals,[]⟩) none default)
    (fun res s'=>(∀f,res= .ok f->∃v,f= .ret v)/\GoodWG r.claim (classAt s₀.heap) (ExcName.means s₀.heap) args s₁ res s') default s₁
theorem aAh{r:OpenRow}{q:Program}{loose:List Str}{Xt:Shared->Bool}{XP:(Str->Option Value)->Heap->Prop}{α:Type}{Yf:Shared->α}{Ya:World->α}{d:DefRec}{kwd:List (Str×Expr)}{N:Nat}
  (left:LeftO r.prog q loose Xt Yf Ya N)
  (hX:∀s,Xt s=true->XP (s.heap.nsMap mainGlobals) s.heap)(hXk:∀mg h h',XP mg h->(∀b o,h.get? b=some o->h'.get? b=some o)->XP mg h')
  (hdef:defOf q r.name=some (d,kwd))(hp:r.prog.theDef r.name=some (d.params,d.body,d.scope))(hk:kwWritten? d.params.kwonlyargs d.params.kw_defaults=some kwd)(hRf:∀s,Xt s=true->RecFacts r.records s.heap)(hwr:(!r.writes || r.records.isEmpty)=true)
  (k1:r.wellSaid=true)(ok:(chainsOk q && opensWell r.prog && (frees r.toRowW && r.within.isEmpty))=true)(hb:r.prog.bare)(hw:r.toRowW.promised)
  (call:KH q loose XP Yf Ya r.toRowW d kwd):r.Holds:=by
 refine⟨k1,hw,?_⟩;have ok:=Bool.and_eq_true_iff.mp ok;have o1:=(Bool.and_eq_true_iff.mp ok.1).2;have hch:=(Bool.and_eq_true_iff.mp ok.1).1;have k5:=Bool.and_eq_true_iff.mp ok.2;have k6:=k5.2;have fp:=frees_parts k5.1;refine⟨⟨hb,o1,by show r.makers.map _=[];rw[fp.2.2.2.2];rfl⟩,hw.witness,fun w=>⟨(left.behind hX hch w).1,fun s' hs'=> ?_⟩⟩;refine Classical.byContradiction fun zz=> ?_;obtain⟨s₀,hf,hg0,s,hT,hz,hgens,hg,G00,y⟩:=(left.behind (XP:=fun mg h=>XP mg h/\RecFacts r.records h) (fun s hs=>⟨hX s hs,hRf s hs⟩) hch w).2 s' hs';have G0':Ground q loose [] XP w s (s.heap.nsMap mainGlobals) (s.heap.nsMap builtinsNs) s.heap:=⟨G00.T,G00.B,G00.D,G00.TE,G00.TD,G00.W,G00.X.1,G00.cls,G00.has,G00.apart,G00.once,G00.K⟩;have RF:=G00.X.2;have hT':=hT
 refine zz ⟨s₀,hf,hg0,s,hT,(fun n hn=>by
  obtain rfl:n=r.name:=by split at hn <;> simp_all
  exact pinned_of_view hg G0' hdef hp hk),RF.1,RF.2.1,?_⟩
 have hgens:s.gens= #[]:=Array.eq_empty_of_size_eq_zero (beq_iff_eq.mp hgens);have G:Ground q loose r.records XP w s _ _ s.heap:=RF.ground G0';refine aAg (c:=r.toRowW.claim) hz hgens fun args hpre hlay ord hord=> ?_;refine Classical.byContradiction fun zz=> ?_;obtain⟨⟨vs,s₁⟩,hlaid⟩:=Option.isSome_iff_exists.mp (layAllW_isSome (P:=w.params) (ord:=ord) G.has args r.args s (pre_splitW hpre).1);have keeps:=layAllW_keeps _ _ _ hlaid;have hal:=layAllW_rest _ _ _ hlaid;obtain⟨as,hrd,hin,hold⟩:=reads_layAllW hord _ _ _ hlaid hlay s₁.heap (fun u u e=>e);have L:Laid r.records w s s₁ args vs as:=⟨⟨ord,hord,hlaid⟩,hrd,hin,hold,keeps,hal.1.trans hgens,hal.2.2.1⟩;have G₁:=G.keeps hXk keeps;obtain⟨a,o,pm,cd,doc,dV,kV,h1,h2,h3,h4,h5⟩:=G₁.fn hdef;have low:=G.low;have hh:=call w s s₁ _ _ G₁ y a o pm cd doc dV kV h2 h3 h4 h5 (defOf_name hdef▸h1) L.gens args vs as L hpre hlay L.reads L.well (L.low low);have hi:=ident_freeW fp.2.1 fp.2.2.1 fp.2.2.2.1;have hwi:r.toRowW.claim.within=[]:=List.isEmpty_iff.mp k6;refine zz ⟨vs,s₁,hlaid,?_⟩;clear zz
 have fin:∀res s',GoodWG r.toRowW.claim (classAt s.heap) (ExcName.means s.heap) args s₁ res s'->r.toRowW.claim.Ends s args vs s₁ res s'/\s'.os=s.os/\AllBare s'.gens/\(r.writes=true->namesKept r.prog r.keeps s.heap s'.heap/\∀x∈r.records,∀a,classAt s.heap x.1=some a->recordClass s'.heap a x.1 (x.2.map (·.1))=true):=fun res s' g=>by
  have z:=g.laid (c:=r.toRowW.claim) fp.1 hwi hi L;exact⟨z.1,z.2.1,z.2.2,fun q=>⟨namesKept_of hT' hg r.keeps keeps g.2.1.old,noTable hwr q⟩⟩
 show Sem.wp _ _ (nsGet mainNs r.name>>= _) _ _ _ _;rw[Sem.wp_bind'];refine Eq.mpr (Sem.wp_nsGet (a:=mainNs) _ _ _ _ _ G₁.T.g _ _) ?_;rw[h1];show Sem.wp _ _ (PySem.call (.ref a) vs>>= _) _ _ _ _;rw[Sem.wp_bind'];show Sem.wp _ _ (Sem.bind _ _) _ _ _ _;rw[Sem.wp_bind];show Sem.wp _ _ (Sem.call _ _ _ _ _) _ _ _ _;rw[Sem.wp_call];refine wpCode_mono (fun res s' g=> ?_) hh;cases res with
 |error e=>exact(fin _ _ g.2)
 |ok f=>
  obtain⟨v,rfl⟩:=g.1 f rfl;exact⟨_,rfl,fin _ _ g.2⟩
abbrev RR:OpenRow:=RW.row
noncomputable def dL:DefRec:=⟨(sD (cM 40)).2.2.2.2.2.2.2.2,DF (cM 40),bF (cM 40),kI (cM 40),yK (cM 40)⟩
theorem c0:RW.wellSaid=true:=(congrFun Fast.te9446332074065402090 _).trans (by decide+kernel)
theorem c1:defOf q0 RR.name=some (dL,[]):=by kernel_rfl
theorem c2:RR.prog.theDef RR.name=some (dL.params,dL.body,dL.scope):=by kernel_rfl
theorem c3:kwWritten? dL.params.kwonlyargs dL.params.kw_defaults=some []:=by kernel_rfl
theorem c5:(chainsOk q0 && opensWell RR.prog && (frees RR.toRowW && RR.toRowW.within.isEmpty))=true:=by decide+kernel
theorem c6:RR.prog.bare:=⟨rfl,rfl,rfl,rfl,rfl,by decide+kernel⟩
theorem c7:RR.toRowW.promised:=by w_witness2
noncomputable def KI:List Nat:=[108,101,110]
noncomputable def DH:String:=sE KI rfl
theorem KJ:"len"=DH:=cA KI rfl
noncomputable def KK:List Nat:=[105,110,116,46,95,95,103,101,95,95]
noncomputable def yO:String:=sE KK rfl
theorem KL:"int.__ge__"=yO:=cA KK rfl
noncomputable def KM:List Nat:=[105,110,116,46,95,95,108,116,95,95]
noncomputable def yP:String:=sE KM rfl
theorem KN:"int.__lt__"=yP:=cA KM rfl
noncomputable def KO:List Nat:=[105,110,116,46,95,95,108,101,95,95]
noncomputable def DI:String:=sE KO rfl
theorem aAi:"int.__le__"=DI:=cA KO rfl
noncomputable def KQ:List Nat:=[105,110,116,46,95,95,103,116,95,95]
noncomputable def DJ:String:=sE KQ rfl
theorem aAj:"int.__gt__"=DJ:=cA KQ rfl
noncomputable def KR:List Nat:=[105,110,116,46,95,95,101,113,95,95]
noncomputable def vQ:String:=sE KR rfl
theorem aAk:"int.__eq__"=vQ:=cA KR rfl
noncomputable def KS:List Nat:=[105,110,116,46,95,95,110,101,95,95]
noncomputable def qJ:String:=sE KS rfl
theorem aAl:"int.__ne__"=qJ:=cA KS rfl
noncomputable def KU:List Nat:=[105,110,116,46,95,95,97,100,100,95,95]
noncomputable def yQ:String:=sE KU rfl
theorem aAm:"int.__add__"=yQ:=cA KU rfl
noncomputable def KV:List Nat:=[105,110,116,46,95,95,115,117,98,95,95]
noncomputable def yR:String:=sE KV rfl
theorem aAn:"int.__sub__"=yR:=cA KV rfl
noncomputable def KW:List Nat:=[105,110,116,46,95,95,109,111,100,95,95]
noncomputable def lV:String:=sE KW rfl
theorem aAo:"int.__mod__"=lV:=cA KW rfl
noncomputable def KX:List Nat:=[105,110,116,46,95,95,102,108,111,111,114,100,105,118,95,95]
noncomputable def yS:String:=sE KX rfl
theorem aAp:"int.__floordiv__"=yS:=cA KX rfl
noncomputable def KY:List Nat:=[105,110,116,46,95,95,110,101,103,95,95]
noncomputable def DK:String:=sE KY rfl
theorem aAq:"int.__neg__"=DK:=cA KY rfl
noncomputable def KZ:List Nat:=[115,116,114,46,95,95,103,101,116,105,116,101,109,95,95]
noncomputable def yT:String:=sE KZ rfl
theorem LA:"str.__getitem__"=yT:=cA KZ rfl
noncomputable def LC:List Nat:=[115,116,114,46,95,95,99,111,110,116,97,105,110,115,95,95]
noncomputable def LD:String:=sE LC rfl
theorem aAr:"str.__contains__"=LD:=cA LC rfl
noncomputable def LE:List Nat:=[115,116,114,46,95,95,97,100,100,95,95]
noncomputable def LF:String:=sE LE rfl
theorem LG:"str.__add__"=LF:=cA LE rfl
noncomputable def LH:List Nat:=[115,116,114,46,95,95,108,116,95,95]
noncomputable def vR:String:=sE LH rfl
theorem aAs:"str.__lt__"=vR:=cA LH rfl
noncomputable def LI:List Nat:=[115,116,114,46,95,95,103,116,95,95]
noncomputable def vS:String:=sE LI rfl
theorem aAt:"str.__gt__"=vS:=cA LI rfl
noncomputable def LJ:List Nat:=[108,105,115,116,46,95,95,105,110,105,116,95,95]
noncomputable def DL:String:=sE LJ rfl
theorem LK:"list.__init__"=DL:=cA LJ rfl
noncomputable def LL:List Nat:=[108,105,115,116,46,101,120,116,101,110,100,46,108,111,111,112]
noncomputable def kJ:String:=sE LL rfl
theorem nT:"list.extend.loop"=kJ:=cA LL rfl
noncomputable def LM:List Nat:=[115,116,114,46,106,111,105,110]
noncomputable def oV:String:=sE LM rfl
theorem LN:"str.join"=oV:=cA LM rfl
noncomputable def LO:List Nat:=[115,116,114,46,102,105,110,100]
noncomputable def DM:String:=sE LO rfl
theorem aAu:"str.find"=DM:=cA LO rfl
noncomputable def LP:List Nat:=[104,101,120]
noncomputable def DN:String:=sE LP rfl
theorem aAv:"hex"=DN:=cA LP rfl
noncomputable def LQ:List Nat:=[99,104,114]
noncomputable def yU:String:=sE LQ rfl
theorem aAw:"chr"=yU:=cA LQ rfl
noncomputable def LS:List Nat:=[116,117,112,108,101,46,95,95,99,111,110,116,97,105,110,115,95,95]
noncomputable def LU:String:=sE LS rfl
theorem aAx:"tuple.__contains__"=LU:=cA LS rfl
section
inductive TR where
 |l (n:Nat)
 |k (j:Nat)
noncomputable def TR.ev(K:Nat->Nat):TR->Nat
 | .l n=>n
 | .k j=>K j
noncomputable def TR.ok(i:Nat):TR->Bool
 | .l _=>true
 | .k j=>Nat.blt j i
inductive AV where
 |v (x:Value)
 |int (z:Int) (t:TR)
 |str (s:Str) (t:TR)
 |ref (a:TR)
noncomputable def AV.ev(A K:Nat->Nat):AV->Value
 | .v x=>x
 | .int z t=> .int z (t.ev K)
 | .str s t=> .str s (t.ev K)
 | .ref a=> .ref (a.ev A)
noncomputable def AV.ok(n i:Nat):AV->Bool
 | .v _=>true
 | .int _ t=>t.ok i
 | .str _ t=>t.ok i
 | .ref a=>a.ok n
noncomputable def cX(A K:Nat->Nat):List AV->List Value
 | []=>[]
 |a::l=>a.ev A K::cX A K l
noncomputable def bQ(n i:Nat):List AV->Bool
 | []=>true
 |a::l=>match a.ok n i with
  |true=>bQ n i l
  |false=>false
theorem TR.lcc {t:TR}(h:t.ok i=true)(hk:∀j,j<i->K' j=K j):t.ev K'=t.ev K:=by
 cases t with
 |l=>rfl
 |k j=>exact hk j (blt_true h)
theorem AV.lcc {a:AV}(h:a.ok n i=true)(ha:∀j,j<n->A' j=A j)(hk:∀j,j<i->K' j=K j):a.ev A' K'=a.ev A K:=by
 cases a with
 |v=>rfl
 |int z t=>exact congrArg (Value.int z) (TR.lcc h hk)
 |str s t=>exact congrArg (Value.str s) (TR.lcc h hk)
 |ref b=>exact congrArg Value.ref (TR.lcc h ha)
set_option tactic.hygienic true in
theorem rV{n i:Nat}{A K A' K':Nat->Nat}(ha:∀j,j<n->A' j=A j)(hk:∀j,j<i->K' j=K j):∀{l:List AV},bQ n i l=true->cX A' K' l=cX A K l
 | [],_=>rfl
 |a::l,h=>by
  unfold bQ at h;split at h
  ·rename_i q
   unfold cX;rw[AV.lcc q ha hk,rV ha hk h]
  ·cases h
theorem yV {l:List AV}(h:bQ n i l=true):cH (fun A K=>cX A K l) n i:=fun u u u u ha hk=>rV ha hk h
noncomputable def hV(id:String)(l:List AV)(v:Value)(n i:Nat):HF:=fun A K=>⟨.builtin id ⟨cX A K l,[]⟩,[],[],[],.ok (.ret v),0,n,i,900,none⟩
noncomputable def hI(id:String)(l:List AV)(x:Int)(n i:Nat):HF:=fun A K=>⟨.builtin id ⟨cX A K l,[]⟩,[],[],[],.ok (.ret (.int x (K i))),1,n,i,900,none⟩
noncomputable def hS(id:String)(l:List AV)(x:Str)(n i:Nat):HF:=fun A K=>⟨.builtin id ⟨cX A K l,[]⟩,[],[],[],.ok (.ret (.str x (K i))),1,n,i,900,none⟩
section
variable{prog:Program}{w:World}{kt:KT}
section
variable {B:Builtin}{l:List AV}
theorem jM {v:Value}(id':String)(hid:id'=id)(entry:entryFor table id'=some B)(hl:bQ n i l=true)(hg:∀A K,Gives (B ⟨cX A K l,[]⟩) (.val v)):aG (model prog w) kt (hV id l v n i):=XO (by rw[<-hid];exact entry) _ v n i (yV hl) hg
theorem qK {x:Int}(id':String)(hid:id'=id)(entry:entryFor table id'=some B)(hl:bQ n i l=true)(hg:∀A K,Gives (B ⟨cX A K l,[]⟩) (.int x)):aG (model prog w) kt (hI id l x n i):=XQ (by rw[<-hid];exact entry) _ x n i (yV hl) hg
theorem yW {x:Str}(id':String)(hid:id'=id)(entry:entryFor table id'=some B)(hx:x.length<=sizeLine)(hl:bQ n i l=true)(hg:∀A K,Gives (B ⟨cX A K l,[]⟩) (.str x)):aG (model prog w) kt (hS id l x n i):=XR (by rw[<-hid];exact entry) _ x hx n i (yV hl) hg
end
noncomputable def yX(b:Bool)(x:Int)(t:TR)(y:Int)(u:TR)(n i:Nat):HF:=hV yO [.int x t,.int y u] (.bool b) n i
theorem DO {x y:Int}{t u:TR}(h:decide (x>=y)=b)(hl:bQ n i [.int x t,.int y u]=true):aG (model prog w) kt (yX b x t y u n i):=
 jM _ KL F.entry_int_ge hl fun A K=>by subst h;exact gives_int_ge x y _ _
noncomputable def DP(b:Bool)(x:Int)(t:TR)(y:Int)(u:TR)(n i:Nat):HF:=hV yP [.int x t,.int y u] (.bool b) n i
theorem LV {x y:Int}{t u:TR}(h:decide (x<y)=b)(hl:bQ n i [.int x t,.int y u]=true):aG (model prog w) kt (DP b x t y u n i):=
 jM _ KN F.entry_int_lt hl fun A K=>by subst h;exact gives_int_lt x y _ _
noncomputable def yY(b:Bool)(x:Str)(t:TR)(y:Str)(u:TR)(n i:Nat):HF:=hV LD [.str x t,.str y u] (.bool b) n i
theorem DQ {x y:Str}{t u:TR}(h:(!(Builtin.Str.occurrences x y 0 x.length 1).isEmpty)=b)(hl:bQ n i [.str x t,.str y u]=true):aG (model prog w) kt (yY b x t y u n i):=
 jM _ aAr F.entry_str_contains hl fun A K=>by subst h;exact gives_str_contains x y _ _
noncomputable def vT(z:Str)(x:Str)(t:TR)(y:Str)(u:TR)(n i:Nat):HF:=hS LF [.str x t,.str y u] z n i
theorem DR {x y z:Str}{t u:TR}(hx:(x.length == 0)=false)(hy:(y.length == 0)=false)(h:x++y=z)(hz:z.length<=sizeLine)(hl:bQ n i [.str x t,.str y u]=true):aG (model prog w) kt (vT z x t y u n i):=
 yW _ LG F.entry_str_add hz hl fun A K=>by subst h;have g:=gives_str_add x y (t.ev K) (u.ev K);rw[hx,hy] at g;exact g
noncomputable def fX(x:Str)(t:TR)(n i:Nat):HF:=fun A K=>⟨.builtin DH ⟨cX A K [.str x t],[]⟩,[],[],[],.ok (.ret (.int (.ofNat x.length) (K (i+1)))),2,n,i,900,none⟩
theorem fL {x:Str}{t:TR}(hfit:¬(x.length:Int)>=2 ^ 63)(hl:bQ n i [.str x t]=true):aG (model prog w) kt (fX x t n i) where
 loc A K A' K' h1 h2:=by
  show HS.mk _ _ _ _ _ _ _ _ _ _=HS.mk _ _ _ _ _ _ _ _ _ _;rw[rV (l:=[.str x t]) (A:=A) (K:=K) (A':=A') (K':=K') (fun j hj=>h1 j hj) (fun j hj=>h2 j (Nat.lt_of_lt_of_le hj (Nat.le_add_right _ _))) hl,h2 (i+1) (Nat.lt_succ_self _)]
 ok A K Γ p s R hA hK hc hd h1 h2 h3 ht hs hk hp hi hl' _ _ hR:=by
  have m:Meets (Builtin.«len» ⟨[.str x (t.ev K)],[]⟩) (fun u R s=>R (.ok (.ret (.int x.length (s.toks+1)))) {s with toks:=s.toks+1+1}):=fun prog w A R s h=>
   wpAny_mono (wpAny_len_body (Q:=fun v s'=>R (.ok (.ret v)) s') (typeIs_str s x _) F.slot_str_len F.entry_str_len (F.args_str_len_1 _) (gives_str_len x _) (by lia) hfit h) (fun fin s' q=>by obtain⟨r,rfl,q⟩:=q;exact q) fun u u e=>e
  refine lA m (by rw[hc];exact eM (by rw[<-KJ];exact entry_len) _) ?_
  have z:=hR A (fun j=>if j=i+1 then s.toks+1 else K j) {s with toks:=s.toks+1+1} (fun u u=>rfl) (fun j hj=>if_neg (Nat.ne_of_lt (Nat.lt_succ_of_lt hj))) hA (fun j=>by
   show 1335<=(if j=i+1 then s.toks+1 else K j);split
   ·exact Nat.le_succ_of_le hk
   ·exact hK j) (mT (by lia))
  have q:(if i+1=i+1 then s.toks+1 else K (i+1))=s.toks+1:=if_pos rfl;show R (.ok (.ret (.int x.length (s.toks+1)))) _;have z':R (.ok (.ret (.int x.length (if i+1=i+1 then s.toks+1 else K (i+1))))) {s with toks:=s.toks+1+1}:=z;rw[q] at z';exact z'
noncomputable def qL:Option (Int×TR)->AV
 |none=> .v .none
 |some (z,t)=> .int z t
noncomputable def oZ:Option (Int×TR)->Option (Int×Nat)
 |none=>none
 |some (z,_)=>some (z,0)
noncomputable def vU(A K:Nat->Nat)(l u:Option (Int×TR)):Obj:=⟨.type SL.s4674234679698826739x5,none,.fields ⟨[(qL l).ev A K,(qL u).ev A K,.none]⟩,⟨[]⟩⟩
noncomputable def yZ(y:Str)(x:Str)(t:TR)(j:Nat)(l u:Option (Int×TR))(n i:Nat):HF:=fun A K=>⟨.builtin yT ⟨[.str x (t.ev K),.ref (A j)],[]⟩,[(j,vU A K l u)],[],[],.ok (.ret (.str y (K i))),1,n,i,900,none⟩
set_option tactic.hygienic true in
theorem LW {x y:Str}{t:TR}{l u:Option (Int×TR)}(hy:y.length<=sizeLine)(hj:j<n)(hl:bQ n i [.str x t,qL l,qL u]=true)(hm:((slicePicked x (oZ l) (oZ u) none).length == x.length)=false)(hp:((slicePicked x (oZ l) (oZ u) none).filterMap (x.cps[·]?)).toArray=y.cps):aG (model prog w) kt (yZ y x t j l u n i):=by
 unfold yZ;rw[<-LA]
 have hl':t.ok i=true/\(qL l).ok n i=true/\(qL u).ok n i=true:=by
  unfold bQ at hl;split at hl
  ·rename_i q;refine⟨q,?_⟩
   unfold bQ at hl;split at hl
   ·rename_i q;refine⟨q,?_⟩
    unfold bQ at hl;split at hl
    ·rename_i q;exact q
    ·cases hl
   ·cases hl
  ·cases hl
 refine XS x 0 j (oZ l) (oZ u) none (fun A K=>vU A K l u) y hy n i hj (fun K=>t.ev K) (fun A K=> ?_) ?_ (fun K K' h=>TR.lcc hl'.1 h) rfl hm hp
 ·have part:∀o:Option (Int×TR),∃o':Option (Int×Nat),(qL o).ev A K=partValue o'/\o'.map (·.1)=(oZ o).map (·.1):=fun o=>by
   cases o with
   |none=>exact⟨none,rfl,rfl⟩
   |some q=>exact⟨some (q.1,q.2.ev K),rfl,rfl⟩
  obtain⟨l',e1,e2⟩:=part l;obtain⟨u',e3,e4⟩:=part u;refine⟨l',u',none,?_,?_,e2,e4,rfl⟩
  ·show Value.type _=_
   rw[<-SL.e4674234679698826739x5]
  ·show Data.fields ⟨[_,_,_]⟩=_
   rw[e1,e3];rfl
 ·intro A K A' K' ha hk
  show vU A' K' l u=vU A K l u;unfold vU;rw[AV.lcc hl'.2.1 ha hk,AV.lcc hl'.2.2 ha hk]
noncomputable def dG:List (Str×TR)->List AV
 | []=>[]
 | (s,t)::l=> .str s t::dG l
theorem LY(A K:Nat->Nat):∀l:List (Str×TR),StrsAre (cX A K (dG l)) (l.map (·.1))
 | []=> .nil
 | (s,t)::l=> .cons s (t.ev K) (LY A K l)
noncomputable def rW(A K:Nat->Nat)(l:List AV):Obj:=⟨.type SL.s2766695959194262286x5,none,.seq ⟨cX A K l⟩ 0,⟨[]⟩⟩
noncomputable def LZ(b:Bool)(j:Nat)(l:List (Str×TR))(x:Str)(t:TR)(n i:Nat):HF:=fun A K=>
 ⟨.builtin LU ⟨[.ref (A j),.str x (t.ev K)],[]⟩,[(j,rW A K (dG l))],[],[],.ok (.ret (.bool b)),0,n,i,900,none⟩
theorem aAy {l:List (Str×TR)}{x:Str}{t:TR}(h:(l.map (·.1)).any (·== x)=b)(hj:j<n)(ht:t.ok i=true)(hl:bQ n i (dG l)=true):aG (model prog w) kt (LZ b j l x t n i) where
 loc A K A' K' h1 h2:=by
  show HS.mk _ _ _ _ _ _ _ _ _ _=HS.mk _ _ _ _ _ _ _ _ _ _;have h1':∀j,j<n->A' j=A j:=fun j hj=>h1 j hj;have h2':∀j,j<i->K' j=K j:=fun j hj=>h2 j hj;have e:rW A' K' (dG l)=rW A K (dG l):=by unfold rW;rw[rV h1' h2' hl]
  rw[h1' j hj,TR.lcc ht h2',e]
 ok A K Γ p s R hA hK hc hd h1 h2 h3 hT hs hk hp hi hl' _ _ hR:=by
  have ho:s.heap.get? (A j)=some (rW A K (dG l)):=hp _ (.head _)
  have m:Meets (Builtin.«tuple.__contains__» ⟨[.ref (A j),.str x (t.ev K)],[]⟩) (fun u R s=>s.heap.get? (A j)=some (rW A K (dG l))/\R (.ok (.ret (.bool b))) s):=fun prog w A₁ R s h=>
   tuple_contains_strs (items:=⟨cX A K (dG l)⟩) (ys:=l.map (·.1)) ⟨_,h.1,by show Value.type _=_;rw[<-SL.e2766695959194262286x5],_,rfl⟩ (LY A K l) (by subst b;exact h.2)
  refine lA m (by rw[hc];exact eM (by rw[<-aAx];exact F.entry_tuple_contains) _) ⟨ho,?_⟩;exact hR A K s (fun u u=>rfl) (fun u u=>rfl) hA hK (mT (Nat.le_refl _))
end
end
section
noncomputable abbrev PR:Program:=PySem.Challenge.pw_ik0071_01
noncomputable def cN(w:World)(g₀:Nat)(olds:List Nat)(ad tb:Nat->Nat)(hs:List HF)(f h:Nat)(c:Code)(bl:List (Code×Pos))(p:Pos)(d:Nat)(objs:List Obj):St:=
 run ⟨PR,w.params⟩ (eK PR w true) (eK PR w false) (aX w.params) g₀ (bG olds ad) (aC tb) f h hs ⟨c,none,none,bl,none⟩ p
  [bZ ⟨c,none,none,bl,none⟩ p d] d (kY c) (T0 objs) olds.length 0 [] [] [] []
noncomputable def aY(w:World)(g₀:Nat)(olds:List Nat)(ad tb:Nat->Nat)(hs:List HF)(f h:Nat)(c:Code)(t:Sem Fin)(bl:List (Code×Pos))(p:Pos)(d:Nat)(objs:List Obj):St:=
 run ⟨PR,w.params⟩ (eK PR w true) (eK PR w false) (aX w.params) g₀ (bG olds ad) (aC tb) f h hs ⟨c,none,none,bl,none⟩ p
  [bZ ⟨c,none,none,bl,none⟩ p d] d t (T0 objs) olds.length 0 [] [] [] []
abbrev aZ(w:World)(g₀:Nat)(olds:List Nat)(ad tb:Nat->Nat)(hs:List HF)(f h:Nat)(c:Code)(bl:List (Code×Pos))(p:Pos)(d:Nat)(objs:List Obj)(js:List Nat)(t:Sem Fin)(os:List Obj)(n:Nat):Prop:=
 dI (cN w g₀ olds ad tb hs f h c bl p d objs) js=dJ (cN w g₀ olds ad tb hs f h c bl p d objs) [] ⟨c,none,none,bl,none⟩ t (os.map some) [] n
abbrev aW(w:World)(g₀:Nat)(olds:List Nat)(ad tb:Nat->Nat)(hs:List HF)(f h:Nat)(c:Code)(t0:Sem Fin)(bl:List (Code×Pos))(p:Pos)(d:Nat)(objs:List Obj)(js:List Nat)(t:Sem Fin)(os:List Obj)(n:Nat):Prop:=
 dI (aY w g₀ olds ad tb hs f h c t0 bl p d objs) js=dJ (aY w g₀ olds ad tb hs f h c t0 bl p d objs) [] ⟨c,none,none,bl,none⟩ t (os.map some) [] n
abbrev eZ(w:World)(g₀:Nat)(olds:List Nat)(ad tb:Nat->Nat)(hs:List HF)(f h:Nat)(c:Code)(bl:List (Code×Pos))(p:Pos)(d:Nat)(objs:List Obj)(js:List Nat)(c1:Code)(os:List Obj)(n:Nat):Prop:=
 dI (cN w g₀ olds ad tb hs f h c bl p d objs) js=dJ (cN w g₀ olds ad tb hs f h c bl p d objs) [bZ ⟨c,none,none,bl,none⟩ p d] ⟨c,none,none,bl,none⟩ (.pure (.again c1)) (os.map some) [] n
abbrev fY(w:World)(g₀:Nat)(olds:List Nat)(ad tb:Nat->Nat)(hs:List HF)(f h:Nat)(c:Code)(t0:Sem Fin)(bl:List (Code×Pos))(p:Pos)(d:Nat)(objs:List Obj)(js:List Nat)(c1:Code)(os:List Obj)(n:Nat):Prop:=
 dI (aY w g₀ olds ad tb hs f h c t0 bl p d objs) js=dJ (aY w g₀ olds ad tb hs f h c t0 bl p d objs) [bZ ⟨c,none,none,bl,none⟩ p d] ⟨c,none,none,bl,none⟩ (.pure (.again c1)) (os.map some) [] n

structure aT(w:World)(s:Shared):Prop where
 top:lT (aX w.params) s.heap
 sz:817<=s.heap.objs.size
 tk:1335<=s.toks
theorem aT.ext (b:aT w s)(e:aJ m s s')(hm:∀a∈m,817<=a):aT w s':=
 ⟨b.top.ext e hm,Nat.le_trans b.sz e.size,Nat.le_trans b.tk e.toks⟩
noncomputable def At(s:Shared):List Nat->List Obj->Prop
 | [],_=>True
 |_::_,[]=>False
 |a::as,o::os=>s.heap.get? a=some o/\At s as os
theorem At.get:∀{as:List Nat} {os:List Obj},At s as os->∀(j a:Nat) (x:Obj),as[j]? =some a->os[j]? =some x->s.heap.get? a=some x
 | [],_,_,_,_,_,e,_=>by simp at e
 |_::_,[],h,_,_,_,_,_=>h.elim
 |a::as,o::os,h,0,_,_,e1,e2=>by cases e1;cases e2;exact h.1
 |a::as,o::os,h,j+1,_,_,e1,e2=>h.2.get j _ _ (by simpa using e1) (by simpa using e2)
structure dX(olds:List Nat)(ad:Nat->Nat)(s s':Shared)(js:List Nat)(os:List (Option Obj))(nn:Nat):Prop where
 ext:aJ olds s s'
 at_:∀(m j:Nat) (o:Obj),js[m]? =some j->os[m]? =some (some o)->s'.heap.get? (bG olds ad j)=some o
 new:∀j,olds.length<=j->j<nn->s.heap.objs.size<=bG olds ad j/\bG olds ad j<s'.heap.objs.size
 inj:∀j j',j<nn->j'<nn->bG olds ad j=bG olds ad j'->j=j'
theorem oW{T:BT}:∀{js:List Nat} {os:List (Option Obj)},oU T js=os->∀(m j:Nat) (o:Obj),js[m]? =some j->os[m]? =some (some o)->T.get j=some o
 | [],_,_,_,_,_,e,_=>by simp at e
 |j₀::js,os,h,m,j,o,e1,e2=>by
  subst h;cases m with
  |zero=>cases e1;injection e2
  |succ m=>exact oW (js:=js) rfl m j o (by simpa using e1) (by simpa[oU] using e2)
theorem nU(P:Params):∀a∈fG,(aX P).get a=none:=aAa P
section
variable{w:World}{s:Shared}{bl:List (Code×Pos)}{p:Pos}{c:Code}{R:Result->Shared->Prop}
section
variable {hs:List HF}
theorem MA {κ:List Fr}{tx:(Nat->Nat)->(Nat->Nat)->Sem Fin}{os:(Nat->Nat)->(Nat->Nat)->List (Option Obj)}(hE:∀ad tb,dI (cN w s.gens.size olds ad tb hs f h c bl p d objs) js=dJ (cN w s.gens.size olds ad tb hs f h c bl p d objs) κ Γx (tx ad tb) (os ad tb) [] nn)(hhs:∀hf∈hs,aG (model PR w) (aX w.params) hf)(B:aT w s)(ha:At s olds objs)(hlen:objs.length=olds.length)(hnd:olds.Nodup)(hlo:∀a∈olds,817<=a)(hd:frameCount bl<=d)(hd2:d<1000)(hR:∀ad tb px s',dX olds ad s s' js (os ad tb) nn->cR ⟨PR,w,aX w.params,s.heap,olds.length,s.gens,s.drawn,s.os,s.toks⟩ (lU R) κ Γx px (tx ad tb) s'):
  wpCode (model PR w) ⟨c,none,none,bl,none⟩ R p s:=by
 refine XM (nU _) olds objs d f h hs hlen (fun j a x e1 e2=>ha.get j a x e1 e2) hnd hlo B.top B.sz B.tk hd hd2 hhs fun ad tb=> ?_;have e:=hE ad tb;unfold dI dJ at e;injection e with e1 e2 e3 e4 e5 e6 e7 e8
 refine⟨e1,e8,fun s' F=> ?_⟩;show cR _ _ (cN w s.gens.size olds ad tb hs f h c bl p d objs).κ (cN w s.gens.size olds ad tb hs f h c bl p d objs).Γ (cN w s.gens.size olds ad tb hs f h c bl p d objs).p (cN w s.gens.size olds ad tb hs f h c bl p d objs).t s';rw[e2,e3,e4];refine hR ad tb _ s' ⟨F.ext e6,fun m j o q1 q2=>F.own j o (oW e5 m j o q1 q2),fun j h1 h2=>F.new j h1 (by show j<(cN w s.gens.size olds ad tb hs f h c bl p d objs).n;rw[e7];exact h2),fun j j' h1 h2 q=>F.inj j j' (by show j<(cN w s.gens.size olds ad tb hs f h c bl p d objs).n;rw[e7];exact h1) (by show j'<(cN w s.gens.size olds ad tb hs f h c bl p d objs).n;rw[e7];exact h2) q⟩
theorem cT {fl:(Nat->Nat)->(Nat->Nat)->Flow}{os:(Nat->Nat)->(Nat->Nat)->List (Option Obj)}(hE:∀ad tb,dI (cN w s.gens.size olds ad tb hs f h c bl p d objs) js=dJ (cN w s.gens.size olds ad tb hs f h c bl p d objs) [] Γx (.pure (.done (fl ad tb))) (os ad tb) [] nn)(hhs:∀hf∈hs,aG (model PR w) (aX w.params) hf)(B:aT w s)(ha:At s olds objs)(hlen:objs.length=olds.length)(hnd:olds.Nodup)(hlo:∀a∈olds,817<=a)(hd:frameCount bl<=d)(hd2:d<1000)(hR:∀ad tb s',dX olds ad s s' js (os ad tb) nn->R (.ok (fl ad tb)) s'):
  wpCode (model PR w) ⟨c,none,none,bl,none⟩ R p s:=MA hE hhs B ha hlen hnd hlo hd hd2 fun ad tb u s' q=>qI (hR ad tb s' q)
theorem kK {cx:(Nat->Nat)->(Nat->Nat)->Code}{os:(Nat->Nat)->(Nat->Nat)->List (Option Obj)}(hE:∀ad tb,dI (cN w s.gens.size olds ad tb hs f h c bl p d objs) js=dJ (cN w s.gens.size olds ad tb hs f h c bl p d objs) [bZ ⟨c,none,none,bl,none⟩ p d] ⟨c₁,none,none,bl,none⟩ (.pure (.again (cx ad tb))) (os ad tb) [] nn)(hq:∀ad tb,qD (cx ad tb)=true)(hhs:∀hf∈hs,aG (model PR w) (aX w.params) hf)(B:aT w s)(ha:At s olds objs)(hlen:objs.length=olds.length)(hnd:olds.Nodup)(hlo:∀a∈olds,817<=a)(hd:frameCount bl<=d)(hd2:d<1000)(hR:∀ad tb px s',dX olds ad s s' js (os ad tb) nn->wpCode (model PR w) ⟨cx ad tb,none,none,bl,none⟩ R px s'):
  wpCode (model PR w) ⟨c,none,none,bl,none⟩ R p s:=MA hE hhs B ha hlen hnd hlo hd hd2 fun ad tb px s' q=>KC (by rw[<-qE];exact hq ad tb) (hR ad tb px s' q)
end
end
section
variable{w:World}{s:Shared}{bl:List (Code×Pos)}{p:Pos}{c:Code}{t:Sem Fin}{R:Result->Shared->Prop}
section
variable {hs:List HF}
theorem zA {κ:List Fr}{tx:(Nat->Nat)->(Nat->Nat)->Sem Fin}{os:(Nat->Nat)->(Nat->Nat)->List (Option Obj)}(hE:∀ad tb,dI (aY w s.gens.size olds ad tb hs f h c t bl p d objs) js=dJ (aY w s.gens.size olds ad tb hs f h c t bl p d objs) κ Γx (tx ad tb) (os ad tb) [] nn)(hhs:∀hf∈hs,aG (model PR w) (aX w.params) hf)(B:aT w s)(ha:At s olds objs)(hlen:objs.length=olds.length)(hnd:olds.Nodup)(hlo:∀a∈olds,817<=a)(hd:frameCount bl<=d)(hR:∀ad tb px s',dX olds ad s s' js (os ad tb) nn->cR ⟨PR,w,aX w.params,s.heap,olds.length,s.gens,s.drawn,s.os,s.toks⟩ (lU R) κ Γx px (tx ad tb) s'):
  ∃r s',Runs (model PR w) ⟨c,none,none,bl,none⟩ p t [] s (.ret r) s'/\R r s':=by
 refine vM (nU _) t olds objs d f h hs hlen (fun j a x e1 e2=>ha.get j a x e1 e2) hnd hlo B.top B.sz B.tk hd hhs fun ad tb=> ?_;have e:=hE ad tb;unfold dI dJ at e;injection e with e1 e2 e3 e4 e5 e6 e7 e8
 refine⟨e1,e8,fun s' F=> ?_⟩;show cR _ _ (aY w s.gens.size olds ad tb hs f h c t bl p d objs).κ (aY w s.gens.size olds ad tb hs f h c t bl p d objs).Γ (aY w s.gens.size olds ad tb hs f h c t bl p d objs).p (aY w s.gens.size olds ad tb hs f h c t bl p d objs).t s';rw[e2,e3,e4];refine hR ad tb _ s' ⟨F.ext e6,fun m j o q1 q2=>F.own j o (oW e5 m j o q1 q2),fun j h1 h2=>F.new j h1 (by show j<(aY w s.gens.size olds ad tb hs f h c t bl p d objs).n;rw[e7];exact h2),fun j j' h1 h2 q=>F.inj j j' (by show j<(aY w s.gens.size olds ad tb hs f h c t bl p d objs).n;rw[e7];exact h1) (by show j'<(aY w s.gens.size olds ad tb hs f h c t bl p d objs).n;rw[e7];exact h2) q⟩
theorem bL {fl:(Nat->Nat)->(Nat->Nat)->Flow}{os:(Nat->Nat)->(Nat->Nat)->List (Option Obj)}(hE:∀ad tb,dI (aY w s.gens.size olds ad tb hs f h c t bl p d objs) js=dJ (aY w s.gens.size olds ad tb hs f h c t bl p d objs) [] Γx (.pure (.done (fl ad tb))) (os ad tb) [] nn)(hhs:∀hf∈hs,aG (model PR w) (aX w.params) hf)(B:aT w s)(ha:At s olds objs)(hlen:objs.length=olds.length)(hnd:olds.Nodup)(hlo:∀a∈olds,817<=a)(hd:frameCount bl<=d)(hR:∀ad tb s',dX olds ad s s' js (os ad tb) nn->R (.ok (fl ad tb)) s'):
  ∃r s',Runs (model PR w) ⟨c,none,none,bl,none⟩ p t [] s (.ret r) s'/\R r s':=zA hE hhs B ha hlen hnd hlo hd fun ad tb u s' q=>qI (hR ad tb s' q)
theorem oX {cx:(Nat->Nat)->(Nat->Nat)->Code}{os:(Nat->Nat)->(Nat->Nat)->List (Option Obj)}(hE:∀ad tb,dI (aY w s.gens.size olds ad tb hs f h c t bl p d objs) js=dJ (aY w s.gens.size olds ad tb hs f h c t bl p d objs) [bZ ⟨c,none,none,bl,none⟩ p d] ⟨c₁,none,none,bl,none⟩ (.pure (.again (cx ad tb))) (os ad tb) [] nn)(hq:∀ad tb,qD (cx ad tb)=true)(hhs:∀hf∈hs,aG (model PR w) (aX w.params) hf)(B:aT w s)(ha:At s olds objs)(hlen:objs.length=olds.length)(hnd:olds.Nodup)(hlo:∀a∈olds,817<=a)(hd:frameCount bl<=d)(hR:∀ad tb px s',dX olds ad s s' js (os ad tb) nn->wpCode (model PR w) ⟨cx ad tb,none,none,bl,none⟩ R px s'):
  ∃r s',Runs (model PR w) ⟨c,none,none,bl,none⟩ p t [] s (.ret r) s'/\R r s':=zA hE hhs B ha hlen hnd hlo hd fun ad tb px s' q=>KC (by rw[<-qE];exact hq ad tb) (hR ad tb px s' q)
end
theorem iX {α:Type}{m:Sem α}{enc:α->Flow}(h:∃r s',Runs (model PR w) Γ p (bindR m fun x=> .pure (.done (enc x))) [] s (.ret r) s'/\R r s'):
  Sem.wp (model PR w) Γ m (fun x u s'=>R (.ok (enc x)) s') (fun e u s'=>R (.error e) s') p s:=by
 have z:=(Sem.wp_iff_runs (model PR w) Γ _ R p s).mpr h;rw[eR] at z;exact Sem.wp_mono _ _ _ (fun x p' s' q=>q) (fun u u u q=>q) _ _ z
end
noncomputable def upd(A:Nat->Nat)(n:Nat)(l:List Nat)(j:Nat):Nat:=match Nat.blt j n with
 |true=>A j
 |false=>match nS l (j - n) with
  |some a=>a
  |none=>A j
theorem fN {l:List Nat}(h:j<n):upd A n l j=A j:=by
 unfold upd;rw[show Nat.blt j n=true from(Nat.ble_eq.mpr h)]
set_option tactic.hygienic true in
theorem MB {l:List Nat}{b:Nat}(hA:∀j,b<=A j)(hl:∀a∈l,b<=a)(j:Nat):b<=upd A n l j:=by
 unfold upd;split
 ·exact hA j
 ·split
  ·rename_i a e
   rw[qH] at e;exact hl a (List.mem_of_getElem? e)
  ·exact hA j
theorem aAz {hf:HF}(loc:∀(A K A' K':Nat->Nat),(∀j,j<(hf A K).slot+(hf A K).news.length->A' j=A j)->(∀j,j<(hf A K).tok+(hf A K).nt->K' j=K j)->hf A' K'=hf A K)(h:∀(A K:Nat->Nat) (bl:List (Code×Pos)) (p:Pos) (s:Shared),(∀j,817<=A j)->(∀j,1335<=K j)->frameCount bl<=(hf A K).dep->aT w s->(∀x∈(hf A K).pre,s.heap.get? (A x.1)=some x.2)->
   (∀j j',j<(hf A K).slot->j'<(hf A K).slot->A j=A j'->j=j')->(∀j,j<(hf A K).slot->A j<s.heap.objs.size)->(∀l,(hf A K).env=some l->envsOf bl=l)->(∃x l,bl=(x,p)::l)->
   wpCode (model PR w) ⟨(hf A K).code,none,none,bl,none⟩ (fun r s'=>∃la lk:List Nat,(∀a∈la,817<=a)/\(∀t∈lk,1335<=t)/\
    yH (upd A (hf A K).slot la) (hf (upd A (hf A K).slot la) (upd K (hf A K).tok lk)) s s'/\r=(hf (upd A (hf A K).slot la) (upd K (hf A K).tok lk)).res) p s):aG (model PR w) (aX w.params) hf where
 loc:=loc
 ok A K Γ p s R hA hK hc hd h1 h2 h3 ht hs hk hp hi hl he hne hR:=by
  obtain⟨c,hnd,own,below,past⟩:=Γ;cases hc;cases h1;cases h2;cases h3;obtain⟨r,s',hr,la,lk,q1,q2,q3,q4⟩:=h A K below p s hA hK hd ⟨ht,hs,hk⟩ hp hi hl he hne;refine⟨r,s',hr,?_⟩;rw[q4];exact hR _ _ s' (fun j hj=>fN hj) (fun j hj=>fN hj) (MB hA q1) (MB hK q2) q3
noncomputable def rX:List Nat->List Obj->List (Nat×Obj)
 | [],_=>[]
 |_,[]=>[]
 |j::js,o::os=>(j,o)::rX js os
noncomputable def bM(A:Nat->Nat):List Nat->List Nat
 | []=>[]
 |j::js=>A j::bM A js
theorem lW{A:Nat->Nat}{a:Nat}:∀{sl:List Nat},a∈bM A sl->∃j∈sl,a=A j
 | [],h=>by cases h
 |j::sl,h=>by
  cases h with
  |head=>exact⟨j,.head _,rfl⟩
  |tail _ h=>obtain⟨k,hk,e⟩:=lW h;exact⟨k,.tail _ hk,e⟩
theorem MC{A A':Nat->Nat}:∀{sl:List Nat},(∀j∈sl,A' j=A j)->bM A' sl=bM A sl
 | [],_=>rfl
 |j::sl,h=>by
  unfold bM;rw[h j (.head _),MC fun k hk=>h k (.tail _ hk)]
theorem rY{A:Nat->Nat}:∀{sl:List Nat},sl.Nodup->(∀j∈sl,∀k∈sl,A j=A k->j=k)->(bM A sl).Nodup
 | [],_,_=>List.nodup_nil
 |j::sl,h,hi=>by
  rw[List.nodup_cons] at h;unfold bM;rw[List.nodup_cons];refine⟨fun q=> ?_,rY h.2 fun j hj k hk=>hi j (.tail _ hj) k (.tail _ hk)⟩;obtain⟨k,hk,e⟩:=lW q;have:=hi j (.head _) k (.tail _ hk) e;subst this;exact h.1 hk
noncomputable def DS(js:List Nat)(os:List (Option Obj)):List Nat->Bool
 | []=>true
 |m::ms=>match js[m]? with
  |some _=>match os[m]? with
   |some o=>match o with
    |some _=>DS js os ms
    |none=>false
   |none=>false
  |none=>false
noncomputable def MD(os:List (Option Obj)):List Nat->List Obj
 | []=>[]
 |m::ms=>((os[m]?.getD none).getD default)::MD os ms
set_option tactic.hygienic true in
theorem dX.ats {os:List (Option Obj)}(Q:dX olds ad s s' js os nn):∀(ms:List Nat),(h:DS js os ms=true:=by rfl)->At s' (bM (fun m=>bG olds ad (js.getD m 0)) ms) (MD os ms)
 | [],_=>trivial
 |m::ms,h=>by
  unfold DS at h;split at h
  ·rename_i j hj
   split at h
   ·rename_i o ho
    split at h
    ·rename_i o
     refine⟨?_,Q.ats ms h⟩;show s'.heap.get? (bG olds ad (js.getD m 0))=_;rw[List.getD_eq_getElem?_getD,hj,ho];exact Q.at_ m j o hj ho
    ·cases h
   ·cases h
  ·cases h
theorem ME{A:Nat->Nat}{s:Shared}:∀{sl:List Nat} {os:List Obj},os.length=sl.length->(∀x∈rX sl os,s.heap.get? (A x.1)=some x.2)->At s (bM A sl) os
 | [],_,_,_=>trivial
 |_::_,[],h,_=>by simp at h
 |j::sl,o::os,h,hx=>⟨hx (j,o) (.head _),ME (by simpa using h) fun x hm=>hx x (.tail _ hm)⟩
theorem MF{A:Nat->Nat}{s:Shared}:∀{sl:List Nat} {os:List Obj},At s (bM A sl) os->∀x∈rX sl os,s.heap.get? (A x.1)=some x.2
 | [],_,_,_,hm=>by cases hm
 |_::_,[],h,_,hm=>by cases hm
 |j::sl,o::os,h,x,hm=>by
  cases hm with
  |head=>exact h.1
  |tail _ hm=>exact MF h.2 x hm
theorem aB0 {sl:List Nat}:∀{os:List Obj},os.length=sl.length->j∈sl->∃x∈rX sl os,x.1=j:=by
 induction sl with
 |nil=>intro os _ h;cases h
 |cons k sl ih=>
  intro os hl h;cases os with
  |nil=>simp at hl
  |cons o os=>
   cases h with
   |head=>exact⟨(j,o),.head _,rfl⟩
   |tail _ h=>obtain⟨x,hx,e⟩:=ih (os:=os) (by simpa using hl) h;exact⟨x,.tail _ hx,e⟩
theorem iY(A:Nat->Nat)(n:Nat):upd A n []=A:=by
 funext j
 unfold upd;split <;> rfl
theorem iP {l:List Nat}(h:j<l.length):upd A n l (n+j)=l[j]:=by
 unfold upd
 have e:Nat.blt (n+j) n=false:=by
  cases q:Nat.blt (n+j) n with
  |false=>rfl
  |true=>exact absurd (blt_true q) (by lia)
 rw[e];show (match nS l (n+j - n) with |some a=>a |none=>A (n+j))=_;rw[Nat.add_sub_cancel_left,qH,List.getElem?_eq_getElem h]
theorem rZ {m:Nat}{g:Nat->Nat}(h:j<m):upd K i ((List.range m).map g) (i+j)=g j:=by
 rw[iP (by rw[List.length_map,List.length_range];exact h),List.getElem_map,List.getElem_range]
theorem aB1 {m:Nat}{l:List Nat}{g:Nat->Nat}(h:j<m):upd K i (l++(List.range m).map g) (i+(l.length+j))=g j:=by
 rw[iP (by rw[List.length_append,List.length_map,List.length_range];exact Nat.add_lt_add_left h _),List.getElem_append_right (Nat.le_add_right _ _),List.getElem_map,List.getElem_range];exact congrArg g (Nat.add_sub_cancel_left ..)
section
variable {P:Nat->Prop}(h0:P 0)(h1:P 1)(h2:P 2)(h3:P 3)
include h0 h1 h2 h3
theorem oY:∀i,i<4->P i:=fun i h=>by
 cases i with
 |zero=>exact h0
 |succ i=>cases i with
  |zero=>exact h1
  |succ i=>cases i with
   |zero=>exact h2
   |succ i=>cases i with
    |zero=>exact h3
    |succ i=>exact absurd h (Nat.not_lt.mpr (Nat.le_add_left 4 i))
theorem MG (h4:P 4)(i:Nat)(h:i<5):P i:=by
 cases i with
 |zero=>exact h0
 |succ i=>exact oY (P:=fun i=>P (i+1)) h1 h2 h3 h4 i (Nat.lt_of_succ_lt_succ h)
end
noncomputable def vV(E:(Nat->Nat)->(Nat->Nat)->Option (List Env))(c:(Nat->Nat)->(Nat->Nat)->Code)(sl:List Nat)(os0 os1 news:(Nat->Nat)->(Nat->Nat)->List Obj)(res:(Nat->Nat)->(Nat->Nat)->Result)(nt n i dep:Nat):HF:=fun A K=>
 ⟨c A K,rX sl (os0 A K),rX sl (os1 A K),news A K,res A K,nt,n,i,dep,E A K⟩
theorem MH {E:(Nat->Nat)->(Nat->Nat)->Option (List Env)}{c:(Nat->Nat)->(Nat->Nat)->Code}{sl:List Nat}{os0 os1 news:(Nat->Nat)->(Nat->Nat)->List Obj}{res:(Nat->Nat)->(Nat->Nat)->Result}{nt:Nat}(nn:Nat)(hn:∀A K,(news A K).length=nn)(hc:cH c n i)(h0:cH os0 n i)(h1:cH os1 (n+nn) (i+nt))(h2:cH news (n+nn) (i+nt))(h3:cH res (n+nn) (i+nt))(h4:cH E n i)(l0:∀A K,(os0 A K).length=sl.length)(l1:∀A K,(os1 A K).length=sl.length)(hsl:∀j∈sl,j<n)(hnd:sl.Nodup)(h:∀(A K:Nat->Nat) (bl:List (Code×Pos)) (p:Pos) (s:Shared),(∀j,817<=A j)->(∀j,1335<=K j)->frameCount bl<=dep->aT w s->At s (bM A sl) (os0 A K)->(bM A sl).Nodup->(∀a∈bM A sl,817<=a)->(∀l,E A K=some l->envsOf bl=l)->(∃x l,bl=(x,p)::l)->
   wpCode (model PR w) ⟨c A K,none,none,bl,none⟩ (fun r s'=>∃la lk:List Nat,la.length=nn/\la.Nodup/\(∀a∈la,s.heap.objs.size<=a)/\(∀t∈lk,1335<=t)/\aJ (bM A sl) s s'/\
    At s' (bM A sl) (os1 (upd A n la) (upd K i lk))/\At s' la (news (upd A n la) (upd K i lk))/\r=res (upd A n la) (upd K i lk)) p s):aG (model PR w) (aX w.params) (vV E c sl os0 os1 news res nt n i dep):=by
 refine aAz (fun A K A' K' a1 a2=> ?_) fun A K bl p s hA hK hd B hp hi hl he hne=> ?_
 ·have a1:∀j,j<n+nn->A' j=A j:=fun j hj=>a1 j (by show j<n+(news A K).length;rw[hn];exact hj)
  have a2:∀j,j<i+nt->K' j=K j:=a2;show HS.mk _ _ _ _ _ _ _ _ _ _=HS.mk _ _ _ _ _ _ _ _ _ _;rw[hc A K A' K' (fun j hj=>a1 j (by lia)) (fun j hj=>a2 j (by lia)),h0 A K A' K' (fun j hj=>a1 j (by lia)) (fun j hj=>a2 j (by lia)),h1 A K A' K' a1 a2,h2 A K A' K' a1 a2,h3 A K A' K' a1 a2,h4 A K A' K' (fun j hj=>a1 j (by lia)) (fun j hj=>a2 j (by lia))]
 ·have hlo:∀a∈bM A sl,817<=a:=fun a ha=>by obtain⟨j,_,rfl⟩:=lW ha;exact hA j
  have nd:(bM A sl).Nodup:=rY hnd fun j hj k hk e=>hi j k (hsl j hj) (hsl k hk) e;obtain⟨r,s',hr,la,lk,e1,e2,e3,e4,e5,e6,e7,e8⟩:=h A K bl p s hA hK hd B (ME (l0 A K) hp) nd hlo he hne;refine⟨r,s',hr,la,lk,fun a ha=>Nat.le_trans B.sz (e3 a ha),e4,?_,e8⟩;have eA:∀j∈sl,upd A n la j=A j:=fun j hj=>fN (hsl j hj);have atn:∀j,(hj:j<nn)->upd A n la (n+j)=la[j]'(by rw[e1];exact hj):=fun j hj=>iP _;refine⟨fun b o ho hb=>e5.frame b o ho fun q=> ?_,?_,fun j o hj=> ?_,fun j j' hj hj' q=> ?_,e5.size,e5.toks,e5.gens,e5.drawn,e5.os⟩
  ·obtain⟨j,hj,rfl⟩:=lW q
   obtain⟨x,hx,e⟩:=aB0 (l1 (upd A n la) (upd K i lk)) hj;exact hb x hx (by rw[e];exact(eA j hj).symm)
  ·have:=MF (A:=upd A n la) (s:=s') (sl:=sl) (os:=os1 (upd A n la) (upd K i lk)) (by rw[MC eA];exact e6)
   exact this
  ·have hj:(news (upd A n la) (upd K i lk))[j]? =some o:=hj
   have lt:j<nn:=by
    rcases Nat.lt_or_ge j nn with q |q
    ·exact q
    ·rw[List.getElem?_eq_none (by rw[hn];exact q)] at hj;cases hj
   show s'.heap.get? (upd A n la (n+j))=some o/\s.heap.objs.size<=upd A n la (n+j);rw[atn j lt];exact⟨e7.get j _ o (List.getElem?_eq_getElem (by rw[e1];exact lt)) hj,e3 _ (List.getElem_mem _)⟩
  ·have hj:j<(news (upd A n la) (upd K i lk)).length:=hj
   have hj':j'<(news (upd A n la) (upd K i lk)).length:=hj';rw[hn] at hj hj';have q:upd A n la (n+j)=upd A n la (n+j'):=q;rw[atn j hj,atn j' hj'] at q;exact(List.getElem_inj e2).mp q
theorem DT {E:(Nat->Nat)->(Nat->Nat)->Option (List Env)}{c:(Nat->Nat)->(Nat->Nat)->Code}{sl:List Nat}{os0 os1 news:(Nat->Nat)->(Nat->Nat)->List Obj}{res:(Nat->Nat)->(Nat->Nat)->Result}{nt:Nat}(nn:Nat)(hn:∀A K,(news A K).length=nn)(hc:cH c n i)(h0:cH os0 n i)(h1:cH os1 (n+nn) (i+nt))(h2:cH news (n+nn) (i+nt))(h3:cH res (n+nn) (i+nt))(h4:cH E n i)(l0:∀A K,(os0 A K).length=sl.length)(l1:∀A K,(os1 A K).length=sl.length)(hsl:∀j∈sl,j<n)(hnd:sl.Nodup)(h:∀(A K:Nat->Nat) (bl:List (Code×Pos)) (p:Pos) (s:Shared),(∀j,817<=A j)->(∀j,1335<=K j)->frameCount bl<=dep->aT w s->At s (bM A sl) (os0 A K)->(bM A sl).Nodup->(∀a∈bM A sl,817<=a)->(∀l,E A K=some l->envsOf bl=l)->
   wpCode (model PR w) ⟨c A K,none,none,bl,none⟩ (fun r s'=>∃la lk:List Nat,la.length=nn/\la.Nodup/\(∀a∈la,s.heap.objs.size<=a)/\(∀t∈lk,1335<=t)/\aJ (bM A sl) s s'/\
    At s' (bM A sl) (os1 (upd A n la) (upd K i lk))/\At s' la (news (upd A n la) (upd K i lk))/\r=res (upd A n la) (upd K i lk)) p s):aG (model PR w) (aX w.params) (vV E c sl os0 os1 news res nt n i dep):=
 MH nn hn hc h0 h1 h2 h3 h4 l0 l1 hsl hnd fun A K bl p s a1 a2 a3 a4 a5 a6 a7 a8 u=>h A K bl p s a1 a2 a3 a4 a5 a6 a7 a8
noncomputable def dP(c:(Nat->Nat)->(Nat->Nat)->Code)(sl:List Nat)(os0 os1 news:(Nat->Nat)->(Nat->Nat)->List Obj)(res:(Nat->Nat)->(Nat->Nat)->Result)(nt n i dep:Nat):HF:=vV (fun u u=>none) c sl os0 os1 news res nt n i dep
theorem eN {c:(Nat->Nat)->(Nat->Nat)->Code}{sl:List Nat}{os0 os1 news:(Nat->Nat)->(Nat->Nat)->List Obj}{res:(Nat->Nat)->(Nat->Nat)->Result}{nt:Nat}(nn:Nat)(hn:∀A K,(news A K).length=nn)(hc:cH c n i)(h0:cH os0 n i)(h1:cH os1 (n+nn) (i+nt))(h2:cH news (n+nn) (i+nt))(h3:cH res (n+nn) (i+nt))(l0:∀A K,(os0 A K).length=sl.length)(l1:∀A K,(os1 A K).length=sl.length)(hsl:∀j∈sl,j<n)(hnd:sl.Nodup)(h:∀(A K:Nat->Nat) (bl:List (Code×Pos)) (p:Pos) (s:Shared),(∀j,817<=A j)->(∀j,1335<=K j)->frameCount bl<=dep->aT w s->At s (bM A sl) (os0 A K)->(bM A sl).Nodup->(∀a∈bM A sl,817<=a)->
   wpCode (model PR w) ⟨c A K,none,none,bl,none⟩ (fun r s'=>∃la lk:List Nat,la.length=nn/\la.Nodup/\(∀a∈la,s.heap.objs.size<=a)/\(∀t∈lk,1335<=t)/\aJ (bM A sl) s s'/\
    At s' (bM A sl) (os1 (upd A n la) (upd K i lk))/\At s' la (news (upd A n la) (upd K i lk))/\r=res (upd A n la) (upd K i lk)) p s):aG (model PR w) (aX w.params) (dP c sl os0 os1 news res nt n i dep):=
 DT (E:=fun u u=>none) nn hn hc h0 h1 h2 h3 (fun u u u u u u=>rfl) l0 l1 hsl hnd fun A K bl p s a1 a2 a3 a4 a5 a6 a7 u=>h A K bl p s a1 a2 a3 a4 a5 a6 a7
theorem DU {c:(Nat->Nat)->(Nat->Nat)->Code}{sl:List Nat}{os0 os1 news:(Nat->Nat)->(Nat->Nat)->List Obj}{res:(Nat->Nat)->(Nat->Nat)->Result}{nt:Nat}(nn:Nat)(hn:∀A K,(news A K).length=nn)(hc:cH c n i)(h0:cH os0 n i)(h1:cH os1 (n+nn) (i+nt))(h2:cH news (n+nn) (i+nt))(h3:cH res (n+nn) (i+nt))(l0:∀A K,(os0 A K).length=sl.length)(l1:∀A K,(os1 A K).length=sl.length)(hsl:∀j∈sl,j<n)(hnd:sl.Nodup)(h:∀(A K:Nat->Nat) (bl:List (Code×Pos)) (p:Pos) (s:Shared),(∀j,817<=A j)->(∀j,1335<=K j)->frameCount bl<=dep->aT w s->At s (bM A sl) (os0 A K)->(bM A sl).Nodup->(∀a∈bM A sl,817<=a)->(∃x l,bl=(x,p)::l)->
   wpCode (model PR w) ⟨c A K,none,none,bl,none⟩ (fun r s'=>∃la lk:List Nat,la.length=nn/\la.Nodup/\(∀a∈la,s.heap.objs.size<=a)/\(∀t∈lk,1335<=t)/\aJ (bM A sl) s s'/\
    At s' (bM A sl) (os1 (upd A n la) (upd K i lk))/\At s' la (news (upd A n la) (upd K i lk))/\r=res (upd A n la) (upd K i lk)) p s):aG (model PR w) (aX w.params) (dP c sl os0 os1 news res nt n i dep):=
 MH (E:=fun u u=>none) nn hn hc h0 h1 h2 h3 (fun u u u u u u=>rfl) l0 l1 hsl hnd fun A K bl p s a1 a2 a3 a4 a5 a6 a7 u a9=>h A K bl p s a1 a2 a3 a4 a5 a6 a7 a9
end
section
noncomputable def zB(t:Sem Fin):Option (Code×Option Value):=match t with
 | .call c hd _ _ _=>some (c,hd)
 |_=>none
noncomputable def dY(t:Sem Fin):Result->Sem Fin:=match t with
 | .call _ _ _ _ k=>k
 |_=>fun u=> .unsupported ""
theorem DV{t:Sem Fin}{c:Code}{hd:Option Value}(h:zB t=some (c,hd)):∃g l,t= .call c hd g l (dY t):=by
 unfold zB at h;split at h
 ·injection h with h
  injection h with h1 h2
  subst h1;subst h2;exact⟨_,_,rfl⟩
 ·cases h
structure MI where
 L:List bP
 κ:List Fr
 Γ:PySem.Ctx
 c:Option (Code×Option Value)
 os:List (Option Obj)
 G:List GenState
 n:Nat
 ch:Ch
noncomputable def fZ(o:St)(js:List Nat):MI:=⟨o.L,o.κ,o.Γ,zB o.t,oU o.T js,o.G,o.n,o.ch⟩
noncomputable def iA(o:St)(κ:List Fr)(Γ:PySem.Ctx)(c:Option (Code×Option Value))(os:List (Option Obj))(G:List GenState)(n:Nat):MI:=⟨o.R,κ,Γ,c,os,G,n,[]⟩
section
variable{w:World}{s:Shared}{bl:List (Code×Pos)}{p:Pos}{c:Code}{t:Sem Fin}{R:Result->Shared->Prop}
theorem aB2 {hs:List HF}{cx:(Nat->Nat)->(Nat->Nat)->Code}{os:(Nat->Nat)->(Nat->Nat)->List (Option Obj)}(hE:∀ad tb,fZ (aY w s.gens.size olds ad tb hs f h c t bl p d objs) js=iA (aY w s.gens.size olds ad tb hs f h c t bl p d objs) [bZ ⟨c,none,none,bl,none⟩ p d] ⟨c₁,none,none,bl,none⟩ (some (cx ad tb,none)) (os ad tb) [] nn)(hhs:∀hf∈hs,aG (model PR w) (aX w.params) hf)(B:aT w s)(ha:At s olds objs)(hlen:objs.length=olds.length)(hnd:olds.Nodup)(hlo:∀a∈olds,817<=a)(hd:frameCount bl<=d)(hR:∀ad tb px s',dX olds ad s s' js (os ad tb) nn->wpCode (model PR w) ⟨cx ad tb,none,none,(c₁,px)::bl,none⟩ (fun r s₁=>
   ∃r' s₂,Runs (model PR w) ⟨c₁,none,none,bl,none⟩ px (dY (aY w s.gens.size olds ad tb hs f h c t bl p d objs).t r) [] s₁ (.ret r') s₂/\R r' s₂) px s'):
  ∃r s',Runs (model PR w) ⟨c,none,none,bl,none⟩ p t [] s (.ret r) s'/\R r s':=by
 refine vM (nU _) t olds objs d f h hs hlen (fun j a x e1 e2=>ha.get j a x e1 e2) hnd hlo B.top B.sz B.tk hd hhs fun ad tb=> ?_;have e:=hE ad tb;unfold fZ iA at e;injection e with e1 e2 e3 e4 e5 e6 e7 e8
 refine⟨e1,e8,fun s' F=> ?_⟩;show cR _ _ (aY w s.gens.size olds ad tb hs f h c t bl p d objs).κ (aY w s.gens.size olds ad tb hs f h c t bl p d objs).Γ (aY w s.gens.size olds ad tb hs f h c t bl p d objs).p (aY w s.gens.size olds ad tb hs f h c t bl p d objs).t s';obtain⟨g,l,et⟩:=DV e4;have z:=hR ad tb (aY w s.gens.size olds ad tb hs f h c t bl p d objs).p s' ⟨F.ext e6,fun m j o q1 q2=>F.own j o (oW e5 m j o q1 q2),fun j h1 h2=>F.new j h1 (by show j<(aY w s.gens.size olds ad tb hs f h c t bl p d objs).n;rw[e7];exact h2),fun j j' h1 h2 q=>F.inj j j' (by show j<(aY w s.gens.size olds ad tb hs f h c t bl p d objs).n;rw[e7];exact h1) (by show j'<(aY w s.gens.size olds ad tb hs f h c t bl p d objs).n;rw[e7];exact h2) q⟩;generalize hk:dY (aY w s.gens.size olds ad tb hs f h c t bl p d objs).t=k at z et;rw[e2,e3,et];obtain⟨r,s₁,hr,r',s₂,hr',hRr⟩:=z;refine cR.call (r:=r) (s₁:=s₁) hr ?_;exact⟨_,s₂,hr',r',rfl,vL hRr⟩
end
end
noncomputable def MJ:List Nat:=[105,110,116,46,95,95,97,98,115,95,95]
noncomputable def mV:String:=sE MJ rfl
theorem MK:"int.__abs__"=mV:=cA MJ rfl
noncomputable def ML:List Nat:=[105,110,116,46,95,95,98,111,111,108,95,95]
noncomputable def eV:String:=sE ML rfl
theorem MM:"int.__bool__"=eV:=cA ML rfl
noncomputable def aB3:List Nat:=[98,121,116,101,115,46,95,95,103,101,116,105,116,101,109,95,95]
noncomputable def MN:String:=sE aB3 rfl
noncomputable def MO:List Nat:=[108,105,115,116,46,95,95,103,101,116,105,116,101,109,95,95]
noncomputable def zC:String:=sE MO rfl
theorem DW:"list.__getitem__"=zC:=cA MO rfl
noncomputable def MP:List Nat:=[108,105,115,116,46,95,95,115,101,116,105,116,101,109,95,95]
noncomputable def MQ:String:=sE MP rfl
theorem aB4:"list.__setitem__"=MQ:=cA MP rfl
noncomputable def MR:List Nat:=[108,105,115,116,46,97,112,112,101,110,100]
noncomputable def MS:String:=sE MR rfl
theorem aB5:"list.append"=MS:=cA MR rfl
noncomputable def MT:List Nat:=[108,105,115,116,95,105,116,101,114,97,116,111,114,46,95,95,110,101,120,116,95,95]
noncomputable def MU:String:=sE MT rfl
theorem aB6:"list_iterator.__next__"=MU:=cA MT rfl
noncomputable def aB7:List Nat:=[105,110,116,46,95,95,100,105,118,109,111,100,95,95]
noncomputable def MV:String:=sE aB7 rfl
noncomputable def MW:List Nat:=[108,105,115,116,46,95,95,108,101,95,95]
noncomputable def MX:String:=sE MW rfl
theorem aB8:"list.__le__"=MX:=cA MW rfl
noncomputable def MY:List Nat:=[108,105,115,116,46,95,95,108,116,95,95]
noncomputable def MZ:String:=sE MY rfl
theorem aB9:"list.__lt__"=MZ:=cA MY rfl
noncomputable def NA:List Nat:=[108,105,115,116,46,95,95,101,113,95,95]
noncomputable def NB:String:=sE NA rfl
theorem aBa:"list.__eq__"=NB:=cA NA rfl
noncomputable abbrev aV(id:String)(v:Value)(l:List AV)(n i:Nat):HF:=hV id l v n i
noncomputable abbrev aI(id:String)(x:Int)(l:List AV)(n i:Nat):HF:=hI id l x n i
noncomputable abbrev aS(id:String)(x:Str)(l:List AV)(n i:Nat):HF:=hS id l x n i
theorem aBb(w:World)(g₀:Nat)(ad tb:Nat->Nat)(bl:List (Code×Pos))(p:Pos)(n t u:Nat):
 aZ w g₀ [] ad tb [] 4 0 (.builtin MV ⟨[.int (Int.ofNat n) t,.int (Int.ofNat 16) u],[]⟩) bl p 900 [] [0] (.pure (.done (.ret (.ref (bG [] ad 0))))) [⟨.type SL.s2766695959194262286x5,none,.seq ⟨[.int (Int.fdiv (Int.ofNat n) (Int.ofNat 16)) (aC tb 0),.int (Int.fmod (Int.ofNat n) (Int.ofNat 16)) (aC tb 1)]⟩ 0,⟨[]⟩⟩] 1:=by unfold aZ;kernel_rfl
section
noncomputable def fO(env:Env)(back:Value)(o:Obj):Obj:=
 {o with slots:= #[some env.code,some (.ref env.globals),o.slots.getD 2 none,some back,o.slots.getD 4 none,env.func.map Value.ref,some (.ref env.builtins)]++(env.cells.map fun c=>some (.ref c.2)).toArray}
section
variable{M:Model}{A:Around}{E:Value->Shared->Prop}{s:Shared}
theorem NC {caller:Env}{outer:List Env}{L L₂:Addr}{o:Obj}{Q:Unit->Shared->Prop}(hk:env.scope.kind≠.module)(hg:(env.scope.isGenerator || env.scope.isCoroutine)=false)(hf:env.frame=some L)(hf₂:caller.frame=some L₂)(ho:s.heap.get? L=some o)(hr:(o.slots.getD 3 none).isSome=false)(h:wpAny M A (readyFrames (caller::outer)) Q E {s with heap:=s.heap.update L (fO env (.ref L₂))}):wpAny M A (readyFrames (env::caller::outer)) Q E s:=by
 rw[readyFrames];simp only[hf];refine wpAny_bind (wpAny_load ho ?_);rw[if_neg (by rw[hr];exact Bool.false_ne_true)];refine wpAny_bind (wpAny_of_eq (a:=false) (by simp[behindIsImport,hk]) ?_);refine wpAny_bind (wpAny_of_eq (a:=Value.ref L₂) (by simp only[keptBack,hg,hf₂];rfl) ?_);exact wpAny_bind (wpAny_update ho h)
theorem aBc {outer:List Env}{L:Addr}{o:Obj}{Q:Unit->Shared->Prop}(hf:env.frame=some L)(ho:s.heap.get? L=some o)(hr:(o.slots.getD 3 none).isSome=true)(h:Q () s):wpAny M A (readyFrames (env::outer)) Q E s:=by
 rw[readyFrames];simp only[hf];refine wpAny_bind (wpAny_load ho ?_);rw[if_pos hr];exact wpAny_pure h
theorem aBd {L:Addr}{o:Obj}{Q:Unit->Shared->Prop}(hk:env.scope.kind≠.module)(hg:(env.scope.isGenerator || env.scope.isCoroutine)=false)(hf:env.frame=some L)(ho:s.heap.get? L=some o)(hr:(o.slots.getD 3 none).isSome=false)(h:∀b:Bool,Q () {s with heap:=s.heap.update L (fO env (if b then .notImplemented else .none))}):wpAny M A (readyFrames [env]) Q E s:=by
 rw[readyFrames];simp only[hf];refine wpAny_bind (wpAny_load ho ?_);rw[if_neg (by rw[hr];exact Bool.false_ne_true)];refine wpAny_bind (wpAny_of_eq (a:=false) (by simp[behindIsImport]) ?_);rw[keptBack,hg];refine wpAny_bind (wpAny_bind (wpAny_underTheClaimsCaller fun b=>wpAny_pure ?_));exact wpAny_bind (wpAny_update ho (by rw[readyFrames];exact wpAny_pure (h b)))
theorem aBe {outer:List Env}{L e:Addr}{oe:Obj}{vs:Array Value}{Q:Unit->Shared->Prop}(hfr:A.frames=some (env::outer))(hf:env.frame=some L)(he:s.heap.get? e=some oe)(hd:oe.data= .fields vs)(h1:vs[1]? =some .none)(h:wpAny M A (readyFrames (env::outer)) (fun u s₁=>s₁.heap.get? e=some oe/\∀s',(∀b o,b≠e->s₁.heap.get? b=some o->s'.heap.get? b=some o)->(∃o',s'.heap.get? e=some o'/\o'.cls=oe.cls/\∃ws,o'.data= .fields ws)->
   s₁.heap.objs.size<=s'.heap.objs.size->s'.toks=s₁.toks->s'.gens=s₁.gens->s'.drawn=s₁.drawn->s'.os=s₁.os->Q () s') E s):wpAny M A (leaving env (.ref e)) Q E s:=by
 unfold leaving noteFrame;simp only[hf];refine wpAny_bind (wpAny_bind (wpAny_field he hd h1 ?_));rw[if_neg dT];refine wpAny_bind ?_;unfold PySem.frameOf;refine wpAny_bind (wpAny_frameEnvs hfr ?_);have hdw:((env::outer).dropWhile fun x=>x.frame != env.frame)=env::outer:=by simp[List.dropWhile]
 rw[hdw];unfold frameObject;refine wpAny_bind (wpAny_bind (wpAny_mono h (fun u s₁ q=> ?_) fun u u q=>q));obtain⟨he₁,q⟩:=q;simp only[hf];refine wpAny_pure ?_;refine wpAny_pure ?_;refine wpAny_bind (wpAny_entryPlaceOf fun pl hpl=> ?_);unfold EntryCells.newEntry newFields;refine wpAny_bind (wpAny_newObj_type ?_ (hpl.sizeOk5 _ _ _ _ _));have hsz:1<vs.size:=(Array.getElem?_eq_some_iff.mp h1).1;generalize hT:({cls:= .type "traceback",data:= .fields ([Value.none,.ref L,.none,rawInt L,.none]++(if pl.isEmpty=true then List.replicate 6 Value.none else pl)).toArray}:Obj)=oT
 have hTd:∃ts:Array Value,oT.data= .fields ts/\3<ts.size:=by
  subst hT;exact⟨_,rfl,by simp only[List.size_toArray,List.length_append,List.length_cons,List.length_nil] <;> lia⟩
 obtain⟨ts,hTd,hts⟩:=hTd;have he₂:(s₁.heap.push oT).get? e=some oe:=Heap.get?_push_of_some oT he₁;refine wpAny_setField he₂ hd hsz ?_;have hTe:s₁.heap.objs.size≠e:=Nat.ne_of_gt (Heap.lt_size he₁);have hd₃:=Obj.data_mapFields hd (·.setIfInBounds 1 (Value.ref s₁.heap.objs.size));have he₃:=Heap.get?_update_self (Obj.mapFields (·.setIfInBounds 1 (Value.ref s₁.heap.objs.size))) he₂ (Obj.isFreed_of_fields hd₃);have hT₃:=(Heap.get?_update_other (s₁.heap.push oT) (Obj.mapFields (·.setIfInBounds 1 (Value.ref s₁.heap.objs.size))) (Ne.symm hTe)).trans (Heap.get?_push_size s₁.heap (o:=oT) (Obj.isFreed_of_fields hTd));unfold setFlight;refine wpAny_bind (wpAny_field he₃ hd₃ (x:= .ref s₁.heap.objs.size) (by simp[hsz]) ?_);rw[if_pos (show (Value.ref s₁.heap.objs.size != Value.none)=true from by simp)];refine wpAny_setField hT₃ hTd hts (q _ ?_ ?_ ?_ rfl rfl rfl rfl)
 ·intro b o hbe hb
  have hbT:s₁.heap.objs.size≠b:=Nat.ne_of_gt (Heap.lt_size hb);show (Heap.update _ _ _).get? b=some o;rw[Heap.get?_update_other _ _ hbT,Heap.get?_update_other _ _ (Ne.symm hbe)];exact Heap.get?_push_of_some _ hb
 ·refine⟨_,?_,Obj.cls_mapFields _ _,_,hd₃⟩
  show (Heap.update _ _ _).get? e=_;rw[Heap.get?_update_other _ _ hTe];exact he₃
 ·show _<=((Heap.update _ _ _).objs).size
  rw[Heap.size_after_update,Heap.size_after_update];show _<=(s₁.heap.objs.push oT).size;rw[Array.size_push];exact Nat.le_succ _
end
end
noncomputable def bX(τ:Nat->Nat)(i v j:Nat):Nat:=match Nat.beq j i with
 |true=>v
 |false=>τ j
theorem fH {v:Nat}(h:∀j,1335<=τ j)(hv:1335<=v)(j:Nat):1335<=bX τ i v j:=by
 unfold bX;split
 ·exact hv
 ·exact h j
noncomputable abbrev tA:Value:= .type SL.s14018661285674007319x4
noncomputable abbrev fI:Value:= .type SL.s658472552662922059x5
noncomputable def bS(a:Nat):Obj:=⟨.ref 620,some a,.plain,⟨[]⟩⟩
noncomputable def cG(P:Params)(τ:Nat->Nat)(L:Str)(p:Nat):Obj:=
 ⟨tA,none,.dict ⟨[de P [95,83,116,114,105,110,103,73,79,95,95,110,101,119,108,105,110,101] (τ 0) (sv [10] 792),de P [95,83,116,114,105,110,103,73,79,95,95,98,117,102] (τ 1) (.str L (τ 2)),de P [95,83,116,114,105,110,103,73,79,95,95,112,111,115] (τ 3) (.int (.ofNat p) (τ 4))]⟩ 3,⟨[]⟩⟩
noncomputable def WC:List Nat:=[97,98,99,100,102,101,103,104,105,106,107,108,109,110,111,112,113,114,115,116,117,118,119,120,121,122,65,66,67,68,69,70,71,72,73,74,75,76,77,78,79,80,81,82,83,84,85,86,87,88,89,90,48,49,50,51,52,53,54,55,56,57,95,223,224,225,226,227,228,229,230,231,232,233,234,235,236,237,238,239,240,241,242,243,244,245,246,248,249,250,251,252,253,254,255,192,193,194,195,196,197,198,199,200,201,202,203,204,205,206,207,208,209,210,211,212,213,214,216,217,218,219,220,221,222]
noncomputable def stV(st:Option Nat)(t:Nat):Value:=match st with
 |none=> .none
 |some c=>sv [c] t
noncomputable def dA(a:Nat):Obj:=⟨.ref 755,some a,.plain,⟨[]⟩⟩
noncomputable def dB(P:Params)(τ:Nat->Nat)(sio pb fs:Nat)(st:Option Nat)(ln:Nat)(tok:Str):Obj:=
 ⟨tA,none,.dict ⟨[de P [105,110,115,116,114,101,97,109] (τ 0) (.ref sio),de P [105,110,102,105,108,101] (τ 1) (.none),de P [112,111,115,105,120] (τ 2) (.bool (true)),de P [101,111,102] (τ 3) (.none),de P [99,111,109,109,101,110,116,101,114,115] (τ 4) (sv [] (τ 5)),de P [119,111,114,100,99,104,97,114,115] (τ 6) (sv WC (τ 7)),de P [119,104,105,116,101,115,112,97,99,101] (τ 8) (sv [32,9,13,10] (τ 9)),de P [119,104,105,116,101,115,112,97,99,101,95,115,112,108,105,116] (τ 10) (.bool (true)),de P [113,117,111,116,101,115] (τ 11) (sv [39,34] (τ 12)),de P [101,115,99,97,112,101] (τ 13) (sv [92] (τ 14)),de P [101,115,99,97,112,101,100,113,117,111,116,101,115] (τ 15) (sv [34] (τ 16)),de P [115,116,97,116,101] (τ 17) (stV st (τ 18)),de P [112,117,115,104,98,97,99,107] (τ 19) (.ref pb),de P [108,105,110,101,110,111] (τ 20) (.int (Int.ofNat ln) (τ 21)),de P [100,101,98,117,103] (τ 22) (.int (Int.ofNat 0) (τ 23)),de P [116,111,107,101,110] (τ 24) (.str tok (τ 25)),de P [102,105,108,101,115,116,97,99,107] (τ 26) (.ref fs),de P [115,111,117,114,99,101] (τ 27) (.none),de P [95,112,117,110,99,116,117,97,116,105,111,110,95,99,104,97,114,115] (τ 28) (sv [] (τ 29))]⟩ (19),⟨[]⟩⟩
noncomputable def bJ:Obj:=⟨.type SL.s5314052453082223887x17,none,.fields ⟨[.none,.int (Int.ofNat 0) 0]⟩,⟨[]⟩⟩
noncomputable def dK(l:List Stmt)(i:Nat):Stmt:=match l.drop i with
 |s::_=>s
 | []=> .Pass default
noncomputable def ND:Stmt:=fK (cM 28) 6
noncomputable def nV(st:Stmt)(q:List Nat)(fn cd loc:Nat):Env:={scope:=kI st,locals:=loc,globals:=3,cells:=[],qual:=⟨⟨q⟩⟩,func:=some fn,code:= .ref cd,frame:=some loc,builtins:=0}
noncomputable def DX:Stmt:=dK (bF ND) 2
noncomputable def pA(loc:Nat):Code:= .whileLoop (bR DX) (bF DX) (fV DX) (nV ND [115,104,108,101,120,46,114,101,97,100,95,116,111,107,101,110,46,60,108,111,99,97,108,115,62,46] 723 722 loc)
noncomputable def zD(P:Params)(τ:Nat->Nat)(self:Nat)(q:Bool)(esc:List Nat):Obj:=
 ⟨fI,none,.dict ⟨[de P vA (τ 0) (.ref self),de P [113,117,111,116,101,100] (τ 1) (.bool q),de P HX (τ 2) (sv esc (τ 3))]⟩ (3),⟨[]⟩⟩
noncomputable def nW(P:Params)(τ:Nat->Nat)(self:Nat)(q:Bool)(esc nc:List Nat):Obj:=
 ⟨fI,none,.dict ⟨[de P vA (τ 0) (.ref self),de P [113,117,111,116,101,100] (τ 1) (.bool q),de P HX (τ 2) (sv esc (τ 3)),de P [110,101,120,116,99,104,97,114] (τ 4) (sv nc (τ 5))]⟩ (4),⟨[]⟩⟩
noncomputable def eW(σ:Nat->Nat)(x y z:Nat):Nat->Nat:=bX (bX (bX σ 18 x) 21 y) 25 z
noncomputable def dZ(τ:Nat->Nat)(v:Nat):Nat->Nat:=bX τ 4 v
noncomputable def mW(σ:Nat->Nat)(x y z j:Nat):Nat:=Bool.rec (Bool.rec (Bool.rec (σ j) x (Nat.beq j 18)) y (Nat.beq j 21)) z (Nat.beq j 25)
noncomputable def mX(τ:Nat->Nat)(v j:Nat):Nat:=Bool.rec (τ j) v (Nat.beq j 4)
theorem tB:mW=eW:=by
 funext σ x y z j
 unfold mW eW bX;cases Nat.beq j 25 <;> cases Nat.beq j 21 <;> cases Nat.beq j 18 <;> rfl
theorem tC:mX=dZ:=by
 funext τ v j
 unfold mX dZ bX;cases Nat.beq j 4 <;> rfl
noncomputable def aA(vs:List Value)(ep:Nat):Obj:=⟨.type SL.s9222952809800978799x4,none,.seq ⟨vs⟩ ep,⟨[]⟩⟩
noncomputable def NE(x:Option Value):Flow:=match x with
 |none=> .brk
 |some v=> .ret v
noncomputable def cQ(it:Value):Sem Fin:=bindR (Fast.tw9404975358583537561 it) fun x=> .pure (.done (NE x))
noncomputable def tD:Stmt:=fK (cM 28) 10
noncomputable def mY(loc:Nat):Env:=nV tD [115,104,108,101,120,46,95,95,110,101,120,116,95,95,46,60,108,111,99,97,108,115,62,46] 752 751 loc
noncomputable def pB(loc:Nat):Code:= .func (bF tD) (mY loc)
noncomputable def vW(b:List Stmt)(e:Env):Sem Fin:=bindR (Fast.tw12563942051412417395 b e) fun x=> .pure (.done x)
noncomputable def DY(P:Params)(ρ:Nat->Nat)(self:Nat):Obj:=⟨fI,none,.dict ⟨[de P vA (ρ 0) (.ref self)]⟩ (1),⟨[]⟩⟩
section
variable (w:World)(g₀:Nat)(ad tb:Nat->Nat)(bl:List (Code×Pos))(p:Pos)(τ:Nat->Nat)(L:Str)(t a b P c:Nat)
theorem aBf:
 aZ w g₀ [a,b] ad tb [fX L (TR.l (τ 2)) 5 15,yX false (Int.ofNat P) (TR.l (τ 4)) (Int.ofNat L.length) (TR.k (15+1)) 5 18,DP true (Int.ofNat (P+1)) (TR.k 19) (Int.ofNat L.length) (TR.k (15+1)) 5 20,yZ ⟨⟨[c]⟩⟩ L (TR.l (τ 2)) 5 (some (Int.ofNat P,TR.l (τ 4))) (some (Int.ofNat (P+1),TR.k 20)) 6 25] 412 (aQ 0xe00e00e00e04006006004 [9,8194,24,2,36,281681168703490,7,8,24,8,6,8,6,4,57,0x2006006006006000c00e8018006006400e,414,gl]) (.call (.ref 566) ⟨[.ref a,.int (.ofNat 1) t],[]⟩) bl p 600 [bS b,cG w.params τ L P] [0,1] (.pure (.done (.ret (sv [(c)] (aC tb 30))))) [bS b,cG w.params (bX τ 4 (aC tb 20)) (L) ((P+1))] 7:=by unfold aZ;kernel_rfl
theorem aBg:
 aZ w g₀ [a,b] ad tb [fX L (TR.l (τ 2)) 5 15,yX false (Int.ofNat P) (TR.l (τ 4)) (Int.ofNat L.length) (TR.k (15+1)) 5 18,DP false (Int.ofNat (P+1)) (TR.k 19) (Int.ofNat L.length) (TR.k (15+1)) 5 20,yZ ⟨⟨[c]⟩⟩ L (TR.l (τ 2)) 5 (some (Int.ofNat P,TR.l (τ 4))) (some (Int.ofNat L.length,TR.k (15+1))) 6 23] 395 (aQ 0x1c01c01c01c0800c00c00 [12,gY,22,4,36,563362337406980,6,1,24,1,6,1,7,8,44,0x400c00e8018006006400e,414,gl]) (.call (.ref 566) ⟨[.ref a,.int (.ofNat 1) t],[]⟩) bl p 600 [bS b,cG w.params τ L P] [0,1] (.pure (.done (.ret (sv [(c)] (aC tb 28))))) [bS b,cG w.params (bX τ 4 (aC tb 16)) (L) (L.length)] 7:=by unfold aZ;kernel_rfl
end
theorem aBh(w:World)(g₀:Nat)(ad tb:Nat->Nat)(bl:List (Code×Pos))(p:Pos)(τ:Nat->Nat)(L:Str)(t a b P c:Nat):
 aZ w g₀ [a,b] ad tb [fX L (TR.l (τ 2)) 5 15,yX true (Int.ofNat P) (TR.l (τ 4)) (Int.ofNat L.length) (TR.k (15+1)) 5 18] 277 (aQ 2 [414,gl]) (.call (.ref 566) ⟨[.ref a,.int (.ofNat 1) t],[]⟩) bl p 600 [bS b,cG w.params τ L P] [0,1] (.pure (.done (.ret (sv [] (aC tb 18))))) [bS b,cG w.params τ (L) P] 5:=by unfold aZ;kernel_rfl
section
def eX(x:Str):Prop:=x.length<=1000000
theorem DZ{x:Str}(h:eX x):¬(x.length:Int)>=2 ^ 63:=by unfold eX at h;lia
noncomputable def NF(P:Params)(τ:Nat->Nat)(L:Str)(q c jo jd:Nat)(t:TR)(n i:Nat):HF:=
 dP (fun A K=> .call (.ref 566) ⟨[.ref (A jo),.int (.ofNat 1) (t.ev K)],[]⟩) [jo,jd] (fun A u=>[bS (A jd),cG P τ L q]) (fun A K=>[bS (A jd),cG P (bX τ 4 (K (i+1))) L (q+1)]) (fun u u=>[])
  (fun u K=> .ok (.ret (sv [c] (K i)))) 2 n i 600
noncomputable def vX(P:Params)(τ:Nat->Nat)(L:Str)(q jo jd:Nat)(t:TR)(n i:Nat):HF:=
 dP (fun A K=> .call (.ref 566) ⟨[.ref (A jo),.int (.ofNat 1) (t.ev K)],[]⟩) [jo,jd] (fun A u=>[bS (A jd),cG P τ L q]) (fun A u=>[bS (A jd),cG P τ L q]) (fun u u=>[])
  (fun u K=> .ok (.ret (sv [] (K i)))) 1 n i 600
section
variable{w:World}
theorem mI{α:Type}{l:List α}{a:α}(i:Nat)(h:l[i]? =some a:=by rfl):a∈l:=List.mem_of_getElem? h
theorem bC{p:Prop}(h:¬¬p):p:=Classical.byContradiction h
section
variable {α:Type}{Q:α->Prop}
theorem aD {a:α}(h:Q a):∀x∈[a],Q x:=fun x hx=>by cases hx with |head=>exact h |tail _ q=>cases q
theorem aB {a:α}{l:List α}(h:Q a)(hl:∀x∈l,Q x):∀x∈a::l,Q x:=fun x hx=>by cases hx with |head=>exact h |tail _ q=>exact hl x q
theorem aE:∀x∈([]:List α),Q x:=fun x hx=>by cases hx
end
noncomputable def pk(k n:Nat):List Nat->Bool
 | []=>true
 |a::l=>match Nat.ble k a && Nat.blt a n && !(l.elem a) with
  |true=>pk k n l
  |false=>false
set_option tactic.hygienic true in
theorem mZ{k n:Nat}:∀{l:List Nat},pk k n l=true->l.Nodup/\∀i∈l,k<=i/\i<n
 | [],_=>⟨List.nodup_nil,aE⟩
 |a::l,h=>by
  unfold pk at h;split at h
  ·rename_i q
   obtain⟨h1,h2⟩:=mZ h;simp only[Bool.and_eq_true,Bool.not_eq_true',List.elem_eq_mem,decide_eq_false_iff_not] at q;exact⟨List.nodup_cons.mpr ⟨q.2,h1⟩,aB ⟨Nat.le_of_ble_eq_true q.1.1,blt_true q.1.2⟩ h2⟩
  ·nomatch h
theorem bO{L:List Nat}(h:L.Nodup)(sl:List Nat)(hb:pk 0 L.length sl=true):(bM (fun i=>L.getD i 0) sl).Nodup:=
 rY (mZ hb).1 fun i hi j hj e=>by
  have hi:=((mZ hb).2 i hi).2;have hj:=((mZ hb).2 j hj).2;have e:L.getD i 0=L.getD j 0:=e;rw[List.getD_eq_getElem?_getD,List.getD_eq_getElem?_getD,List.getElem?_eq_getElem hi,List.getElem?_eq_getElem hj] at e;exact(List.getElem_inj h).mp e
theorem eE{Q:Nat->Prop}{L:List Nat}(h:∀a∈L,Q a)(sl:List Nat)(hb:pk 0 L.length sl=true):∀a∈bM (fun i=>L.getD i 0) sl,Q a:=fun a q=>by
 obtain⟨j,hj,rfl⟩:=lW q;have hj:=((mZ hb).2 j hj).2;show Q (L.getD j 0);rw[List.getD_eq_getElem?_getD,List.getElem?_eq_getElem hj];exact h _ (List.getElem_mem hj)
theorem tE{L:List Nat}(sl:List Nat)(hb:pk 0 L.length sl=true):∀a∈bM (fun i=>L.getD i 0) sl,a∈L:=eE (fun u h=>h) sl hb
theorem iI{L:List Nat}(h:L.Nodup)(i j:Nat)(hb:pk 0 L.length [i,j]=true):L.getD i 0≠L.getD j 0:=fun e=>(List.nodup_cons.mp (bO h [i,j] hb)).1 (by show L.getD i 0∈[L.getD j 0];rw[e];exact .head _)
theorem cC{α:Type}{a a':α}{l l':List α}(h:a=a')(h':l=l'):a::l=a'::l':=by rw[h,h']
theorem aBi {l:List Nat}(h:j∈l):A j∈bM A l:=by
 induction h with
 |head=>exact .head _
 |tail _ _ ih=>exact .tail _ ih
theorem NG {l l':List Nat}(h:∀j∈l,j∈l')(a:Nat)(ha:a∈bM A l):a∈bM A l':=by
 obtain⟨j,hj,rfl⟩:=lW ha;exact aBi (h j hj)
theorem zE (h:∀j,817<=A j)(l:List Nat)(a:Nat)(ha:a∈bM A l):817<=a:=by
 obtain⟨j,_,rfl⟩:=lW ha;exact h j
theorem aJ.drop1 (X:aJ m' s s')(h:∀y∈m',y∈m\/s.heap.objs.size<=y\/∃o,s.heap.get? y=some o/\s'.heap.get? y=some o):aJ m s s':=
 ⟨fun b x e q=>by
  by_cases z:b∈m'
  ·rcases h b z with h |h |⟨o,h1,h2⟩
   ·exact absurd h q
   ·exact absurd (Heap.lt_size e) (Nat.not_lt.mpr h)
   ·rw[<-e,h1,h2]
  ·exact X.frame b x e z,X.size,X.toks,X.gens,X.drawn,X.os⟩
theorem At.both{s s':Shared}:∀{as:List Nat} {os:List Obj},At s as os->At s' as os->∀y∈as,∃o,s.heap.get? y=some o/\s'.heap.get? y=some o
 | [],_,_,_,_,h=>(List.not_mem_nil h).elim
 |_::_,[],h,_,_,_=>h.elim
 |_::_,o::_,h,h',y,q=>(List.mem_cons.mp q).elim (fun e=>e▸⟨o,h.1,h'.1⟩) (At.both h.2 h'.2 y)
theorem aJ.all {os:List Obj}(X:aJ as s s')(h:At s as os)(h':At s' as os):aJ [] s s':=X.drop1 fun y hy=> .inr (.inr (h.both h' y hy))
theorem aBj {L:List Nat}(h:L.Nodup)(hi:i<L.length)(hj:j<L.length)(hij:i≠j):L.getD i 0≠L.getD j 0:=fun e=>hij (by
 rw[List.getD_eq_getElem?_getD,List.getD_eq_getElem?_getD,List.getElem?_eq_getElem hi,List.getElem?_eq_getElem hj] at e;exact(List.getElem_inj h).mp e)
theorem vY {m:Nat}(h:n - i=m+1):i<n/\n - (i+1)=m/\i+1<=n:=⟨Nat.lt_of_sub_eq_succ h,(Nat.sub_succ n i).trans (congrArg Nat.pred h),Nat.lt_of_sub_eq_succ h⟩
theorem vZ (h:n - i=0)(h':i<=n):i=n:=by lia
theorem bB(tb:Nat->Nat)(j:Nat):1335<=aC tb j:=Nat.le_add_left _ _
theorem NH(L:Str)(q c u:Nat)(hu:u=q+1)(hc:L.cps[q]? =some c)(h1:L.length≠1):((slicePicked L (oZ (some (Int.ofNat q,TR.l 0))) (oZ (some (Int.ofNat u,TR.l 0))) none).length == L.length)=false/\
  ((slicePicked L (oZ (some (Int.ofNat q,TR.l 0))) (oZ (some (Int.ofNat u,TR.l 0))) none).filterMap (L.cps[·]?)).toArray= #[c]:=by
 subst hu
 have hq:q<L.length:=by
  rcases Nat.lt_or_ge q L.cps.size with h |h
  ·exact h
  ·rw[Array.getElem?_eq_none h] at hc;cases hc
 have e:slicePicked L (oZ (some (Int.ofNat q,TR.l 0))) (oZ (some (Int.ofNat (q+1),TR.l 0))) none=[q]:=by
  have h:=StrLaws.strSliceIndices_plain (a:=q) (b:=q+1) (len:=L.length) (Nat.le_succ q) hq;show Builtin.Str.strSliceIndices (some ((q:Nat):Int)) (some ((q+1:Nat):Int)) 1 L.length=[q];rw[h,Nat.add_sub_cancel_left];rfl
 rw[e];refine⟨?_,?_⟩
 ·cases h:([q].length == L.length) with
  |false=>rfl
  |true=>exact absurd (eq_of_beq h).symm h1
 ·simp[hc]
theorem NI {t:TR}(hjo:jo<n)(ht:t.ok i=true):cH (fun A K=>Code.call (.ref 566) ⟨[.ref (A jo),.int (.ofNat 1) (t.ev K)],[]⟩) n i:=fun A K A' K' ha hk=>by
 show Code.call _ ⟨[.ref (A' jo),.int _ (t.ev K')],[]⟩=Code.call _ ⟨[.ref (A jo),.int _ (t.ev K)],[]⟩;rw[ha jo hjo,TR.lcc ht hk]
theorem NJ {b:Nat}(h1:a<n)(h2:b<n):∀j∈[a,b],j<n:=aB h1 (aD h2)
theorem NK {b:Nat}(h:a≠b):[a,b].Nodup:=by simp[h]
theorem aBk {L:Str}{t:TR}(hL:eX L)(h1:L.length≠1)(hc:L.cps[q]? =some c)(hjo:jo<n)(hjd:jd<n)(hne:jo≠jd)(ht:t.ok i=true):
  aG (model PR w) (aX w.params) (NF w.params τ L q c jo jd t n i):=by
 have hq:q<L.length:=by
  rcases Nat.lt_or_ge q L.cps.size with h |h
  ·exact h
  ·rw[Array.getElem?_eq_none h] at hc;cases hc
 refine eN 0 (fun u u=>rfl) (NI hjo ht) ?_ ?_ (fun u u u u u u=>rfl) ?_ (fun u u=>rfl) (fun u u=>rfl) (NJ hjo hjd) (NK hne) fun A K bl p s hA hK hd B ha nd lo=> ?_
 ·intro A K A' K' ha hk
  show[bS (A' jd),_]=[bS (A jd),_];rw[ha jd hjd]
 ·intro A K A' K' ha hk
  show[bS (A' jd),cG w.params (bX τ 4 (K' (i+1))) L (q+1)]=[bS (A jd),cG w.params (bX τ 4 (K (i+1))) L (q+1)];rw[ha jd (by lia),hk (i+1) (by lia)]
 ·intro A K A' K' ha hk
  show Except.ok (Flow.ret (sv [c] (K' i)))=Except.ok (Flow.ret (sv [c] (K i)));rw[hk i (by lia)]
 ·have fin:∀{x y:Nat} {ad:Nat->Nat} {s':Shared} {nn:Nat},1335<=x->1335<=y->dX [A jo,A jd] ad s s' [0,1] [some (bS (A jd)),some (cG w.params (bX τ 4 y) L (q+1))] nn->
    ∃la lk:List Nat,la.length=0/\la.Nodup/\(∀a∈la,s.heap.objs.size<=a)/\(∀t∈lk,1335<=t)/\aJ (bM A [jo,jd]) s s'/\
    At s' (bM A [jo,jd]) [bS (upd A n la jd),cG w.params (bX τ 4 (upd K i lk (i+1))) L (q+1)]/\At s' la []/\(Except.ok (Flow.ret (sv [c] x)):Result)=Except.ok (Flow.ret (sv [c] (upd K i lk i))):=by
   intro x y ad s' nn hx hy P;refine⟨[],[x,y],rfl,List.nodup_nil,aE,aB hx (aD hy),P.ext,?_,trivial,?_⟩
   ·rw[iY,iP (l:=[x,y]) (j:=1) (by show 1<2;decide)]
    exact⟨P.at_ 0 0 _ rfl rfl,P.at_ 1 1 _ rfl rfl,trivial⟩
   ·have:=iP (A:=K) (n:=i) (l:=[x,y]) (j:=0) (by show 0<2;decide)
    rw[Nat.add_zero] at this;rw[this];rfl
  rcases Nat.lt_or_ge (q+1) L.length with hlt |hge
  ·obtain⟨p1,p2⟩:=NH L q c (q+1) rfl hc h1
   exact cT (fun ad tb=>aBf w _ ad tb bl p τ L (t.ev K) (A jo) (A jd) q c)
    (aB (fL (DZ hL) rfl) (aB (DO (by simp;lia) rfl) (aB (LV (by simp;lia) rfl) (aD (LW (by show 1<=_;decide) dT rfl p1 p2))))) B ha rfl nd lo hd dT fun ad tb s' P=>fin (bB _ _) (bB _ _) P
  ·obtain⟨p1,p2⟩:=NH L q c L.length (by lia) hc h1
   have hlen:L.length=q+1:=by lia
   exact cT (fun ad tb=>aBg w _ ad tb bl p τ L (t.ev K) (A jo) (A jd) q c)
    (aB (fL (DZ hL) rfl) (aB (DO (by simp;lia) rfl) (aB (LV (by simp;lia) rfl) (aD (LW (by show 1<=_;decide) dT rfl p1 p2))))) B ha rfl nd lo hd dT fun ad tb s' P=>fin (bB _ _) (bB _ _) (by rw[hlen] at P;exact P)
theorem NL {L:Str}{t:TR}(hL:eX L)(hq:L.length<=q)(hjo:jo<n)(hjd:jd<n)(hne:jo≠jd)(ht:t.ok i=true):
  aG (model PR w) (aX w.params) (vX w.params τ L q jo jd t n i):=by
 refine eN 0 (fun u u=>rfl) (NI hjo ht) ?_ ?_ (fun u u u u u u=>rfl) ?_ (fun u u=>rfl) (fun u u=>rfl) (NJ hjo hjd) (NK hne) fun A K bl p s hA hK hd B ha nd lo=> ?_
 ·intro A K A' K' ha hk
  show[bS (A' jd),_]=[bS (A jd),_];rw[ha jd hjd]
 ·intro A K A' K' ha hk
  show[bS (A' jd),_]=[bS (A jd),_];rw[ha jd (by lia)]
 ·intro A K A' K' ha hk
  show Except.ok (Flow.ret (sv [] (K' i)))=Except.ok (Flow.ret (sv [] (K i)));rw[hk i (by lia)]
 ·refine cT (fun ad tb=>aBh w _ ad tb bl p τ L (t.ev K) (A jo) (A jd) q 0)
    (aB (fL (DZ hL) rfl) (aD (DO (by simp;lia) rfl))) B ha rfl nd lo hd dT fun ad tb s' P=> ?_
  refine⟨[],[aC tb 18],rfl,List.nodup_nil,aE,aD (bB _ _),P.ext,?_,trivial,?_⟩
  ·rw[iY]
   exact⟨P.at_ 0 0 _ rfl rfl,P.at_ 1 1 _ rfl rfl,trivial⟩
  ·have:=iP (A:=K) (n:=i) (l:=[aC tb 18]) (j:=0) (by show 0<1;decide)
   rw[Nat.add_zero] at this;rw[this];rfl
end
end
section
structure LX where
 (σ τ:Nat->Nat) (L:Str) (a b c d e f g:Nat)
structure LT where
 (t18 t21 t25 t4 P ln:Nat) (ρ:Nat->Nat) (u:List Nat)
noncomputable def LX.l(X:LX):List Nat:=[X.a,X.b,X.c,X.d,X.e,X.f,X.g]
noncomputable def NM(P:Params)(fs:Bool)(ρ:Nat->Nat)(a:Nat)(q:Bool)(esc:Nat)(u:List Nat):Obj:=match fs with
 |true=>zD P ρ a q [esc]
 |false=>nW P ρ a q [esc] u
noncomputable def LX.os(X:LX)(P:Params)(t18 t21 t25 t4:Nat)(st:Option Nat)(ln:Nat)(tok:List Nat)(n:Nat)(rt:Obj):List Obj:=
 [dA X.b,dB P (eW X.σ t18 t21 t25) X.c X.e X.f st ln ⟨⟨tok⟩⟩,bS X.d,cG P (dZ X.τ t4) X.L n,bJ,bJ,rt]
noncomputable def NN:List Nat:=[0,1,2,3,4,5,6]
noncomputable def NO(fs:Bool)(i4:Nat)(b3:Option Nat)(ρ K:Nat->Nat):Nat->Nat:=
 bX (match fs with
  |true=>bX (match b3 with |some j=>bX ρ 3 (K j) |none=>ρ) 4 (K i4)
  |false=>match b3 with |some j=>bX ρ 3 (K j) |none=>ρ) 5 (K 7)
section
variable(w:World)(X:LX)(T:LT)
noncomputable def iC(c:Nat):HF:=NF w.params (dZ X.τ T.t4) X.L T.P c 2 3 (TR.k 6) 8 7
noncomputable def wA(k:Nat)(n i:Nat):HF:=yY false ⟨⟨[92]⟩⟩ (TR.l (X.σ 14)) ⟨⟨[k+65]⟩⟩ (TR.k 7) n i
noncomputable def EA(k:Nat)(n i:Nat):HF:=yY true ⟨⟨WC⟩⟩ (TR.l (X.σ 7)) ⟨⟨[k+65]⟩⟩ (TR.k 7) n i
noncomputable def zF(z:List Nat)(x:Nat)(xs:List Nat)(k n i:Nat):HF:=vT ⟨⟨z⟩⟩ ⟨⟨x::xs⟩⟩ (TR.l T.t25) ⟨⟨[k+65]⟩⟩ (TR.k 7) n i
noncomputable def nX(i:Nat):HF:=LZ true 8 [(⟨⟨[97]⟩⟩,TR.k i),(⟨⟨[99]⟩⟩,TR.k (i+1))] ⟨⟨[97]⟩⟩ (TR.l T.t18) 9 (i+2)
abbrev fC(bl:List (Code×Pos))(p:Pos)(fs:Bool)(st:Option Nat)(tok:List Nat)(q:Bool)(y:Nat)(hs:List HF)(more:Bool)(a18 a21 a25 a4:TR)(st':Option Nat)(ln':Nat)(tok':List Nat)(P':Nat)(i4:Nat)(b3:Option Nat)(q':Bool)(y':Nat)(u':List Nat)(nn:Nat):Prop:=
 ∀g₀,∃f_ h_,∀ad tb,
  let r:=cN w g₀ X.l ad tb hs f_ h_ (pA X.g) bl p 550 (X.os w.params T.t18 T.t21 T.t25 T.t4 st T.ln tok T.P (NM w.params fs T.ρ X.a q y T.u))
  dI r NN=dJ r (match more with |true=>[bZ ⟨pA X.g,none,none,bl,none⟩ p 550] |false=>[]) ⟨pA X.g,none,none,bl,none⟩ (match more with |true=> .pure (.again (pA X.g)) |false=> .pure (.done .next))
   ((X.os w.params (a18.ev (aC tb)) (a21.ev (aC tb)) (a25.ev (aC tb)) (a4.ev (aC tb)) st' ln' tok' P' (nW w.params (NO fs i4 b3 T.ρ (aC tb)) X.a q' [y'] u')).map some) [] nn
variable(bl:List (Code×Pos))(p:Pos)(fs q:Bool)(y k x:Nat)(xs zs tok:List Nat)
noncomputable def sT:Bool->Nat
 |true=>32
 |false=>9
noncomputable def qt:Bool->Nat
 |true=>39
 |false=>34
theorem aBl:fC w X T bl p fs (some 32) [] false 32 [vX w.params (dZ X.τ T.t4) X.L T.P 2 3 (TR.k 6) 8 7] false (.l T.t18) (.l T.t21) (.l T.t25) (.l T.t4) none T.ln [] T.P 8 none false 32 [] 8:=by
 intro g₀;cases fs <;> exact⟨247,(aQ gD [6,28672,346,g7]),fun ad tb=>by intro r;kernel_rfl⟩
theorem NP(c:Bool):fC w X T bl p fs (some 32) [] false 32 [iC w X T (sT c)] true (.l T.t18) (.l T.t21) (.l T.t25) (.k 8) (some 32) T.ln [] (T.P+1) 9 none false 32 [sT c] 8:=by
 intro g₀;cases fs <;> cases c <;> exact⟨323,(aQ 1792 [36,gb,4,14336,36,gb,4,14592,36,gb,4,14336,36,gp,7,117469184,346,g7]),fun ad tb=>by intro r;kernel_rfl⟩
theorem aBm:fC w X T bl p fs (some 32) [] false 32 [iC w X T 10] true (.l T.t18) (.k 13) (.l T.t25) (.k 8) (some 32) (T.ln+1) [] (T.P+1) 9 none false 32 [10] 8:=by
 intro g₀;cases fs <;> exact⟨373,(aQ 7168 [36,g9,4,57344,36,g9,4,58368,36,g9,3,3584,36,ga,11,1924615125248,36,gb,3,896,36,ga,4,7296,36,ga,4,7168,49,gr,3,2048,36,gp,85,gW,36,ga,4,7168,36,ga,66,CI]),fun ad tb=>by intro r;kernel_rfl⟩
theorem aBn:fC w X T bl p fs (some 32) [] false 32 [iC w X T 92] true (.k 7) (.l T.t21) (.l T.t25) (.k 8) (some 92) T.ln [] (T.P+1) 9 (some 22) false 97 [92] 8:=by
 intro g₀;cases fs <;> exact⟨354,(aQ gr [3,2051,12,vD,36,gb,6,3670912,36,ga,4,7168,36,gb,7,58734592,36,gp,7,117469184,346,g7]),fun ad tb=>by intro r;kernel_rfl⟩
theorem NQ(c:Bool):fC w X T bl p fs (some 32) [] false 32 [iC w X T (qt c)] true (.k 7) (.l T.t21) (.l T.t25) (.k 8) (some (qt c)) T.ln [] (T.P+1) 9 none false 32 [qt c] 9:=by
 intro g₀;cases fs <;> cases c <;> exact⟨481,(aQ gA [9,17209236480,36,g9,3,3584,36,ga,7,29367296,36,gb,2,72,9,147492,40,4,20,8604618240,36,ga,7,29367296,36,gb,6,3670912,36,ga,4,7168,36,gb,7,58734592,36,gp,7,117469184,346,g7]),fun ad tb=>by intro r;kernel_rfl⟩
theorem aBo:fC w X T bl p fs (some 32) [] false 32 [iC w X T (k+65),wA X k 8 22,EA X k 8 23] true (.k 25) (.l T.t21) (.k 7) (.k 8) (some 97) T.ln [k+65] (T.P+1) 9 none false 32 [k+65] 8:=by
 intro g₀;cases fs <;> exact⟨397,(aQ gD [3,7,9,33562626,45,gN,6,14683904,36,ga,7,29367808,36,gb,6,3670912,36,ga,4,7168,36,gb,7,58734592,36,gp,7,117469184,346,g7]),fun ad tb=>by intro r;kernel_rfl⟩
theorem NR(c:Bool):fC w X T bl p false (some (qt c)) tok q y [iC w X T (qt c)] true (.k 23) (.l T.t21) (.l T.t25) (.k 8) (some 97) T.ln tok (T.P+1) 9 none true y [qt c] 8:=by
 intro g₀;cases c <;> exact⟨345,(aQ gA [6,4201472,36,g9,4,58368,36,g9,16,0xe00e001c01c01c00,36,ga,4,7168,36,g9,346,g7]),fun ad tb=>by intro r;kernel_rfl⟩
theorem NS(c:Bool):fC w X T bl p false (some (qt c)) [] q y [iC w X T (k+65),wA X k 8 24] true (.l T.t18) (.l T.t21) (.k 7) (.k 8) (some (qt c)) T.ln [k+65] (T.P+1) 9 none true y [k+65] 8:=by
 intro g₀;cases c <;> exact⟨393,(aQ gD [6,7168,36,g9,3,3840,36,ga,7,29367296,36,g9,4,58368,36,g9,16,0xe00e001c01c01c00,36,ga,4,7168,36,g9,346,g7]),fun ad tb=>by intro r;kernel_rfl⟩
theorem NT(c:Bool):fC w X T bl p false (some (qt c)) (x::xs) q y [iC w X T (k+65),wA X k 8 24,zF T zs x xs k 8 25] true (.l T.t18) (.l T.t21) (.k 25) (.k 8) (some (qt c)) T.ln zs (T.P+1) 9 none true y [k+65] 8:=by
 intro g₀;cases c <;> exact⟨391,(aQ gD [6,8395776,36,g9,3,3840,36,ga,7,29367296,36,g9,4,58368,36,g9,16,0xe00e001c01c01c00,36,ga,4,7168,36,g9,346,g7]),fun ad tb=>by intro r;kernel_rfl⟩
theorem aBp:fC w X T bl p false (some 92) [] q 97 [iC w X T (k+65)] true (.l (T.ρ 3)) (.l T.t21) (.k 7) (.k 8) (some 97) T.ln [k+65] (T.P+1) 9 none q 97 [k+65] 8:=by
 intro g₀ <;> exact⟨411,(aQ 33562626 [45,gN,6,14683648,49,gA,6,4196096,36,gb,4,14336,36,gp,4,28679,6,3584,36,ga,4,7168,36,g9,3,3584,36,ga,4,7168,36,g9,346,g7]),fun ad tb=>by intro r;kernel_rfl⟩
theorem aBq:fC w X T bl p false (some 92) (x::xs) q 97 [iC w X T (k+65),zF T zs x xs k 8 24] true (.l (T.ρ 3)) (.l T.t21) (.k 24) (.k 8) (some 97) T.ln zs (T.P+1) 9 none q 97 [k+65] 8:=by
 intro g₀ <;> exact⟨409,(aQ 33562626 [45,gN,6,14683648,49,gA,6,6293248,36,gb,4,14336,36,gp,4,28679,6,3584,36,ga,4,7168,36,g9,3,3584,36,ga,4,7168,36,g9,346,g7]),fun ad tb=>by intro r;kernel_rfl⟩
theorem aBr:fC w X T bl p false (some 97) tok q y [vX w.params (dZ X.τ T.t4) X.L T.P 2 3 (TR.k 6) 8 7,nX T 20] false (.l T.t18) (.l T.t21) (.l T.t25) (.l T.t4) none T.ln tok T.P 9 none q y [] 9:=by
 intro g₀ <;> exact⟨363,(aQ gr [19,vB,36,g9,3,3584,36,ga,4,7168,36,g9,3,3584,36,ga,4,7168,36,g9,346,g7]),fun ad tb=>by intro r;kernel_rfl⟩
theorem NU(c:Bool):fC w X T bl p false (some 97) [] true y [iC w X T (sT c),nX T 21] false (.k 28) (.l T.t21) (.l T.t25) (.k 8) (some 32) T.ln [] (T.P+1) 9 none true y [sT c] 9:=by
 intro g₀;cases c <;> exact⟨468,(aQ 7168 [36,g9,4,57344,36,g9,3,3584,49,gA,6,4201600,36,ga,4,7168,36,gb,1,3,19,vB,36,g9,3,3584,36,ga,4,7168,36,g9,3,3584,36,ga,4,7168,36,g9,346,g7]),fun ad tb=>by intro r;kernel_rfl⟩
theorem NV(c:Bool):fC w X T bl p false (some 97) (x::xs) q y [iC w X T (sT c),nX T 21,fX ⟨⟨[sT c]⟩⟩ (TR.k 7) 9 23,fX ⟨⟨x::xs⟩⟩ (TR.l T.t25) 9 32] false (.k 28) (.l T.t21) (.l T.t25) (.k 8) (some 32) T.ln (x::xs) (T.P+1) 9 none q y [sT c] 9:=by
 intro g₀;cases c <;> exact⟨431,(aQ 256 [36,gb,3,896,50,gD,6,29184,36,gp,4,28672,36,g9,19,0xe00f007804802402400,36,g9,3,3584,36,ga,4,7168,36,g9,3,3584,36,ga,4,7168,36,g9,346,g7]),fun ad tb=>by intro r;kernel_rfl⟩
theorem aBt:fC w X T bl p false (some 97) [] true y [iC w X T 10,nX T 26] false (.k 33) (.k 13) (.l T.t25) (.k 8) (some 32) (T.ln+1) [] (T.P+1) 9 none true y [10] 9:=by
 intro g₀ <;> exact⟨518,(aQ 1792 [36,gb,4,14336,36,gb,3,896,50,gD,6,29184,36,gp,4,28672,36,g9,19,0xe00e001e01200900900,36,gb,4,14336,36,gp,3,1792,36,gb,4,14336,36,gp,3,1792,36,gb,4,14592,36,gb,3,896,36,ga,4,7296,36,ga,4,7168,49,gr,3,2048,36,gp,85,gW,36,ga,4,7168,36,ga,66,CI]),fun ad tb=>by intro r;kernel_rfl⟩
theorem aBu:fC w X T bl p false (some 97) (x::xs) q y [iC w X T 10,nX T 26,fX ⟨⟨[10]⟩⟩ (TR.k 7) 9 28,fX ⟨⟨x::xs⟩⟩ (TR.l T.t25) 9 37] false (.k 33) (.k 13) (.l T.t25) (.k 8) (some 32) (T.ln+1) (x::xs) (T.P+1) 9 none q y [10] 9:=by
 intro g₀ <;> exact⟨481,(aQ 1024 [36,g9,3,3584,49,gA,6,4201600,36,ga,4,7168,36,gb,19,0x3803c01e01200900900,36,gb,4,14336,36,gp,3,1792,36,gb,4,14336,36,gp,3,1792,36,gb,4,14592,36,gb,3,896,36,ga,4,7296,36,ga,4,7168,49,gr,3,2048,36,gp,85,gW,36,ga,4,7168,36,ga,66,CI]),fun ad tb=>by intro r;kernel_rfl⟩
theorem aBv:fC w X T bl p false (some 97) tok q y [iC w X T 34,nX T 21] true (.k 7) (.l T.t21) (.l T.t25) (.k 8) (some 34) T.ln tok (T.P+1) 9 none q y [34] 9:=by
 intro g₀ <;> exact⟨487,(aQ 33562626 [45,gN,6,14683648,36,ga,7,29367296,36,g9,4,58368,36,g9,3,3584,36,ga,7,29367296,36,gb,1,3,19,vB,36,g9,3,3584,36,ga,4,7168,36,g9,3,3584,36,ga,4,7168,36,g9,346,g7]),fun ad tb=>by intro r;kernel_rfl⟩
theorem aBw:fC w X T bl p false (some 97) tok q y [iC w X T 92,nX T 21] true (.k 7) (.l T.t21) (.l T.t25) (.k 8) (some 92) T.ln tok (T.P+1) 9 (some 33) q 97 [92] 9:=by
 intro g₀ <;> exact⟨542,(aQ gA [15,0x401c01c01c01c00,36,ga,7,29367296,36,g9,3,3584,36,ga,7,29367296,36,g9,4,58368,36,g9,3,3584,36,ga,7,29367296,36,gb,1,3,19,vB,36,g9,3,3584,36,ga,4,7168,36,g9,3,3584,36,ga,4,7168,36,g9,346,g7]),fun ad tb=>by intro r;kernel_rfl⟩
theorem aBx:fC w X T bl p false (some 97) (x::xs) q y [iC w X T (k+65),yY false ⟨⟨[92]⟩⟩ (TR.l (X.σ 14)) ⟨⟨[97]⟩⟩ (TR.l T.t18) 8 20,nX T 21,wA X k 9 33,EA X k 9 34,zF T zs x xs k 9 35] true (.l T.t18) (.l T.t21) (.k 35) (.k 8) (some 97) T.ln zs (T.P+1) 9 none q y [k+65] 9:=by
 intro g₀ <;> exact⟨577,(aQ gr [6,12586496,36,gp,4,30720,36,g9,6,14683904,36,ga,7,29367296,36,g9,3,3584,36,ga,7,29367296,36,g9,4,58368,36,g9,3,3584,36,ga,7,29367296,36,gb,1,3,19,vB,36,g9,3,3840,36,ga,4,7168,36,g9,3,3584,36,ga,4,7168,36,g9,346,g7]),fun ad tb=>by intro r;kernel_rfl⟩
end
end
section
set_option autoImplicit true in
class inductive bU:Bool->List Nat->Option Nat->List Nat->Bool->Nat->Nat->Nat->Option Nat->List Nat->Bool->Nat->Nat->List Nat->Prop
 |spEof:bU φ [] (some 32) [] false 32 χ 0 none [] false χ 32 []
 |spSp (h:bU false ψ (some 32) [] false 32 χ ω η ζ θ ι μ ν):bU φ (32::ψ) (some 32) [] false 32 χ (ω+1) η ζ θ ι μ ν
 |spTab (h:bU false ψ (some 32) [] false 32 χ ω η ζ θ ι μ ν):bU φ (9::ψ) (some 32) [] false 32 χ (ω+1) η ζ θ ι μ ν
 |spNl (h:bU false ψ (some 32) [] false 32 (χ+1) ω η ζ θ ι μ ν):bU φ (10::ψ) (some 32) [] false 32 χ (ω+1) η ζ θ ι μ ν
 |spBs (h:bU false ψ (some 92) [] false 97 χ ω η ζ θ ι μ ν):bU φ (92::ψ) (some 32) [] false 32 χ (ω+1) η ζ θ ι μ ν
 |spQ (h:bU false ψ (some 39) [] false 32 χ ω η ζ θ ι μ ν):bU φ (39::ψ) (some 32) [] false 32 χ (ω+1) η ζ θ ι μ ν
 |spM (h:bU false ψ (some 34) [] false 32 χ ω η ζ θ ι μ ν):bU φ (34::ψ) (some 32) [] false 32 χ (ω+1) η ζ θ ι μ ν
 |spL (hk:γ<16) (h:bU false ψ (some 97) [γ+65] false 32 χ ω η ζ θ ι μ ν):bU φ ((γ+65)::ψ) (some 32) [] false 32 χ (ω+1) η ζ θ ι μ ν
 |qEnd (h:bU false ψ (some 97) ξ true β χ ω η ζ θ ι μ ν):bU false (39::ψ) (some 39) ξ α β χ (ω+1) η ζ θ ι μ ν
 |qL0 (hk:γ<16) (h:bU false ψ (some 39) [γ+65] true β χ ω η ζ θ ι μ ν):bU false ((γ+65)::ψ) (some 39) [] α β χ (ω+1) η ζ θ ι μ ν
 |qL1 (hk:γ<16) (h:bU false ψ (some 39) (ε::(δ++[γ+65])) true β χ ω η ζ θ ι μ ν):bU false ((γ+65)::ψ) (some 39) (ε::δ) α β χ (ω+1) η ζ θ ι μ ν
 |mEnd (h:bU false ψ (some 97) ξ true β χ ω η ζ θ ι μ ν):bU false (34::ψ) (some 34) ξ α β χ (ω+1) η ζ θ ι μ ν
 |mL0 (hk:γ<16) (h:bU false ψ (some 34) [γ+65] true β χ ω η ζ θ ι μ ν):bU false ((γ+65)::ψ) (some 34) [] α β χ (ω+1) η ζ θ ι μ ν
 |mL1 (hk:γ<16) (h:bU false ψ (some 34) (ε::(δ++[γ+65])) true β χ ω η ζ θ ι μ ν):bU false ((γ+65)::ψ) (some 34) (ε::δ) α β χ (ω+1) η ζ θ ι μ ν
 |bsL0 (hk:γ<16) (h:bU false ψ (some 97) [γ+65] α 97 χ ω η ζ θ ι μ ν):bU false ((γ+65)::ψ) (some 92) [] α 97 χ (ω+1) η ζ θ ι μ ν
 |bsL1 (hk:γ<16) (h:bU false ψ (some 97) (ε::(δ++[γ+65])) α 97 χ ω η ζ θ ι μ ν):bU false ((γ+65)::ψ) (some 92) (ε::δ) α 97 χ (ω+1) η ζ θ ι μ ν
 |aEof:bU false [] (some 97) ξ α β χ 0 none ξ α χ β []
 |aSp0:bU false (32::ψ) (some 97) [] true β χ 1 (some 32) [] true χ β [32]
 |aSp1:bU false (32::ψ) (some 97) (ε::δ) α β χ 1 (some 32) (ε::δ) α χ β [32]
 |aTab0:bU false (9::ψ) (some 97) [] true β χ 1 (some 32) [] true χ β [9]
 |aTab1:bU false (9::ψ) (some 97) (ε::δ) α β χ 1 (some 32) (ε::δ) α χ β [9]
 |aNl0:bU false (10::ψ) (some 97) [] true β χ 1 (some 32) [] true (χ+1) β [10]
 |aNl1:bU false (10::ψ) (some 97) (ε::δ) α β χ 1 (some 32) (ε::δ) α (χ+1) β [10]
 |aM (h:bU false ψ (some 34) ξ α β χ ω η ζ θ ι μ ν):bU false (34::ψ) (some 97) ξ α β χ (ω+1) η ζ θ ι μ ν
 |aBs (h:bU false ψ (some 92) ξ α 97 χ ω η ζ θ ι μ ν):bU false (92::ψ) (some 97) ξ α β χ (ω+1) η ζ θ ι μ ν
 |aL (hk:γ<16) (h:bU false ψ (some 97) (ε::(δ++[γ+65])) α β χ ω η ζ θ ι μ ν):bU false ((γ+65)::ψ) (some 97) (ε::δ) α β χ (ω+1) η ζ θ ι μ ν
theorem aBy (hk:k<16):(!(Builtin.Str.occurrences ⟨⟨[92]⟩⟩ ⟨⟨[k+65]⟩⟩ 0 (Str.length ⟨⟨[92]⟩⟩) 1).isEmpty)=false:=by
 have:∀k<16,(!(Builtin.Str.occurrences ⟨⟨[92]⟩⟩ ⟨⟨[k+65]⟩⟩ 0 (Str.length ⟨⟨[92]⟩⟩) 1).isEmpty)=false:=by decide+kernel
 exact this k hk
theorem aBz (hk:k<16):(!(Builtin.Str.occurrences ⟨⟨WC⟩⟩ ⟨⟨[k+65]⟩⟩ 0 (Str.length ⟨⟨WC⟩⟩) 1).isEmpty)=true:=by
 have:∀k<16,(!(Builtin.Str.occurrences ⟨⟨WC⟩⟩ ⟨⟨[k+65]⟩⟩ 0 (Str.length ⟨⟨WC⟩⟩) 1).isEmpty)=true:=by decide+kernel
 exact this k hk
theorem aC0(x:Nat)(xs:List Nat)(c:Nat):(⟨⟨x::xs⟩⟩:Str)++(⟨⟨[c]⟩⟩:Str)=⟨⟨x::(xs++[c])⟩⟩:=by
 show Str.mk ((⟨x::xs⟩:Array Nat)++(⟨[c]⟩:Array Nat))=_;congr 1;apply Array.ext';simp
theorem aC1 {xs l:List Nat}(h:(x::xs).length+(c::l).length<=1000000):(Str.mk ⟨x::(xs++[c])⟩).length<=sizeLine:=by
 refine Nat.le_trans (?_:_<=1000000) dT;show (x::(xs++[c])).length<=_;simp at h ⊢
 lia
theorem EB {xs l:List Nat}(h:(x::xs).length+l.length<=1000000):¬((Str.mk ⟨x::xs⟩).length:Int)>=2 ^ 63:=by
 have:(Str.mk ⟨x::xs⟩).length=(x::xs).length:=rfl;rw[this]
 lia
theorem NW {L:Str}{P:Nat}{l:List Nat}(h:L.cps.toList.drop P=c::l):L.cps[P]? =some c/\L.cps.toList.drop (P+1)=l:=by
 constructor
 ·have:=congrArg List.head? h
  rw[List.head?_drop] at this;rw[<-Array.getElem?_toList];exact this
 ·have e:L.cps.toList.drop (P+1)=(L.cps.toList.drop P).drop 1:=by rw[List.drop_drop]
  rw[e,h];rfl
theorem aC2{L:Str}{P:Nat}(h:L.cps.toList.drop P=[]):L.length<=P:=by
 have:=List.drop_eq_nil_iff.mp h;exact this
theorem jO (h:aJ m s s')(h':aJ m s' s''):aJ m s s'':=(h.trans h').mono fun a ha=>by
 rcases List.mem_append.mp ha with q |q <;> exact q
theorem NX {X:LX}{P:Params}{rt:Obj}{b:Nat}{st:Option Nat}(Q:dX X.l ad s s' NN ((X.os P a b c d st ln tok n rt).map some) nn):At s' X.l (X.os P a b c d st ln tok n rt):=
 (Q.ats [0,1,2,3,4,5,6])
def LT.Ok(T:LT):Prop:=(1335<=T.t18/\1335<=T.t21/\1335<=T.t25/\1335<=T.t4)/\∀j,1335<=T.ρ j
noncomputable def TR.ge:TR->Prop
 | .l t=>1335<=t
 | .k _=>True
theorem TR.ge_ev{a:TR}(h:a.ge)(tb:Nat->Nat):1335<=a.ev (aC tb):=by
 cases a
 ·exact h
 ·exact bB _ _
theorem NY {i4:Nat}{b3:Option Nat}(h:∀j,1335<=ρ j)(hK:∀j,1335<=K j):∀j,1335<=NO fs i4 b3 ρ K j:=by
 cases fs <;> cases b3 <;> first |exact fH h (hK _) |exact fH (fH h (hK _)) (hK _) |exact fH (fH (fH h (hK _)) (hK _)) (hK _)
section
variable{w:World}{X:LX}
def aC3(w:World)(X:LX)(fs:Bool)(st:Option Nat)(tok:List Nat)(q:Bool)(esc ln P:Nat)(s:Shared):Prop:=
 ∃T:LT,P=T.P/\ln=T.ln/\T.Ok/\At s X.l (X.os w.params T.t18 T.t21 T.t25 T.t4 st T.ln tok T.P (NM w.params fs T.ρ X.a q esc T.u))
def aC4(w:World)(X:LX)(st:Option Nat)(tok:List Nat)(q:Bool)(ln esc:Nat)(u:List Nat)(P:Nat)(s:Shared):Prop:=
 ∃T:LT,T.Ok/\At s X.l (X.os w.params T.t18 T.t21 T.t25 T.t4 st ln tok P (nW w.params T.ρ X.a q [esc] u))
abbrev zG(w:World)(X:LX)(fs:Bool)(l:List Nat)(st:Option Nat)(tok:List Nat)(q:Bool)(esc ln n:Nat)(st':Option Nat)(tok':List Nat)(q':Bool)(ln' y':Nat)(u':List Nat):Prop:=
 ∀(P:Nat) (s:Shared) (bl:List (Code×Pos)) (p:Pos) (R:Result->Shared->Prop),X.L.cps.toList.drop P=l->tok.length+l.length<=1000000->aC3 w X fs st tok q esc ln P s->aT w s->frameCount bl<=550->
  (∀s',aJ X.l s s'->aT w s'->aC4 w X st' tok' q' ln' y' u' (P+n) s'->R (.ok .next) s')->wpCode (model PR w) ⟨pA X.g,none,none,bl,none⟩ R p s
section
variable{fs:Bool}{st:Option Nat}{tok:List Nat}{q:Bool}{y ln:Nat}{hs:LT->List HF}{a18 a21 a25 a4:LT->TR}{st1:Option Nat}{tok1:List Nat}{i4:Nat}{b3:Option Nat}{q1:Bool}{y1:Nat}{u1:List Nat}{nn:Nat}{l:List Nat}(nd:X.l.Nodup)(lo:∀x∈X.l,817<=x)
include nd lo
theorem pC(d e:Nat)(t:∀(T:LT) bl p,fC w X T bl p fs st tok q y (hs T) false (a18 T) (a21 T) (a25 T) (a4 T) st1 (T.ln+d) tok1 (T.P+e) i4 b3 q1 y1 u1 nn)
  (hk:∀T:LT,X.L.cps.toList.drop T.P=l->tok.length+l.length<=1000000->∀hf∈hs T,aG (model PR w) (aX w.params) hf)(g:∀T:LT,T.Ok->(a18 T).ge/\(a21 T).ge/\(a25 T).ge/\(a4 T).ge):zG w X fs l st tok q y ln e st1 tok1 q1 (ln+d) y1 u1:=by
 rintro P s bl p R hr hl ⟨T,rfl,rfl,O,hat⟩ B hd hR
 obtain⟨f_,h_,E⟩:=t T bl p s.gens.size;have g:=g T O;exact cT E (hk T hr hl) B hat rfl nd lo hd dT fun ad tb s₁ Q=>hR s₁ Q.ext (B.ext Q.ext lo) ⟨⟨_,_,_,_,0,0,_,[]⟩,⟨⟨TR.ge_ev g.1 tb,TR.ge_ev g.2.1 tb,TR.ge_ev g.2.2.1 tb,TR.ge_ev g.2.2.2 tb⟩,NY O.2 (bB tb)⟩,NX Q⟩
theorem iD (d:Nat){tok2 u2:List Nat}{ln2 y2:Nat}{st2:Option Nat}{q2:Bool}(t:∀(T:LT) bl p,fC w X T bl p fs st tok q y (hs T) true (a18 T) (a21 T) (a25 T) (a4 T) st1 (T.ln+d) tok1 (T.P+1) i4 b3 q1 y1 u1 nn)(hk:∀T:LT,X.L.cps.toList.drop T.P=c::l->tok.length+(l.length+1)<=1000000->∀hf∈hs T,aG (model PR w) (aX w.params) hf)(g:∀T:LT,T.Ok->(a18 T).ge/\(a21 T).ge/\(a25 T).ge/\(a4 T).ge)(ht:tok1.length<=tok.length+1)(ih:zG w X false l st1 tok1 q1 y1 (ln+d) n st2 tok2 q2 ln2 y2 u2):zG w X fs (c::l) st tok q y ln (n+1) st2 tok2 q2 ln2 y2 u2:=by
 rintro P s bl p R hr hl ⟨T,rfl,rfl,O,hat⟩ B hd hR
 obtain⟨f_,h_,E⟩:=t T bl p s.gens.size;have g:=g T O
 exact kK E (fun u u=>rfl) (hk T hr hl) B hat rfl nd lo hd dT fun ad tb px s₁ Q=>ih (T.P+1) s₁ bl px R (NW hr).2 (Nat.le_trans (Nat.add_le_add_right ht _) (by rw[Nat.add_assoc,Nat.add_comm 1];exact hl))
  ⟨⟨_,_,_,_,T.P+1,T.ln+d,_,u1⟩,rfl,rfl,⟨⟨TR.ge_ev g.1 tb,TR.ge_ev g.2.1 tb,TR.ge_ev g.2.2.1 tb,TR.ge_ev g.2.2.2 tb⟩,NY O.2 (bB tb)⟩,NX Q⟩ (B.ext Q.ext lo) hd
  fun s' e B' F=>hR s' (jO Q.ext e) B' (by rw[Nat.add_right_comm T.P 1 n] at F;exact F)
end
set_option tactic.hygienic true in
theorem aC5 (hL:eX X.L)(hne1:X.L.length≠1)(nd:X.l.Nodup)(lo:∀x∈X.l,817<=x){l:List Nat}{st:Option Nat}{q:Bool}{esc:Nat}(h:bU fs l st tok q esc ln n st' tok' q' ln' y' u'):
  zG w X fs l st tok q esc ln n st' tok' q' ln' y' u':=by
 have rd:∀{T:LT} {c:Nat} {l:List Nat},X.L.cps.toList.drop T.P=c::l->aG (model PR w) (aX w.params) (iC w X T c):=fun h=>aBk hL hne1 (NW h).1 dT dT dT rfl;have re:∀{T:LT},X.L.cps.toList.drop T.P=[]->aG (model PR w) (aX w.params) (vX w.params (dZ X.τ T.t4) X.L T.P 2 3 (TR.k 6) 8 7):=fun h=>NL hL (aC2 h) dT dT dT rfl;have es:∀{k n i:Nat},k<16->(TR.k 7).ok i=true->aG (model PR w) (aX w.params) (wA X k n i):=fun hk hi=>DQ (aBy hk) (by simp only[bQ,AV.ok,hi];rfl);have wc:∀{k n i:Nat},k<16->(TR.k 7).ok i=true->aG (model PR w) (aX w.params) (EA X k n i):=fun hk hi=>DQ (aBz hk) (by simp only[bQ,AV.ok,hi];rfl);have ap:∀{T:LT} {x k n i:Nat} {xs l:List Nat},(x::xs).length+((k+65)::l).length<=1000000->(TR.k 7).ok i=true->aG (model PR w) (aX w.params) (zF T (x::(xs++[k+65])) x xs k n i):=fun ht hi=>DR rfl rfl (aC0 _ _ _) (aC1 ht) (by simp only[bQ,AV.ok,hi];rfl);have so:∀{T:LT} {i:Nat},aG (model PR w) (aX w.params) (nX T i):=fun {T i}=>aAy rfl dT rfl (by have h1:Nat.blt i (i+2)=true:=Nat.blt_eq.mpr (by lia);have h2:Nat.blt (i+1) (i+2)=true:=Nat.blt_eq.mpr (by lia);simp[bQ,dG,AV.ok,TR.ok,h1,h2]);have ta:∀{x:Nat} {xs:List Nat} {k:Nat},(x::(xs++[k])).length<=(x::xs).length+1:=Nat.le_of_eq (congrArg (·+1) List.length_append);induction h
 case spEof=>exact pC nd lo 0 0 (fun T bl p=>aBl w X T bl p _) (fun T h u=>aD (re h)) fun T O=>⟨O.1.1,O.1.2.1,O.1.2.2.1,O.1.2.2.2⟩
 case spSp ih=>exact iD nd lo 0 (fun T bl p=>NP w X T bl p _ true) (fun T h u=>aD (rd h)) (fun T O=>⟨O.1.1,O.1.2.1,O.1.2.2.1,trivial⟩) (Nat.zero_le _) ih
 case spTab ih=>exact iD nd lo 0 (fun T bl p=>NP w X T bl p _ false) (fun T h u=>aD (rd h)) (fun T O=>⟨O.1.1,O.1.2.1,O.1.2.2.1,trivial⟩) (Nat.zero_le _) ih
 case spNl ih=>exact iD nd lo 1 (fun T bl p=>aBm w X T bl p _) (fun T h u=>aD (rd h)) (fun T O=>⟨O.1.1,trivial,O.1.2.2.1,trivial⟩) (Nat.zero_le _) ih
 case spBs ih=>exact iD nd lo 0 (fun T bl p=>aBn w X T bl p _) (fun T h u=>aD (rd h)) (fun T O=>⟨trivial,O.1.2.1,O.1.2.2.1,trivial⟩) (Nat.zero_le _) ih
 case spQ ih=>exact iD nd lo 0 (fun T bl p=>NQ w X T bl p _ true) (fun T h u=>aD (rd h)) (fun T O=>⟨trivial,O.1.2.1,O.1.2.2.1,trivial⟩) (Nat.zero_le _) ih
 case spM ih=>exact iD nd lo 0 (fun T bl p=>NQ w X T bl p _ false) (fun T h u=>aD (rd h)) (fun T O=>⟨trivial,O.1.2.1,O.1.2.2.1,trivial⟩) (Nat.zero_le _) ih
 case spL hk _ ih=>exact iD nd lo 0 (fun T bl p=>aBo w X T bl p _ _) (fun T h u=>aB (rd h) (aB (es hk rfl) (aD (wc hk rfl)))) (fun T O=>⟨trivial,O.1.2.1,trivial,trivial⟩) (Nat.le_refl 1) ih
 case qEnd ih=>exact iD nd lo 0 (fun T bl p=>NR w X T bl p _ _ _ true) (fun T h u=>aD (rd h)) (fun T O=>⟨trivial,O.1.2.1,O.1.2.2.1,trivial⟩) (Nat.le_succ _) ih
 case qL0 hk _ ih=>exact iD nd lo 0 (fun T bl p=>NS w X T bl p _ _ _ true) (fun T h u=>aB (rd h) (aD (es hk rfl))) (fun T O=>⟨O.1.1,O.1.2.1,trivial,trivial⟩) (Nat.le_refl 1) ih
 case qL1 hk _ ih=>exact iD nd lo 0 (fun T bl p=>NT w X T bl p _ _ _ _ _ _ true) (fun T h z=>aB (rd h) (aB (es hk rfl) (aD (ap z rfl)))) (fun T O=>⟨O.1.1,O.1.2.1,trivial,trivial⟩) (ta) ih
 case mEnd ih=>exact iD nd lo 0 (fun T bl p=>NR w X T bl p _ _ _ false) (fun T h u=>aD (rd h)) (fun T O=>⟨trivial,O.1.2.1,O.1.2.2.1,trivial⟩) (Nat.le_succ _) ih
 case mL0 hk _ ih=>exact iD nd lo 0 (fun T bl p=>NS w X T bl p _ _ _ false) (fun T h u=>aB (rd h) (aD (es hk rfl))) (fun T O=>⟨O.1.1,O.1.2.1,trivial,trivial⟩) (Nat.le_refl 1) ih
 case mL1 hk _ ih=>exact iD nd lo 0 (fun T bl p=>NT w X T bl p _ _ _ _ _ _ false) (fun T h z=>aB (rd h) (aB (es hk rfl) (aD (ap z rfl)))) (fun T O=>⟨O.1.1,O.1.2.1,trivial,trivial⟩) (ta) ih
 case bsL0 hk _ ih=>exact iD nd lo 0 (fun T bl p=>aBp w X T bl p _ _) (fun T h u=>aD (rd h)) (fun T O=>⟨O.2 3,O.1.2.1,trivial,trivial⟩) (Nat.le_refl 1) ih
 case bsL1 hk _ ih=>exact iD nd lo 0 (fun T bl p=>aBq w X T bl p _ _ _ _ _) (fun T h z=>aB (rd h) (aD (ap z rfl))) (fun T O=>⟨O.2 3,O.1.2.1,trivial,trivial⟩) (ta) ih
 case aEof=>exact pC nd lo 0 0 (fun T bl p=>aBr w X T bl p _ _ _) (fun T h u=>aB (re h) (aD so)) fun T O=>⟨O.1.1,O.1.2.1,O.1.2.2.1,O.1.2.2.2⟩
 case aSp0=>exact pC nd lo 0 1 (fun T bl p=>NU w X T bl p _ true) (fun T h u=>aB (rd h) (aD so)) fun T O=>⟨trivial,O.1.2.1,O.1.2.2.1,trivial⟩
 case aSp1=>exact pC nd lo 0 1 (fun T bl p=>NV w X T bl p _ _ _ _ true) (fun T h z=>aB (rd h) (aB so (aB (fL dT rfl) (aD (fL (EB z) rfl))))) fun T O=>⟨trivial,O.1.2.1,O.1.2.2.1,trivial⟩
 case aTab0=>exact pC nd lo 0 1 (fun T bl p=>NU w X T bl p _ false) (fun T h u=>aB (rd h) (aD so)) fun T O=>⟨trivial,O.1.2.1,O.1.2.2.1,trivial⟩
 case aTab1=>exact pC nd lo 0 1 (fun T bl p=>NV w X T bl p _ _ _ _ false) (fun T h z=>aB (rd h) (aB so (aB (fL dT rfl) (aD (fL (EB z) rfl))))) fun T O=>⟨trivial,O.1.2.1,O.1.2.2.1,trivial⟩
 case aNl0=>exact pC nd lo 1 1 (fun T bl p=>aBt w X T bl p _) (fun T h u=>aB (rd h) (aD so)) fun T O=>⟨trivial,trivial,O.1.2.2.1,trivial⟩
 case aNl1=>exact pC nd lo 1 1 (fun T bl p=>aBu w X T bl p _ _ _ _) (fun T h z=>aB (rd h) (aB so (aB (fL dT rfl) (aD (fL (EB z) rfl))))) fun T O=>⟨trivial,trivial,O.1.2.2.1,trivial⟩
 case aM ih=>exact iD nd lo 0 (fun T bl p=>aBv w X T bl p _ _ _) (fun T h u=>aB (rd h) (aD so)) (fun T O=>⟨trivial,O.1.2.1,O.1.2.2.1,trivial⟩) (Nat.le_succ _) ih
 case aBs ih=>exact iD nd lo 0 (fun T bl p=>aBw w X T bl p _ _ _) (fun T h u=>aB (rd h) (aD so)) (fun T O=>⟨trivial,O.1.2.1,O.1.2.2.1,trivial⟩) (Nat.le_succ _) ih
 case aL hk _ ih=>exact iD nd lo 0 (fun T bl p=>aBx w X T bl p _ _ _ _ _ _) (fun T h z=>aB (rd h) (aB (DQ (by decide+kernel) rfl) (aB so (aB (es hk rfl) (aB (wc hk rfl) (aD (ap z rfl))))))) (fun T O=>⟨O.1.1,O.1.2.1,trivial,trivial⟩) (ta) ih
end
end
section
noncomputable def cO(K:Nat->Nat)(l:List Nat)(j:Nat):Nat:=match nS l j with
 |some i=>K i
 |none=>K 0
theorem wB (h:∀j,1335<=K j)(l:List Nat)(j:Nat):1335<=cO K l j:=by
 unfold cO;split <;> exact h _
set_option tactic.hygienic true in
theorem nY (h:∀j,j<i->K' j=K j)(l:List Nat)(hl:∀a∈l,a<i)(h0:0<i):cO K' l=cO K l:=by
 funext j
 unfold cO;split
 ·rename_i a e
  rw[qH] at e;exact h a (hl a (List.mem_of_getElem? e))
 ·exact h 0 h0
noncomputable def NZ(P:Params)(σ τ:Nat->Nat)(L:Str)(q ln n₁:Nat)(st':Option Nat)(tok':List Nat)(q':Bool)(ln' y':Nat)(u':List Nat)(ja jb jc jd je jf jg:Nat)(rt:List Nat)(n i:Nat):HF:=
 dP (fun A u=>pA (A jg)) [ja,jb,jc,jd,je,jf,jg]
  (fun A K=>[dA (A jb),dB P σ (A jc) (A je) (A jf) (some 32) ln ⟨⟨[]⟩⟩,bS (A jd),cG P τ L q,bJ,bJ,zD P (cO K rt) (A ja) false [32]])
  (fun A K=>[dA (A jb),dB P (eW σ (K i) (K (i+1)) (K (i+2))) (A jc) (A je) (A jf) st' ln' ⟨⟨tok'⟩⟩,bS (A jd),cG P (dZ τ (K (i+3))) L (q+n₁),bJ,bJ,nW P (fun j=>K (i+4+j)) (A ja) q' [y'] u'])
  (fun u u=>[]) (fun u u=> .ok .next) 10 n i 550
set_option tactic.hygienic true in
theorem aC6(σ:Nat->Nat):eW σ (σ 18) (σ 21) (σ 25)=σ:=by
 funext j
 unfold eW bX
 repeat' split
 all_goals first |rfl | (rename_i h;rw[Nat.eq_of_beq_eq_true h])
set_option tactic.hygienic true in
theorem aC7(τ:Nat->Nat):dZ τ (τ 4)=τ:=by
 funext j
 unfold dZ bX
 repeat' split
 all_goals first |rfl | (rename_i h;rw[Nat.eq_of_beq_eq_true h])
theorem OA(P:Params)(ρ ρ':Nat->Nat)(a:Nat)(q:Bool)(e u:List Nat)(h:∀j,j<6->ρ j=ρ' j):nW P ρ a q e u=nW P ρ' a q e u:=by
 unfold nW;rw[h 0 dT,h 1 dT,h 2 dT,h 3 dT,h 4 dT,h 5 dT]
section
variable{w:World}
theorem aC8 {L:Str}{jg:Nat}{rt:List Nat}(hL:eX L)(hne:L.length≠1){l:List Nat}(hdrop:L.cps.toList.drop q=l)(hp:bU true l (some 32) [] false 32 ln n₁ st' tok' q' ln' y' u')(hσ:∀j,1335<=σ j)(hτ:1335<=τ 4)(hj:∀j∈[ja,jb,jc,jd,je,jf,jg],j<n)(hnd:[ja,jb,jc,jd,je,jf,jg].Nodup)(hrt:∀a∈rt,a<i)(hi:0<i):
  aG (model PR w) (aX w.params) (NZ w.params σ τ L q ln n₁ st' tok' q' ln' y' u' ja jb jc jd je jf jg rt n i):=by
 have la:ja<n:=hj _ (mI 0);have lb:jb<n:=hj _ (mI 1);have lc:jc<n:=hj _ (mI 2);have ld:jd<n:=hj _ (mI 3);have le:je<n:=hj _ (mI 4);have lf:jf<n:=hj _ (mI 5);have lg:jg<n:=hj _ (mI 6);refine eN 0 (fun v v=>rfl) ?_ ?_ ?_ (fun v v v v v v=>rfl) (fun v v v v v v=>rfl) (fun v v=>rfl) (fun v v=>rfl) hj hnd fun A K bl p s hA hK hd B ha nd lo=> ?_
 ·intro A K A' K' a1 a2
  show pA (A' jg)=pA (A jg);rw[a1 _ lg]
 ·intro A K A' K' a1 a2
  show[dA (A' jb),dB _ σ (A' jc) (A' je) (A' jf) _ _ _,bS (A' jd),_,_,_,zD _ (cO K' rt) (A' ja) _ _]=_;rw[a1 _ lb,a1 _ lc,a1 _ le,a1 _ lf,a1 _ ld,a1 _ la,nY a2 rt hrt hi]
 ·intro A K A' K' a1 a2
  have a1:∀j,j<n->A' j=A j:=a1
  show[dA (A' jb),dB _ (eW σ (K' i) (K' (i+1)) (K' (i+2))) (A' jc) (A' je) (A' jf) _ _ _,bS (A' jd),cG _ (dZ τ (K' (i+3))) _ _,_,_,nW _ (fun j=>K' (i+4+j)) (A' ja) _ _ _]=
   [dA (A jb),dB _ (eW σ (K i) (K (i+1)) (K (i+2))) (A jc) (A je) (A jf) _ _ _,bS (A jd),cG _ (dZ τ (K (i+3))) _ _,_,_,nW _ (fun j=>K (i+4+j)) (A ja) _ _ _]
  rw[a1 _ lb,a1 _ lc,a1 _ le,a1 _ lf,a1 _ ld,a1 _ la,a2 i (by lia),a2 (i+1) (by lia),a2 (i+2) (by lia),a2 (i+3) (by lia),OA _ (fun j=>K' (i+4+j)) (fun j=>K (i+4+j)) _ _ _ _ fun j hj=>a2 _ (by lia)]
 ·have ha:At s [A ja,A jb,A jc,A jd,A je,A jf,A jg] [dA (A jb),dB w.params σ (A jc) (A je) (A jf) (some 32) ln ⟨⟨[]⟩⟩,bS (A jd),cG w.params τ L q,bJ,bJ,zD w.params (cO K rt) (A ja) false [32]]:=ha
  have len:l.length<=1000000:=by
   rw[<-hdrop,List.length_drop];have:L.cps.toList.length<=1000000:=hL
   lia
  refine aC5 (X:=⟨σ,τ,L,A ja,A jb,A jc,A jd,A je,A jf,A jg⟩) hL hne nd lo hp q _ _ _ _ hdrop (by simpa using len) ⟨⟨σ 18,σ 21,σ 25,τ 4,q,ln,cO K rt,[]⟩,rfl,rfl,⟨⟨hσ _,hσ _,hσ _,hτ⟩,wB hK rt⟩,?_⟩ B hd fun s' E B' F=> ?_
  ·unfold LX.os;rw[aC6,aC7];exact ha
  ·refine bC fun zz=> ?_
   obtain⟨⟨t18,t21,t25,t4,_,_,ρ,_⟩,⟨⟨h18,h21,h25,h4⟩,hρ⟩,hat⟩:=F;refine zz ?_;refine⟨[],[t18,t21,t25,t4,ρ 0,ρ 1,ρ 2,ρ 3,ρ 4,ρ 5],rfl,List.nodup_nil,aE,aB h18 (aB h21 (aB h25 (aB h4 (aB (hρ _) (aB (hρ _) (aB (hρ _) (aB (hρ _) (aB (hρ _) (aD (hρ _)))))))))),E,?_,trivial,rfl⟩;rw[iY];have u:∀j,(h:j<10)->upd K i [t18,t21,t25,t4,ρ 0,ρ 1,ρ 2,ρ 3,ρ 4,ρ 5] (i+j)=[t18,t21,t25,t4,ρ 0,ρ 1,ρ 2,ρ 3,ρ 4,ρ 5][j]'h:=fun j h=>iP h;rw[u 1 dT,u 2 dT,u 3 dT,show upd K i [t18,t21,t25,t4,ρ 0,ρ 1,ρ 2,ρ 3,ρ 4,ρ 5] i=t18 from u 0 dT];rw[OA _ (fun j=>upd K i [t18,t21,t25,t4,ρ 0,ρ 1,ρ 2,ρ 3,ρ 4,ρ 5] (i+4+j)) ρ _ _ _ _ fun j hj=> ?_]
   ·exact hat
   ·show upd K i [t18,t21,t25,t4,ρ 0,ρ 1,ρ 2,ρ 3,ρ 4,ρ 5] (i+4+j)=ρ j
    rw[Nat.add_assoc];exact aB1 (l:=[t18,t21,t25,t4]) (m:=6) (g:=ρ) hj
end
end
section
noncomputable def eO(P:Params)(σ τ:Nat->Nat)(L:Str)(b c d e f:Nat)(st:Option Nat)(ln q:Nat):List Obj:=
 [dA b,dB P σ c e f st ln ⟨⟨[]⟩⟩,bS d,cG P τ L q,bJ,bJ]
noncomputable def EC(tok:List Nat)(q:Bool)(t:Nat):Value:=match tok with
 | []=>match q with
  |true=>sv [] t
  |false=> .none
 |x::xs=>sv (x::xs) t
section
variable(w:World)(g₀:Nat)(bl:List (Code×Pos))(p:Pos)(σ τ:Nat->Nat)(L:Str)(a b c d e f P ln:Nat)
theorem aC9(n₁:Nat){st:Option Nat}(hs:st=none\/st=some 32)(tok:List Nat)(q:Bool)(ln' y':Nat)(u':List Nat):∃f_ h_,∀ad tb:Nat->Nat,
 aZ w g₀ [a,b,c,d,e,f] ad tb [NZ w.params σ τ L P ln n₁ st tok q ln' y' u' 0 1 2 3 4 5 6 [0,1,3,2] 7 4] f_ h_ (.call (.ref 723) ⟨[.ref a],[]⟩) bl p 520 (eO w.params σ τ L b c d e f (some 32) ln P) [0,1,2,3,4,5] (.pure (.done (.ret (EC tok q (aC tb 6))))) (eO w.params (mW σ (match st with |none=>σ 18 |some _=>aC tb 4) (aC tb 5) (aC tb 16)) (mX τ (aC tb 7)) L b c d e f st ln' (P+n₁)) 7:=by
 rcases tok with _ |⟨x,xs⟩ <;> cases q
 ·exact⟨154,(aQ 14592 [36,gb,16,0x3803803880380380,36,ga,4,7168,49,gr,12,vD,36,g9,3,3840,26,gX]),fun ad tb=>by rcases hs with rfl |rfl <;> (unfold aZ;kernel_rfl)⟩
 ·exact⟨138,IX,fun ad tb=>by rcases hs with rfl |rfl <;> (unfold aZ;kernel_rfl)⟩
 ·exact⟨146,(aQ 7296 [36,ga,10,122410238848,36,ga,4,7168,49,gr,12,vD,36,g9,3,3840,26,gX]),fun ad tb=>by rcases hs with rfl |rfl <;> (unfold aZ;kernel_rfl)⟩
 ·exact⟨138,IX,fun ad tb=>by rcases hs with rfl |rfl <;> (unfold aZ;kernel_rfl)⟩
theorem aCa(ad tb:Nat->Nat):
 aZ w g₀ [a,b,c,d,e,f] ad tb [vX w.params τ L P 2 3 (TR.k 10) 8 11] 364 (aQ 14592 [36,gb,16,0x3803803880380380,36,ga,4,7168,49,gr,12,vD,36,g9,3,3584,49,gA,6,4201472,36,g9,4,58368,36,g9,11,0xe401c01c01d,9,16387,15,3,24,3,26,768,36,gb,4,14336,36,gb,1,4,9,8194,41,4,17,2100736,26,gX]) (.call (.ref 723) ⟨[.ref a],[]⟩) bl p 520 (eO w.params σ τ L b c d e f none ln P) [0,1,2,3,4,5] (.pure (.done (.ret .none))) (eO w.params (mW σ (σ 18) (σ 21) (aC tb 22)) (mX τ (τ 4)) L b c d e f none ln P) 8:=by unfold aZ;kernel_rfl
end
end
section
noncomputable def nA(P:Params)(σ τ:Nat->Nat)(L:Str)(q:Nat)(st0:Option Nat)(ln n₁:Nat)(st':Option Nat)(ln':Nat)(v:Nat->Value)(ja jb jc jd je jf:Nat)(n i:Nat):HF:=
 dP (fun A u=> .call (.ref 723) ⟨[.ref (A ja)],[]⟩) [ja,jb,jc,jd,je,jf]
  (fun A u=>eO P σ τ L (A jb) (A jc) (A jd) (A je) (A jf) st0 ln q)
  (fun A K=>eO P (eW σ (K i) (K (i+1)) (K (i+2))) (dZ τ (K (i+3))) L (A jb) (A jc) (A jd) (A je) (A jf) st' ln' (q+n₁))
  (fun u u=>[]) (fun u K=> .ok (.ret (v (K (i+4))))) 5 n i 520
theorem lB {b:Nat}{o0 o1 o2 o3 o4 o5:Obj}(Q:dX [a,b,c,d,e,f] ad s s' [0,1,2,3,4,5] [some o0,some o1,some o2,some o3,some o4,some o5] nn):
  At s' [a,b,c,d,e,f] [o0,o1,o2,o3,o4,o5]:=
 (Q.ats [0,1,2,3,4,5])
theorem OB {l:List Nat}{st:Option Nat}{q:Bool}{esc:Nat}(h:bU fs l st tok q esc ln n st' tok' q' ln' y' u'):st'=none\/st'=some 32:=by
 induction h <;> first |assumption |exact .inl rfl |exact .inr rfl
section
variable{w:World}
section
variable{σ τ:Nat->Nat}{L:Str}{q ln n₁:Nat}{st0 st':Option Nat}{ln':Nat}{ja jb jc jd je jf n i:Nat}
theorem OC{v:Nat->Value}(hj:∀j∈[ja,jb,jc,jd,je,jf],j<n)(hnd:[ja,jb,jc,jd,je,jf].Nodup)
  (run:∀{a b c d e f:Nat} {bl:List (Code×Pos)} {p:Pos} {s:Shared},frameCount bl<=520->aT w s->At s [a,b,c,d,e,f] (eO w.params σ τ L b c d e f st0 ln q)->[a,b,c,d,e,f].Nodup->(∀x∈[a,b,c,d,e,f],817<=x)->
   wpCode (model PR w) ⟨.call (.ref 723) ⟨[.ref a],[]⟩,none,none,bl,none⟩ (fun r s'=>∃x y z u t,(1335<=x/\1335<=y/\1335<=z/\1335<=u/\1335<=t)/\r= .ok (.ret (v t))/\aJ [a,b,c,d,e,f] s s'/\At s' [a,b,c,d,e,f] (eO w.params (mW σ x y z) (mX τ u) L b c d e f st' ln' (q+n₁))) p s):
  aG (model PR w) (aX w.params) (nA w.params σ τ L q st0 ln n₁ st' ln' v ja jb jc jd je jf n i):=by
 have la:ja<n:=hj _ (mI 0);have lb:jb<n:=hj _ (mI 1);have lc:jc<n:=hj _ (mI 2);have ld:jd<n:=hj _ (mI 3);have le:je<n:=hj _ (mI 4);have lf:jf<n:=hj _ (mI 5);refine eN 0 (fun k k=>rfl) ?_ ?_ ?_ (fun k k k k k k=>rfl) ?_ (fun k k=>rfl) (fun k k=>rfl) hj hnd fun A K bl p s hA hK hd B ha nd lo=> ?_
 ·intro A K A' K' a1 a2
  show Code.call _ ⟨[.ref (A' ja)],[]⟩=Code.call _ ⟨[.ref (A ja)],[]⟩;rw[a1 _ la]
 ·intro A K A' K' a1 a2
  show eO _ σ τ L (A' jb) (A' jc) (A' jd) (A' je) (A' jf) _ _ _=eO _ σ τ L (A jb) (A jc) (A jd) (A je) (A jf) _ _ _;rw[a1 _ lb,a1 _ lc,a1 _ le,a1 _ lf,a1 _ ld]
 ·intro A K A' K' a1 a2
  have a1:∀j,j<n->A' j=A j:=a1;show eO _ (eW σ (K' i) (K' (i+1)) (K' (i+2))) (dZ τ (K' (i+3))) L (A' jb) (A' jc) (A' jd) (A' je) (A' jf) _ _ _=eO _ (eW σ (K i) (K (i+1)) (K (i+2))) (dZ τ (K (i+3))) L (A jb) (A jc) (A jd) (A je) (A jf) _ _ _;rw[a1 _ lb,a1 _ lc,a1 _ le,a1 _ lf,a1 _ ld,a2 i (by lia),a2 (i+1) (by lia),a2 (i+2) (by lia),a2 (i+3) (by lia)]
 ·intro A K A' K' a1 a2
  show Except.ok (Flow.ret (v (K' (i+4))))=Except.ok (Flow.ret (v (K (i+4))));rw[a2 (i+4) (by lia)]
 ·refine wpCode_mono (fun r s' h=> ?_) (run hd B ha nd lo)
  refine bC fun zz=> ?_;obtain⟨x,y,z,u,t,⟨hx,hy,hz,hv,ht⟩,hr,X,h⟩:=h;refine zz ?_;refine⟨[],[x,y,z,u,t],rfl,List.nodup_nil,aE,aB hx (aB hy (aB hz (aB hv (aD ht)))),X,?_,trivial,?_⟩
  ·have g:∀j,(h:j<5)->upd K i [x,y,z,u,t] (i+j)=[x,y,z,u,t][j]'h:=fun j h=>iP h
   rw[iY,g 1 dT,g 2 dT,g 3 dT,show upd K i [x,y,z,u,t] i=x from g 0 dT,<-tB,<-tC];exact h
  ·rw[iP (l:=[x,y,z,u,t]) (j:=4) (by show 4<5;decide)]
   exact hr
theorem OD (hL:eX L)(hne:L.length≠1){l:List Nat}(hdrop:L.cps.toList.drop q=l)(hp:bU true l (some 32) [] false 32 ln n₁ st' tok' q' ln' y' u')(hσ:∀j,1335<=σ j)(hτ:1335<=τ 4)(hj:∀j∈[ja,jb,jc,jd,je,jf],j<n)(hnd:[ja,jb,jc,jd,je,jf].Nodup):
  aG (model PR w) (aX w.params) (nA w.params σ τ L q (some 32) ln n₁ st' ln' (EC tok' q') ja jb jc jd je jf n i):=
 OC hj hnd fun {a b c d e f bl p s} hd B ha nd lo=>by
  obtain⟨f_,h_,E⟩:=aC9 w s.gens.size bl p σ τ L a b c d e f q ln n₁ (OB hp) tok' q' ln' y' u'
  exact cT E (aD (aC8 hL hne hdrop hp hσ hτ dT dT dT dT)) B ha rfl nd lo hd dT fun ad tb s' Q=>
   ⟨_,_,_,_,_,⟨by split <;> first |exact hσ 18 |exact bB _ _,bB _ _,bB _ _,bB _ _,bB tb 6⟩,rfl,Q.ext,lB Q⟩
end
def wC(L:Str)(q:Nat)(st0:Option Nat)(ln n₁ ln':Nat):Prop:=
 (st0=some 32/\∃y' u',bU true (L.cps.toList.drop q) (some 32) [] false 32 ln n₁ none [] false ln' y' u')\/(st0=none/\L.length<=q/\n₁=0/\ln'=ln)
theorem aCb {L:Str}(hL:eX L)(hne:L.length≠1)(hp:wC L q st0 ln n₁ ln')(hσ:∀j,1335<=σ j)(hτ:1335<=τ 4)(hj:∀j∈[ja,jb,jc,jd,je,jf],j<n)(hnd:[ja,jb,jc,jd,je,jf].Nodup):
  aG (model PR w) (aX w.params) (nA w.params σ τ L q st0 ln n₁ none ln' (fun u=> .none) ja jb jc jd je jf n i):=by
 rcases hp with⟨rfl,y',u',hp⟩ |⟨rfl,hq,rfl,rfl⟩
 ·exact OD (tok':=[]) (q':=false) hL hne rfl hp hσ hτ hj hnd
 exact OC hj hnd fun {a b c d e f bl p s} hd B ha nd lo=>cT (fun ad tb=>aCa w s.gens.size bl p σ τ L a b c d e f q ln' ad tb) (aD (NL hL hq dT dT dT rfl)) B ha rfl nd lo hd dT fun ad tb s' Q=>
  ⟨_,_,_,_,1335,⟨hσ 18,hσ 21,bB _ _,hτ,Nat.le_refl _⟩,rfl,Q.ext,lB Q⟩
end
end
theorem aCc(w:World)(g₀:Nat)(ad tb:Nat->Nat)(bl:List (Code×Pos))(p:Pos)(σ τ ρ:Nat->Nat)(L:Str)(a b c d e f g P ln n₁:Nat)(ln':Nat)(st0:Option Nat):
 eZ w g₀ [a,b,c,d,e,f] ad tb [] 8 962307555328 (.call (.ref 752) ⟨[.ref a],[]⟩) bl p 484 [dA b,dB w.params σ c e f st0 ln ⟨⟨[]⟩⟩,bS d,cG w.params τ L P,bJ,bJ] [0,1,2,3,4,5,6] (pB (ad 6+817)) [dA b,dB w.params σ c e f st0 ln ⟨⟨[]⟩⟩,bS d,cG w.params τ L P,bJ,bJ,⟨.type SL.s658472552662922059x5,none,.dict ⟨[de w.params vA (aC tb 0) (.ref a)]⟩ (1),⟨[]⟩⟩] 7:=by unfold eZ;kernel_rfl
theorem aCd(w:World)(g₀:Nat)(ad tb:Nat->Nat)(bl:List (Code×Pos))(p:Pos)(σ τ ρ:Nat->Nat)(L:Str)(a b c d e f g P ln n₁:Nat)(ln':Nat)(st0:Option Nat):
 aW w g₀ [a,b,c,d,e,f,g] ad tb [nA w.params σ τ L P st0 ln n₁ none ln' (fun x=>Value.none) 0 1 2 3 4 5 8 4] 280 (aQ 0x5000a00a00a00a00a00a00a00a00a00a0028028014014 [10,1024,36,g9,12,0xe00e00e00e00,36,gb,19,0x4003001800c00600600,36,gb,4,16640,36,gb,7,67125248,12,gY,10,4,22,2203319271688,9,65544,15,8,12,8,32,0x804002801400a00500500,36,gb,1,4,9,8194,16,8193,15,1,12,1,15,4103]) (pB g) (vW (bF tD) (mY g)) bl p 484 [dA b,dB w.params σ c e f st0 ln ⟨⟨[]⟩⟩,bS d,cG w.params τ L P,bJ,bJ,DY w.params ρ a] [0,1,2,3,4,5,6,8,9,10] (.raise (.ref (bG [a,b,c,d,e,f,g] ad 9))) [dA b,dB w.params (mW σ (σ 18) (aC tb 5) (aC tb 6)) c e f none (ln') ⟨⟨[]⟩⟩,bS d,cG w.params (mX τ (aC tb 7)) (L) ((P+n₁)),bJ,bJ,⟨.type SL.s658472552662922059x5,none,.dict ⟨[de w.params vA (ρ 0) (.ref a),de w.params [116,111,107,101,110] (aC tb 16) (.none)]⟩ (2),⟨[]⟩⟩,⟨.type SL.s2766695959194262286x5,none,.seq ⟨[]⟩ (0),⟨[]⟩⟩,⟨.type SL.s5991306692159431302x13,none,.fields ⟨[.ref (bG [a,b,c,d,e,f,g] ad 10),.none,.none,.none,.bool (false),.none]⟩,⟨[]⟩⟩,⟨.type SL.s2766695959194262286x5,none,.seq ⟨[]⟩ (0),⟨[]⟩⟩] 11:=by unfold aW;kernel_rfl
section
section
variable{w:World}{s:Shared}{bl:List (Code×Pos)}{p:Pos}{R:Result->Shared->Prop}
theorem aCe(b:List Stmt)(e:Env):vW b e=bindR (execs b e) fun x=> .pure (.done x):=by
 unfold vW;rw[<-Fast.te12563942051412417395]
theorem aCf {b:List Stmt}{Q:Value->Shared->Prop}(h:∃r s',Runs (model PR w) ⟨.func b env,none,none,bl,none⟩ p (vW b env) [] s (.ret r) s'/\(∃e,r= .error e/\Q e s'))(hQ:∀e s' p',Q e s'->Sem.wp (model PR w) ⟨.func b env,none,none,bl,none⟩ (leaving env e) (fun u u s''=>R (.error e) s'') (fun e' u s''=>R (.error e') s'') p' s'):
  wpCode (model PR w) ⟨.func b env,none,none,bl,none⟩ R p s:=by
 have z:=(Sem.wp_iff_runs (model PR w) ⟨.func b env,none,none,bl,none⟩ (vW b env) (fun r s'=>∃e,r= .error e/\Q e s') p s).mpr h;rw[aCe,eR] at z;rw[wpCode_iff_wp]
 show Sem.wp (model PR w) ⟨.func b env,none,none,bl,none⟩ (do
  point
  match <-(execs b env).onRaise (leaving env) with
  | .ret v=>ret v
  |_=>ret .none) _ _ p s
 rw[Sem.wp_bind']
 show Sem.wp (model PR w) ⟨.func b env,none,none,bl,none⟩ (do
  match <-(execs b env).onRaise (leaving env) with
  | .ret v=>ret v
  |_=>ret .none) _ _ p s
 rw[Sem.wp_bind',Sem.wp_onRaise];refine Sem.wp_mono _ _ _ (fun fl p' s' q=> ?_) (fun e p' s' q=> ?_) _ _ z
 ·obtain⟨e,he,_⟩:=q
  cases he
 ·obtain⟨e',he,q⟩:=q
  cases he;exact hQ e s' p' q
theorem At.lt{s:Shared}:∀{as:List Nat} {os:List Obj},At s as os->∀y∈as,y<s.heap.objs.size
 | [],_,_,_,h=>nomatch h
 |_::_,[],h,_,_=>h.elim
 |a::as,o::os,h,y,hy=>by
  cases hy with
  |head=>exact Heap.lt_size h.1
  |tail _ hy=>exact At.lt h.2 y hy
theorem At.keep{s s':Shared}:∀{as:List Nat} {os:List Obj},At s as os->(∀y o,y∈as->s.heap.get? y=some o->s'.heap.get? y=some o)->At s' as os
 | [],_,_,_=>trivial
 |_::_,[],h,_=>h.elim
 |a::as,o::os,h,hk=>⟨hk a o (.head _) h.1,At.keep h.2 fun y o hy ho=>hk y o (.tail _ hy) ho⟩
structure pD(m:List Nat)(w:World)(σ τ:Nat->Nat)(L:Str)(a b c d e f P ln' n₁:Nat)(sp lw:Env)(F₁ F₂:Nat)(o₁ o₂:Obj)(s s':Shared)(x:Nat):Prop where
 frame:∀(y:Nat) o,s.heap.get? y=some o->y∉m->s'.heap.get? y=some o
 size:s.heap.objs.size<=s'.heap.objs.size
 toks:s.toks<=s'.toks
 gens:s'.gens=s.gens
 drawn:s'.drawn=s.drawn
 os:s'.os=s.os
 lex:∃t18 t21 t25 t4,1335<=t18/\1335<=t21/\1335<=t25/\1335<=t4/\At s' [a,b,c,d,e,f] (eO w.params (eW σ t18 t21 t25) (dZ τ t4) L b c d e f none ln' (P+n₁))
 f1:s'.heap.get? F₁=some (fO sp (.ref F₂) o₁)
 f2:s'.heap.get? F₂=some o₂/\(o₂.slots.getD 3 none).isSome=true\/∃bb:Bool,s'.heap.get? F₂=some (fO lw (if bb then .notImplemented else .none) o₂)/\(o₂.slots.getD 3 none).isSome=false
 exc:∃ox,s'.heap.get? x=some ox/\ox.cls= .type SL.s5991306692159431302x13/\∃ws,ox.data= .fields ws
 fresh:s.heap.objs.size<=x
theorem OE {v:Value}{o:Obj}(h:o.isFreed=false):(fO env v o).isFreed=false:=by
 obtain⟨c,d,dt,sl⟩:=o;cases dt <;> first |rfl |exact h
theorem aCg {L:Str}{b P:Nat}(hL:eX L)(hne:L.length≠1)(hp:wC L P st0 ln n₁ ln')(hσ:∀j,1335<=σ j)(hτ:1335<=τ 4)(B:aT w s)(ha:At s [a,b,c,d,e,f,g] (eO w.params σ τ L b c d e f st0 ln P++[DY w.params ρ a]))(nd:[a,b,c,d,e,f,g].Nodup)(lo:∀x∈[a,b,c,d,e,f,g],817<=x)(hd:frameCount bl<=484)(hbl:envsOf bl=[sp,lw])(k1:sp.scope.kind≠.module)(k2:lw.scope.kind≠.module)(g1:(sp.scope.isGenerator || sp.scope.isCoroutine)=false)(g2:(lw.scope.isGenerator || lw.scope.isCoroutine)=false)(e1:sp.frame=some F₁)(e2:lw.frame=some F₂)(h1:s.heap.get? F₁=some o₁)(h2:s.heap.get? F₂=some o₂)(n1:F₁∉[a,b,c,d,e,f,g])(n2:F₂∉[a,b,c,d,e,f,g])(n12:F₁≠F₂)(r1:(o₁.slots.getD 3 none).isSome=false)(hR:∀x s',pD [a,b,c,d,e,f,g,F₁,F₂] w σ τ L a b c d e f P ln' n₁ sp lw F₁ F₂ o₁ o₂ s s' x->R (.error (.ref x)) s'):
  wpCode (model PR w) ⟨pB g,none,none,bl,none⟩ R p s:=by
 have hk:∀hf∈[nA w.params σ τ L P st0 ln n₁ none ln' (fun u=>Value.none) 0 1 2 3 4 5 8 4],aG (model PR w) (aX w.params) hf:=
  aD (aCb hL hne hp hσ hτ dT dT)
 have hr:=zA (R:=fun r s₁=>∃v,r= .error v/\∃x:Nat,v= .ref x/\s.heap.objs.size<=x/\aJ [a,b,c,d,e,f,g] s s₁/\
   (∃t21 t25 t4,1335<=t21/\1335<=t25/\1335<=t4/\At s₁ [a,b,c,d,e,f] (eO w.params (eW σ (σ 18) t21 t25) (dZ τ t4) L b c d e f none ln' (P+n₁)))/\
   (∃og,s₁.heap.get? g=some og/\(og.slots.getD 3 none).isSome=false)/\∃ws,s₁.heap.get? x=some ⟨.type SL.s5991306692159431302x13,none,.fields ws,⟨[]⟩⟩/\ws[1]? =some .none)
  (fun ad tb=>aCd w s.gens.size ad tb bl p σ τ ρ L a b c d e f g P ln n₁ ln' st0) hk B ha rfl nd lo hd fun ad tb px s₁ Q=>DD ⟨_,rfl,_,rfl,(Q.new 9 (by show 7<=9;decide) (by show 9<11;decide)).1,Q.ext,
   ⟨_,_,_,bB tb 5,bB tb 6,bB tb 7,by rw[<-tB,<-tC];exact(Q.ats [0,1,2,3,4,5])⟩,
   ⟨_,Q.at_ 6 6 _ rfl rfl,rfl⟩,_,Q.at_ 8 9 _ rfl rfl,rfl⟩
 refine aCf hr fun v s₁ p' hv=> ?_;refine bC fun zz=> ?_;obtain⟨x,rfl,hx,hE,⟨t21,t25,t4,q1,q2,q3,hat⟩,⟨og,hog,hogs⟩,ws,hxo,hws⟩:=hv;refine zz ?_
 have hin:PySem.Ctx.In ⟨pB g,none,none,bl,none⟩ ⟨none,frameCount bl+(pB g).weight,some (mY g::[sp,lw]),none,PySem.Ctx.units ⟨pB g,none,none,bl,none⟩⟩:=
  ⟨rfl,Nat.le_refl _,fun l hl=>by injection hl with hl;rw[<-hl];show[mY g]++envsOf bl=_;rw[hbl];rfl,fun u q=>(nomatch q),Nat.le_refl _⟩
 refine aBe (A:=⟨none,frameCount bl+(pB g).weight,some (mY g::[sp,lw]),none,PySem.Ctx.units ⟨pB g,none,none,bl,none⟩⟩) (L:=g) rfl rfl hxo rfl hws ?_ _ p' hin;have l1:F₁<s.heap.objs.size:=Heap.lt_size h1;have l2:F₂<s.heap.objs.size:=Heap.lt_size h2;have lg:g<s.heap.objs.size:=Heap.lt_size (ha.get 6 g _ rfl rfl);have f1:s₁.heap.get? F₁=some o₁:=hE.frame _ _ h1 n1;have f2:s₁.heap.get? F₂=some o₂:=hE.frame _ _ h2 n2;have ng1:g≠F₁:=fun q=>n1 (by rw[<-q];exact mI 6);have ng2:g≠F₂:=fun q=>n2 (by rw[<-q];exact mI 6);refine NC (caller:=sp) (show (kI tD).kind≠.module by decide+kernel) (show ((kI tD).isGenerator || (kI tD).isCoroutine)=false by decide+kernel) rfl e1 hog hogs ?_;refine NC (caller:=lw) (L:=F₁) k1 g1 e1 e2 (by show (Heap.update _ _ _).get? F₁=some o₁;rw[Heap.get?_update_other _ _ ng1];exact f1) r1 ?_;have fr1:o₁.isFreed=false:=(Heap.get?_some_iff.mp h1).2;have up1:(Heap.update s₁.heap g (fO (mY g) (.ref F₁))).get? F₁=some o₁:=by rw[Heap.get?_update_other _ _ ng1];exact f1
 have oth:∀y,y≠g->y≠F₁->((s₁.heap.update g (fO (mY g) (.ref F₁))).update F₁ (fO sp (.ref F₂))).get? y=s₁.heap.get? y:=fun y hy hy1=>by
  rw[Heap.get?_update_other _ _ (Ne.symm hy1),Heap.get?_update_other _ _ (Ne.symm hy)]
 have at1:((s₁.heap.update g (fO (mY g) (.ref F₁))).update F₁ (fO sp (.ref F₂))).get? F₁=some (fO sp (.ref F₂) o₁):=Heap.get?_update_self _ up1 (OE fr1);have nx:∀{y},y<s.heap.objs.size->x≠y:=fun h q=>absurd h (Nat.not_lt.mpr (by rw[<-q];exact hx));have hxg:=nx lg;have hx1:=nx l1;have hx2:=nx l2;have at2:((s₁.heap.update g (fO (mY g) (.ref F₁))).update F₁ (fO sp (.ref F₂))).get? F₂=some o₂:=by rw[oth F₂ (Ne.symm ng2) (Ne.symm n12)];exact f2
 have atx:=(oth x hxg hx1).trans hxo;have sz1:s₁.heap.objs.size=((s₁.heap.update g (fO (mY g) (.ref F₁))).update F₁ (fO sp (.ref F₂))).objs.size:=by rw[Heap.size_after_update,Heap.size_after_update]
 have fin:∀(h₃:Heap) (s':Shared),s₁.heap.objs.size=h₃.objs.size->(∀y,y≠g->y≠F₁->y≠F₂->h₃.get? y=s₁.heap.get? y)->h₃.get? F₁=some (fO sp (.ref F₂) o₁)->
   (h₃.get? F₂=some o₂/\(o₂.slots.getD 3 none).isSome=true\/∃bb:Bool,h₃.get? F₂=some (fO lw (if bb then .notImplemented else .none) o₂)/\(o₂.slots.getD 3 none).isSome=false)->
   (∀(y:Nat) o,y≠x->h₃.get? y=some o->s'.heap.get? y=some o)->(∃o',s'.heap.get? x=some o'/\o'.cls= .type SL.s5991306692159431302x13/\∃ws,o'.data= .fields ws)->h₃.objs.size<=s'.heap.objs.size->
   s'.toks=s₁.toks->s'.gens=s₁.gens->s'.drawn=s₁.drawn->s'.os=s₁.os->R (.error (.ref x)) s':=by
  intro h₃ s' z1 z2 z3 z4 z5 z6 z7 z8 z9 z10 z11;have old:∀y:Nat,y<s.heap.objs.size->y≠x:=fun y hy=>Ne.symm (nx hy);refine hR x s' ⟨fun y o hy hm=> ?_,Nat.le_trans hE.size (by rw[z1];exact z7),by rw[z8];exact hE.toks,by rw[z9];exact hE.gens,by rw[z10];exact hE.drawn,by rw[z11];exact hE.os,⟨σ 18,t21,t25,t4,hσ _,q1,q2,q3,?_⟩,?_,?_,z6,hx⟩
  ·refine z5 y o (old y (Heap.lt_size hy)) ?_
   rw[z2 y (fun e=>hm (by rw[e];exact mI 6)) (fun e=>hm (by rw[e];exact mI 7)) fun e=>hm (by rw[e];exact mI 8)];exact hE.frame y o hy fun q=>hm (List.mem_append_left [F₁,F₂] q)
  ·have keep:∀(y:Nat) o,y∈[a,b,c,d,e,f]->s₁.heap.get? y=some o->s'.heap.get? y=some o:=fun y o hm ho=>by
    have m7:y∈[a,b,c,d,e,f,g]:=List.mem_append_left [g] hm;have nd':([a,b,c,d,e,f]++[g]).Nodup:=nd;have yg:y≠g:=(List.nodup_append.mp nd').2.2 y hm g (mI 0);refine z5 y o (old y (ha.lt y m7)) ?_;rw[z2 y yg (fun q=>n1 (q▸m7)) (fun q=>n2 (q▸m7))];exact ho
   exact hat.keep keep
  ·exact z5 F₁ _ (old _ l1) z3
  ·rcases z4 with⟨z,zz⟩ |⟨bb,z,zz⟩
   ·exact .inl ⟨z5 F₂ _ (old _ l2) z,zz⟩
   ·exact .inr ⟨bb,z5 F₂ _ (old _ l2) z,zz⟩
 cases hr2:(o₂.slots.getD 3 none).isSome with
 |true=>
  refine aBc (L:=F₂) e2 at2 hr2 ⟨atx,fun s' w1 w2 w3 w4 w5 w6 w7=> ?_⟩;exact fin _ s' sz1 (fun y y1 y2 u=>oth y y1 y2) at1 (.inl ⟨at2,hr2⟩) w1 w2 w3 w4 w5 w6 w7
 |false=>
  refine aBd (L:=F₂) k2 g2 e2 at2 hr2 fun bb=> ?_;have fr2:o₂.isFreed=false:=(Heap.get?_some_iff.mp h2).2;refine⟨by show (Heap.update _ _ _).get? x=_;rw[Heap.get?_update_other _ _ (Ne.symm hx2)];exact atx,fun s' w1 w2 w3 w4 w5 w6 w7=> ?_⟩;exact fin _ s' (sz1.trans (Heap.size_after_update ..).symm) (fun y y1 y2 y3=>(Heap.get?_update_other _ _ (Ne.symm y3)).trans (oth y y1 y2)) ((Heap.get?_update_other _ _ (Ne.symm n12)).trans at1) (.inr ⟨bb,Heap.get?_update_self _ at2 (OE fr2),hr2⟩) w1 w2 w3 w4 w5 w6 w7
end
end
section
section
variable{w:World}{s:Shared}{bl:List (Code×Pos)}{p:Pos}{R:Result->Shared->Prop}
theorem pD.from {L:Str}{b P:Nat}{s₁:Shared}{k:List Nat}(E:aJ k s s₁)(h:pD m w σ τ L a b c d e f P ln' n₁ sp lw F₁ F₂ o₁ o₂ s₁ s' x)(hm:∀y∈m,y∈m'\/s.heap.objs.size<=y)(hk:∀y∈k,y∈m'):pD m' w σ τ L a b c d e f P ln' n₁ sp lw F₁ F₂ o₁ o₂ s s' x where
 frame y o hy q:=h.frame y o (E.frame y o hy fun z=>q (hk y z)) fun z=>(hm y z).elim q fun z=>absurd (Heap.lt_size hy) (Nat.not_lt.mpr z)
 size:=Nat.le_trans E.size h.size
 toks:=Nat.le_trans E.toks h.toks
 gens:=h.gens.trans E.gens
 drawn:=h.drawn.trans E.drawn
 os:=h.os.trans E.os
 lex:=h.lex
 f1:=h.f1
 f2:=h.f2
 exc:=h.exc
 fresh:=Nat.le_trans E.size h.fresh
theorem aCh {L:Str}{b P:Nat}(hL:eX L)(hne:L.length≠1)(hp:wC L P st0 ln n₁ ln')(hσ:∀j,1335<=σ j)(hτ:1335<=τ 4)(B:aT w s)(ha:At s [a,b,c,d,e,f] (eO w.params σ τ L b c d e f st0 ln P))(nd:[a,b,c,d,e,f].Nodup)(lo:∀x∈[a,b,c,d,e,f],817<=x)(hd:frameCount bl<=484)(hbl:envsOf bl=[sp,lw])(k1:sp.scope.kind≠.module)(k2:lw.scope.kind≠.module)(g1:(sp.scope.isGenerator || sp.scope.isCoroutine)=false)(g2:(lw.scope.isGenerator || lw.scope.isCoroutine)=false)(e1:sp.frame=some F₁)(e2:lw.frame=some F₂)(h1:s.heap.get? F₁=some o₁)(h2:s.heap.get? F₂=some o₂)(n1:F₁∉[a,b,c,d,e,f])(n2:F₂∉[a,b,c,d,e,f])(n12:F₁≠F₂)(r1:(o₁.slots.getD 3 none).isSome=false)(hR:∀x s',pD [a,b,c,d,e,f,F₁,F₂] w σ τ L a b c d e f P ln' n₁ sp lw F₁ F₂ o₁ o₂ s s' x->R (.error (.ref x)) s'):
  wpCode (model PR w) ⟨.call (.ref 752) ⟨[.ref a],[]⟩,none,none,bl,none⟩ R p s:=by
 refine kK (fun ad tb=>aCc w s.gens.size ad tb bl p σ τ (fun u=>0) L a b c d e f 0 P ln n₁ ln' st0) (fun u u=>rfl) aE B ha rfl nd lo hd dT fun ad tb px s₁ Q=> ?_;have hg:s.heap.objs.size<=ad 6+817/\ad 6+817<s₁.heap.objs.size:=Q.new 6 (by show 6<=6;decide) (by show 6<7;decide);have l1:F₁<s.heap.objs.size:=Heap.lt_size h1;have l2:F₂<s.heap.objs.size:=Heap.lt_size h2
 have hat:At s₁ [a,b,c,d,e,f,ad 6+817] (eO w.params σ τ L b c d e f st0 ln P++[DY w.params (fun u=>aC tb 0) a]):=
  (Q.ats [0,1,2,3,4,5,6])
 have ng:∀y∈[a,b,c,d,e,f],y≠ad 6+817:=fun y hy=>Nat.ne_of_lt (Nat.lt_of_lt_of_le (ha.lt y hy) hg.1);have nd7:([a,b,c,d,e,f]++[ad 6+817]).Nodup:=List.nodup_append.mpr ⟨nd,by simp,fun y hy z hz=>List.mem_singleton.mp hz▸ng y hy⟩;have mem7:∀y,y∈[a,b,c,d,e,f,ad 6+817]->y∈[a,b,c,d,e,f]\/y=ad 6+817:=fun y hy=>(List.mem_append.mp (show y∈[a,b,c,d,e,f]++[ad 6+817] from hy)).imp id List.mem_singleton.mp;refine aCg hL hne hp hσ hτ (B.ext Q.ext lo) hat nd7 (fun y hy=> ?_) hd hbl k1 k2 g1 g2 e1 e2 (Q.ext.frame _ _ h1 n1) (Q.ext.frame _ _ h2 n2) (fun q=> ?_) (fun q=> ?_) n12 r1 fun x s' H=>hR x s' (H.from Q.ext (fun y hy=> ?_) fun y hy=> ?_)
 ·rcases mem7 y hy with q |q
  ·exact lo y q
  ·exact q▸Nat.le_add_left _ _
 ·rcases mem7 _ q with q |q
  ·exact n1 q
  ·exact Nat.ne_of_lt (Nat.lt_of_lt_of_le l1 hg.1) q
 ·rcases mem7 _ q with q |q
  ·exact n2 q
  ·exact Nat.ne_of_lt (Nat.lt_of_lt_of_le l2 hg.1) q
 ·exact(List.mem_append.mp (show y∈[a,b,c,d,e,f]++[ad 6+817,F₁,F₂] from hy)).elim (fun h=> .inl (tE [0,1,2,3,4,5] rfl y h)) (aB (Q:=fun y=>y∈[a,b,c,d,e,f,F₁,F₂]\/_) (.inr hg.1) (aB (.inl (mI 6)) (aD (.inl (mI 7)))) y)
 ·exact tE [0,1,2,3,4,5] rfl y hy
end
end
section
noncomputable def cK(a g:Nat):Code:= .builtin kJ ⟨[.ref g,.ref a,.none],[]⟩
theorem aCi(w:World)(g₀:Nat)(ad tb:Nat->Nat)(bl:List (Code×Pos))(p:Pos)(σ τ:Nat->Nat)(L:Str)(a b c d e f g P ln:Nat)(st0:Option Nat):
 let r:=aY w g₀ [a,b,c,d,e,f] ad tb [] 5 1 (cK a g) (cQ (.ref a)) bl p 480 [dA b,dB w.params σ c e f st0 ln ⟨⟨[]⟩⟩,bS d,cG w.params τ L P,bJ,bJ]
 fZ r [0,1,2,3,4,5]=iA r [bZ ⟨cK a g,none,none,bl,none⟩ p 480] ⟨cK a g,none,none,bl,none⟩ (some (.call (.ref 752) ⟨[.ref a],[]⟩,none))
  [some (dA b),some (dB w.params σ c e f st0 ln ⟨⟨[]⟩⟩),some (bS d),some (cG w.params τ L P),some bJ,some bJ] [] 6:=by intro r;kernel_rfl
theorem aCj(w:World)(g₀:Nat)(ad tb:Nat->Nat)(g₁:Nat)(ad' tb':Nat->Nat)(bl:List (Code×Pos))(p p':Pos)(σ τ:Nat->Nat)(L:Str)(a b c d e f g P ln x:Nat)(st0:Option Nat)(dd:Option Nat)(sl:Array (Option Value))(ws:Array Value):
 aW w g₀ [x] ad tb [] 2 1 (cK a g) (dY (aY w g₁ [a,b,c,d,e,f] ad' tb' [] 5 1 (cK a g) (cQ (.ref a)) bl p' 480 [dA b,dB w.params σ c e f st0 ln ⟨⟨[]⟩⟩,bS d,cG w.params τ L P,bJ,bJ]).t (.error (.ref x))) bl p 480 [⟨.type SL.s5991306692159431302x13,dd,.fields ws,sl⟩] [0] (.pure (.done .brk)) [⟨.type SL.s5991306692159431302x13,dd,.fields ws,sl⟩] 1:=by unfold aW;kernel_rfl
section
variable{w:World}{s:Shared}{bl:List (Code×Pos)}{p:Pos}{R:Result->Shared->Prop}
theorem aCk {L:Str}{b P:Nat}(hL:eX L)(hne:L.length≠1)(hp:wC L P st0 ln n₁ ln')(hσ:∀j,1335<=σ j)(hτ:1335<=τ 4)(B:aT w s)(ha:At s [a,b,c,d,e,f] (eO w.params σ τ L b c d e f st0 ln P))(nd:[a,b,c,d,e,f].Nodup)(lo:∀x∈[a,b,c,d,e,f],817<=x)(hd:frameCount bl<=470)(hbl:envsOf bl=[sp,lw])(k1:sp.scope.kind≠.module)(k2:lw.scope.kind≠.module)(g1:(sp.scope.isGenerator || sp.scope.isCoroutine)=false)(g2:(lw.scope.isGenerator || lw.scope.isCoroutine)=false)(e1:sp.frame=some F₁)(e2:lw.frame=some F₂)(h1:s.heap.get? F₁=some o₁)(h2:s.heap.get? F₂=some o₂)(n1:F₁∉[a,b,c,d,e,f])(n2:F₂∉[a,b,c,d,e,f])(n12:F₁≠F₂)(hF1:817<=F₁)(hF2:817<=F₂)(r1:(o₁.slots.getD 3 none).isSome=false)(hR:∀x s',pD [a,b,c,d,e,f,F₁,F₂] w σ τ L a b c d e f P ln' n₁ sp lw F₁ F₂ o₁ o₂ s s' x->R (.ok .brk) s'):
  ∃r s',Runs (model PR w) ⟨cK a g,none,none,bl,none⟩ p (cQ (.ref a)) [] s (.ret r) s'/\R r s':=by
 refine aB2 (fun ad tb=>aCi w s.gens.size ad tb bl p σ τ L a b c d e f g P ln st0) aE B ha rfl nd lo (Nat.le_trans hd dT) fun ad tb px s₁ Q=> ?_;have hat:At s₁ [a,b,c,d,e,f] (eO w.params σ τ L b c d e f st0 ln P):=lB Q;have hb:envsOf ((cK a g,px)::bl)=[sp,lw]:=by rw[envsOf_cons,JK];exact hbl
 refine aCh hL hne hp hσ hτ (B.ext Q.ext lo) hat nd lo ?_ hb k1 k2 g1 g2 e1 e2 (Q.ext.frame _ _ h1 n1) (Q.ext.frame _ _ h2 n2) n1 n2 n12 r1 fun x s₂ H=> ?_
 ·rw[frameCount_cons]
  have:(cK a g).weight<=6:=vI (by unfold cK;kernel_rfl)
  lia
 ·obtain⟨ox,hox,hc,ws,hws⟩:=H.exc
  obtain⟨cc,dd,dt,sl⟩:=ox;cases hc;cases hws;have E₂:aJ [a,b,c,d,e,f,F₁,F₂] s s₂:=⟨(H.from Q.ext (m':=[a,b,c,d,e,f,F₁,F₂]) (fun y hy=> .inl hy) (fun y hy=>List.mem_append_left [F₁,F₂] hy)).frame,Nat.le_trans Q.ext.size H.size,Nat.le_trans Q.ext.toks H.toks,H.gens.trans Q.ext.gens,H.drawn.trans Q.ext.drawn,H.os.trans Q.ext.os⟩;have B₂:aT w s₂:=B.ext E₂ fun y hy=>(List.mem_append.mp (show y∈[a,b,c,d,e,f]++[F₁,F₂] from hy)).elim (lo y) (aB hF1 (aD hF2) y);have hx:817<=x:=Nat.le_trans (Nat.le_trans B.sz Q.ext.size) H.fresh;refine bL (R:=R) (fun ad₂ tb₂=>aCj w s₂.gens.size ad₂ tb₂ s.gens.size ad tb bl px p σ τ L a b c d e f g P ln x st0 dd sl ws) aE B₂ ⟨hox,trivial⟩ rfl (by simp) (aD hx) (Nat.le_trans hd dT) fun ad₂ tb₂ s₃ Q₂=> ?_;have hx₃:=Q₂.at_ 0 0 _ rfl rfl;have X₃:aJ [] s₂ s₃:=Q₂.ext.drop1 (aD (.inr (.inr ⟨_,hox,hx₃⟩)));have keep:∀(y:Nat) o,s₂.heap.get? y=some o->s₃.heap.get? y=some o:=fun y o hy=>X₃.frame y o hy fun q=>nomatch q;have H':=H.from Q.ext (m':=[a,b,c,d,e,f,F₁,F₂]) (fun y hy=> .inl hy) (fun y hy=>List.mem_append_left [F₁,F₂] hy);refine hR x s₃ ⟨fun y o hy hm=>keep y o (H'.frame y o hy hm),Nat.le_trans H'.size Q₂.ext.size,Nat.le_trans H'.toks Q₂.ext.toks,Q₂.ext.gens.trans H'.gens,Q₂.ext.drawn.trans H'.drawn,Q₂.ext.os.trans H'.os,?_,keep _ _ H'.f1,?_,⟨_,hx₃,rfl,ws,rfl⟩,H'.fresh⟩
  ·obtain⟨t18,t21,t25,t4,z1,z2,z3,z4,z5⟩:=H'.lex
   exact⟨t18,t21,t25,t4,z1,z2,z3,z4,z5.keep fun y o u ho=>keep y o ho⟩
  ·rcases H'.f2 with⟨z,zz⟩ |⟨bb,z,zz⟩
   ·exact .inl ⟨keep _ _ z,zz⟩
   ·exact .inr ⟨bb,keep _ _ z,zz⟩
end
end
section
variable (w:World)(g₀:Nat)(ad tb:Nat->Nat)(bl:List (Code×Pos))(p:Pos)(σ τ:Nat->Nat)(L:Str)(a b c d e f g P ln n₁ ln':Nat)
theorem aCl (x:Nat)(xs:List Nat):
 aW w g₀ [a,b,c,d,e,f] ad tb [nA w.params σ τ L P (some 32) ln n₁ none ln' (sv (x::xs)) 0 1 2 3 4 5 8 5] 246 h9 (.builtin kJ ⟨[.ref g,.ref a,.none],[]⟩) (cQ (.ref a)) bl p 480 [dA b,dB w.params σ c e f (some 32) ln ⟨⟨[]⟩⟩,bS d,cG w.params τ L P,bJ,bJ] [0,1,2,3,4,5] (.pure (.done (.ret (sv ((x)::xs) (aC tb 9))))) [dA b,dB w.params (mW σ (σ 18) (aC tb 6) (aC tb 7)) c e f none (ln') ⟨⟨[]⟩⟩,bS d,cG w.params (mX τ (aC tb 8)) (L) ((P+n₁)),bJ,bJ] 8:=by unfold aW;kernel_rfl
theorem aCm:
 aW w g₀ [a,b,c,d,e,f] ad tb [nA w.params σ τ L P (some 32) ln n₁ none ln' (sv []) 0 1 2 3 4 5 8 5] 246 h9 (.builtin kJ ⟨[.ref g,.ref a,.none],[]⟩) (cQ (.ref a)) bl p 480 [dA b,dB w.params σ c e f (some 32) ln ⟨⟨[]⟩⟩,bS d,cG w.params τ L P,bJ,bJ] [0,1,2,3,4,5] (.pure (.done (.ret (sv [] (aC tb 9))))) [dA b,dB w.params (mW σ (σ 18) (aC tb 6) (aC tb 7)) c e f none (ln') ⟨⟨[]⟩⟩,bS d,cG w.params (mX τ (aC tb 8)) (L) ((P+n₁)),bJ,bJ] 8:=by unfold aW;kernel_rfl
theorem aCn (x:Nat)(xs:List Nat):
 aW w g₀ [a,b,c,d,e,f] ad tb [nA w.params σ τ L P (some 32) ln n₁ (some 32) ln' (sv (x::xs)) 0 1 2 3 4 5 8 5] 246 h9 (.builtin kJ ⟨[.ref g,.ref a,.none],[]⟩) (cQ (.ref a)) bl p 480 [dA b,dB w.params σ c e f (some 32) ln ⟨⟨[]⟩⟩,bS d,cG w.params τ L P,bJ,bJ] [0,1,2,3,4,5] (.pure (.done (.ret (sv ((x)::xs) (aC tb 9))))) [dA b,dB w.params (mW σ (aC tb 5) (aC tb 6) (aC tb 7)) c e f (some 32) (ln') ⟨⟨[]⟩⟩,bS d,cG w.params (mX τ (aC tb 8)) (L) ((P+n₁)),bJ,bJ] 8:=by unfold aW;kernel_rfl
theorem aCo:
 aW w g₀ [a,b,c,d,e,f] ad tb [nA w.params σ τ L P (some 32) ln n₁ (some 32) ln' (sv []) 0 1 2 3 4 5 8 5] 246 h9 (.builtin kJ ⟨[.ref g,.ref a,.none],[]⟩) (cQ (.ref a)) bl p 480 [dA b,dB w.params σ c e f (some 32) ln ⟨⟨[]⟩⟩,bS d,cG w.params τ L P,bJ,bJ] [0,1,2,3,4,5] (.pure (.done (.ret (sv [] (aC tb 9))))) [dA b,dB w.params (mW σ (aC tb 5) (aC tb 6) (aC tb 7)) c e f (some 32) (ln') ⟨⟨[]⟩⟩,bS d,cG w.params (mX τ (aC tb 8)) (L) ((P+n₁)),bJ,bJ] 8:=by unfold aW;kernel_rfl
end
section
section
variable{w:World}{s:Shared}{bl:List (Code×Pos)}{p:Pos}{R:Result->Shared->Prop}
theorem zH(v:Value):cQ v=bindR (pyNext v) fun x=> .pure (.done (NE x)):=by
 unfold cQ;rw[<-Fast.te9404975358583537561]
theorem ED {v:Value}{P:Shared->Prop}{Q:Option Value->Pos->Shared->Prop}{E:Value->Pos->Shared->Prop}(h:∃r s',Runs (model PR w) Γ p (cQ v) [] s (.ret r) s'/\(r= .ok .brk/\P s'))(k:∀p' s',P s'->Q none p' s'):Sem.wp (model PR w) Γ (pyNext v) Q E p s:=by
 rw[zH] at h;refine Sem.wp_mono _ _ _ (fun o p' s' q=> ?_) (fun u u u q=>nomatch q.1) _ _ (iX (R:=fun r s'=>r= .ok .brk/\P s') h);cases o with
 |some v=>exact nomatch q.1
 |none=>exact k p' s' q.2
theorem EE {v:Value}{P:Value->Shared->Prop}{Q:Option Value->Pos->Shared->Prop}{E:Value->Pos->Shared->Prop}(h:∃r s',Runs (model PR w) Γ p (cQ v) [] s (.ret r) s'/\∃x,r= .ok (.ret x)/\P x s')(k:∀x p' s',P x s'->Q (some x) p' s'):Sem.wp (model PR w) Γ (pyNext v) Q E p s:=by
 rw[zH] at h;refine Sem.wp_mono _ _ _ (fun o p' s' q=> ?_) (fun u u u q=>q.elim fun u q=>nomatch q.1) _ _ (iX (R:=fun r s'=>∃x,r= .ok (.ret x)/\P x s') h);obtain⟨x,e,q⟩:=q;cases o with
 |none=>exact nomatch e
 |some v=>
  injection e with e
  injection e with e
  exact k v p' s' (e▸q)
theorem zI {N:Flow->Shared->Prop}(h:∃r s',Runs (model PR w) ⟨cK a g,none,none,bl,none⟩ p (cQ (.ref a)) [] s (.ret r) s'/\∃fl,r= .ok fl/\N fl s')(hend:∀s',N .brk s'->R (.ok (.ret .none)) s')(hstep:∀v s',N (.ret v) s'->∃o xs n,s'.heap.get? g=some o/\o.data= .seq xs n/\xs.size<=sizeLine/\
   ∀px,wpCode (model PR w) ⟨cK a g,none,none,bl,none⟩ R px {s' with heap:=s'.heap.update g (Obj.mapSeq (·.push v))}):
  wpCode (model PR w) ⟨cK a g,none,none,bl,none⟩ R p s:=by
 rw[zH] at h;have z:=iX (R:=fun r s'=>∃fl,r= .ok fl/\N fl s') h;rw[wpCode_iff_wp]
 have hden:(model PR w).den (cK a g)=Builtin.«list.extend.loop» ⟨[.ref g,.ref a,.none],[]⟩:=by
  unfold cK;exact eM (by rw[<-nT];exact entryFor_of_fast (by kernel_rfl)) _
 show Sem.wp (model PR w) _ ((model PR w).den (cK a g)) _ _ p s;rw[hden]
 show Sem.wp (model PR w) _ (pyNext (.ref a)>>= fun r=>match r with
  |none=>ret .none
  |some x=>do Builtin.List.listUpdate (.ref g) (·.push x);again (.builtin "list.extend.loop" ⟨[.ref g,.ref a,.none],[]⟩)) _ _ p s
 rw[Sem.wp_bind'];refine Sem.wp_mono _ _ _ (fun x p' s' q=> ?_) (fun e p' s' q=> ?_) _ _ z
 ·obtain⟨v,hv,q⟩:=q
  cases x with
  |none=>
   injection hv with hv
   subst hv;exact hend s' q
  |some x=>
   injection hv with hv
   subst hv;refine bC fun zz=> ?_;obtain⟨o,xs,n,ho,hd,hz,hw⟩:=hstep x s' q;refine zz ?_;show Sem.wp (model PR w) _ (updateSeq g (·.push x)>>= fun k=>again (.builtin "list.extend.loop" ⟨[.ref g,.ref a,.none],[]⟩)) _ _ p' s';rw[Sem.wp_bind']
   have hin:PySem.Ctx.In ⟨cK a g,none,none,bl,none⟩ ⟨none,frameCount bl+(cK a g).weight,none,none,PySem.Ctx.units ⟨cK a g,none,none,bl,none⟩⟩:=
    ⟨rfl,Nat.le_refl _,fun k q=>(nomatch q),fun k q=>(nomatch q),Nat.le_refl _⟩
   have hz':(xs.push x).size<=sizeLine+1:=by rw[Array.size_push];lia
   have u:=wpAny_updateSeq (M:=model PR w) (A:=⟨none,frameCount bl+(cK a g).weight,none,none,PySem.Ctx.units ⟨cK a g,none,none,bl,none⟩⟩) (f:=(·.push x)) (E:=fun e s'=>R (.error e) s')
    (Q:=fun k s''=>s''={s' with heap:=s'.heap.update g (Obj.mapSeq (·.push x))}) ho hd rfl hz hz' ⟨cK a g,none,none,bl,none⟩ p' hin
   refine Sem.wp_mono _ _ _ (fun k p'' s'' q=> ?_) (fun e p'' s'' q=>q) _ _ u;subst q;refine⟨?_,?_⟩
   ·rw[<-qE];unfold qD;rw[nT];kernel_rfl
   ·rw[nT];exact hw p''
 ·obtain⟨v,hv,_⟩:=q
  cases hv
theorem aCp(σ:Nat->Nat)(x y z x' y' z':Nat):eW (eW σ x y z) x' y' z'=eW σ x' y' z':=by
 funext j
 unfold eW bX;cases Nat.beq j 25 <;> cases Nat.beq j 21 <;> cases Nat.beq j 18 <;> rfl
theorem aCq(τ:Nat->Nat)(v v':Nat):dZ (dZ τ v) v'=dZ τ v':=by
 funext j
 unfold dZ bX;cases Nat.beq j 4 <;> rfl
theorem aCr {z:Nat}(h:∀j,1335<=σ j)(hx:1335<=x)(hy:1335<=y)(hz:1335<=z):∀j,1335<=eW σ x y z j:=fH (fH (fH h hx) hy) hz
theorem aCs {v:Nat}(hv:1335<=v):1335<=dZ τ v 4:=hv
theorem aCt {L:Str}{b P:Nat}(hL:eX L)(hne:L.length≠1)(hp:bU true (L.cps.toList.drop P) (some 32) [] false 32 ln n₁ st' tok' q' ln' y' u')(hw:tok'≠[]\/q'=true)(hσ:∀j,1335<=σ j)(hτ:1335<=τ 4)(B:aT w s)(ha:At s [a,b,c,d,e,f] (eO w.params σ τ L b c d e f (some 32) ln P))(nd:[a,b,c,d,e,f].Nodup)(lo:∀x∈[a,b,c,d,e,f],817<=x)(hd:frameCount bl<=480):
  ∃r s',Runs (model PR w) ⟨cK a g,none,none,bl,none⟩ p (cQ (.ref a)) [] s (.ret r) s'/\∃fl,r= .ok fl/\∃t x y z v,1335<=t/\1335<=x/\1335<=y/\1335<=z/\1335<=v/\fl= .ret (sv tok' t)/\
   aJ [a,b,c,d,e,f] s s'/\At s' [a,b,c,d,e,f] (eO w.params (eW σ x y z) (dZ τ v) L b c d e f st' ln' (P+n₁)):=by
 have hk:∀hf∈[nA w.params σ τ L P (some 32) ln n₁ st' ln' (EC tok' q') 0 1 2 3 4 5 8 5],aG (model PR w) (aX w.params) hf:=
  aD (OD hL hne rfl hp hσ hτ dT dT)
 rcases OB hp with rfl |rfl
 ·match tok',q',hw,hk with
  |x::xs,q',_,hk=>
   exact bL (fun ad tb=>aCl w _ ad tb bl p σ τ L a b c d e f g P ln n₁ ln' x xs) hk B ha rfl nd lo hd fun ad tb s' Q=>
    ⟨_,rfl,_,_,_,_,_,bB tb 9,hσ 18,bB tb 6,bB tb 7,bB tb 8,rfl,Q.ext,by rw[<-tB,<-tC];exact lB Q⟩
  | [],true,_,hk=>
   exact bL (fun ad tb=>aCm w _ ad tb bl p σ τ L a b c d e f g P ln n₁ ln') hk B ha rfl nd lo hd fun ad tb s' Q=>
    ⟨_,rfl,_,_,_,_,_,bB tb 9,hσ 18,bB tb 6,bB tb 7,bB tb 8,rfl,Q.ext,by rw[<-tB,<-tC];exact lB Q⟩
  | [],false,hw,_=>exact absurd hw (by simp)
 ·match tok',q',hw,hk with
  |x::xs,q',_,hk=>
   exact bL (fun ad tb=>aCn w _ ad tb bl p σ τ L a b c d e f g P ln n₁ ln' x xs) hk B ha rfl nd lo hd fun ad tb s' Q=>
    ⟨_,rfl,_,_,_,_,_,bB tb 9,bB tb 5,bB tb 6,bB tb 7,bB tb 8,rfl,Q.ext,by rw[<-tB,<-tC];exact lB Q⟩
  | [],true,_,hk=>
   exact bL (fun ad tb=>aCo w _ ad tb bl p σ τ L a b c d e f g P ln n₁ ln') hk B ha rfl nd lo hd fun ad tb s' Q=>
    ⟨_,rfl,_,_,_,_,_,bB tb 9,bB tb 5,bB tb 6,bB tb 7,bB tb 8,rfl,Q.ext,by rw[<-tB,<-tC];exact lB Q⟩
  | [],false,hw,_=>exact absurd hw (by simp)
end
class inductive Wd(L:Str):Nat->Option Nat->Nat->List (List Nat)->Nat->Nat->Prop
 |stop {q:Nat} {st:Option Nat} {ln n₁ ln':Nat} (h:wC L q st ln n₁ ln'):Wd L q st ln [] (q+n₁) ln'
 |word {q ln n₁:Nat} {st':Option Nat} {tok':List Nat} {q':Bool} {ln₁ y':Nat} {u':List Nat} {ws:List (List Nat)} {qe lne:Nat}
   (h:bU true (L.cps.toList.drop q) (some 32) [] false 32 ln n₁ st' tok' q' ln₁ y' u') (hne:tok'≠[]\/q'=true) (t:Wd L (q+n₁) st' ln₁ ws qe lne):Wd L q (some 32) ln (tok'::ws) qe lne
noncomputable def bA:List (List Nat)->List Nat->List Value
 |w::ws,t::ts=>sv w t::bA ws ts
 |_,_=>[]
structure aCu(w:World)(σ τ:Nat->Nat)(L:Str)(a b c d e f g qe lne:Nat)(sp lw:Env)(F₁ F₂:Nat)(o₁ o₂:Obj)(vs:List Value)(ep:Nat)(s s':Shared):Prop where
 frame:∀(y:Nat) o,s.heap.get? y=some o->y∉[a,b,c,d,e,f,g,F₁,F₂]->s'.heap.get? y=some o
 size:s.heap.objs.size<=s'.heap.objs.size
 toks:s.toks<=s'.toks
 gens:s'.gens=s.gens
 drawn:s'.drawn=s.drawn
 os:s'.os=s.os
 lex:∃t18 t21 t25 t4,1335<=t18/\1335<=t21/\1335<=t25/\1335<=t4/\At s' [a,b,c,d,e,f] (eO w.params (eW σ t18 t21 t25) (dZ τ t4) L b c d e f none lne qe)
 ls:s'.heap.get? g=some (aA vs ep)
 f1:s'.heap.get? F₁=some (fO sp (.ref F₂) o₁)
 f2:s'.heap.get? F₂=some o₂/\(o₂.slots.getD 3 none).isSome=true\/∃bb:Bool,s'.heap.get? F₂=some (fO lw (if bb then .notImplemented else .none) o₂)/\(o₂.slots.getD 3 none).isSome=false
section
variable{w:World}{bl:List (Code×Pos)}{R:Result->Shared->Prop}
theorem zJ(vs:List Value)(ep:Nat)(v:Value):Obj.mapSeq (·.push v) (aA vs ep)=aA (vs++[v]) (ep+1):=by
 unfold aA;show Obj.mk _ none (.seq ((⟨vs⟩:Array Value).push v) (if((⟨vs⟩:Array Value).push v).size == (⟨vs⟩:Array Value).size then ep else ep+1)) _=_;rw[Array.size_push,if_neg (by simp)];congr 2;simp
theorem aCv {L:Str}{b:Nat}(hL:eX L)(hne:L.length≠1)(nd:[a,b,c,d,e,f].Nodup)(ng:g∉[a,b,c,d,e,f])(lo:∀x∈[a,b,c,d,e,f],817<=x)(log:817<=g)(hd:frameCount bl<=470)(hbl:envsOf bl=[sp,lw])(k1:sp.scope.kind≠.module)(k2:lw.scope.kind≠.module)(g1:(sp.scope.isGenerator || sp.scope.isCoroutine)=false)(g2:(lw.scope.isGenerator || lw.scope.isCoroutine)=false)(e1:sp.frame=some F₁)(e2:lw.frame=some F₂)(n1:F₁∉[a,b,c,d,e,f])(n2:F₂∉[a,b,c,d,e,f])(n12:F₁≠F₂)(m1:g≠F₁)(m2:g≠F₂)(hF1:817<=F₁)(hF2:817<=F₂)(r1:(o₁.slots.getD 3 none).isSome=false){st:Option Nat}(hW:Wd L q st ln ws qe lne):
  ∀(σ τ:Nat->Nat) (vs:List Value) (ep:Nat) (p:Pos) (s:Shared),(∀j,1335<=σ j)->1335<=τ 4->aT w s->At s [a,b,c,d,e,f] (eO w.params σ τ L b c d e f st ln q)->s.heap.get? g=some (aA vs ep)->
   s.heap.get? F₁=some o₁->s.heap.get? F₂=some o₂->vs.length+ws.length<=1000000->
   (∀ts s',ts.length=ws.length->(∀t∈ts,1335<=t)->aCu w σ τ L a b c d e f g qe lne sp lw F₁ F₂ o₁ o₂ (vs++bA ws ts) (ep+ws.length) s s'->R (.ok (.ret .none)) s')->
   wpCode (model PR w) ⟨cK a g,none,none,bl,none⟩ R p s:=by
 induction hW with
 |stop h=>
  intro σ τ vs ep p s hσ hτ B ha hg h1 h2 hlen hR
  refine zI (N:=fun fl s'=>fl= .brk/\∃x,pD [a,b,c,d,e,f,F₁,F₂] w σ τ L a b c d e f _ _ _ sp lw F₁ F₂ o₁ o₂ s s' x)
   (aCk (R:=fun r s'=>∃fl,r= .ok fl/\fl= .brk/\∃x,pD [a,b,c,d,e,f,F₁,F₂] w σ τ L a b c d e f _ _ _ sp lw F₁ F₂ o₁ o₂ s s' x) hL hne h hσ hτ B ha nd lo hd hbl k1 k2 g1 g2 e1 e2 h1 h2 n1 n2 n12 hF1 hF2 r1 fun x s' E=>⟨_,rfl,rfl,x,E⟩)
   (fun s' h=> ?_) (fun v s' h=>nomatch h.1)
  obtain⟨_,x,E⟩:=h;refine hR [] s' rfl aE ⟨fun y o ho hy=>E.frame y o ho fun q=>hy ?_,E.size,E.toks,E.gens,E.drawn,E.os,E.lex,?_,E.f1,E.f2⟩
  ·exact(List.mem_append.mp (show y∈[a,b,c,d,e,f]++[F₁,F₂] from q)).elim (fun q=>List.mem_append_left [g,F₁,F₂] q) fun q=>List.mem_append_right [a,b,c,d,e,f,g] q
  ·have:s'.heap.get? g=some (aA vs ep):=E.frame g _ hg fun q=>by
    have:g∈[a,b,c,d,e,f]++[F₁,F₂]:=q;rcases List.mem_append.mp this with z |z
    ·exact ng z
    ·exact(show ∀y∈[F₁,F₂],g≠y from aB m1 (aD m2)) g z rfl
   rw[this];unfold bA;rw[List.append_nil];rfl
 | @word qq ln n₁ st' tok' q' ln₁ y' u' ws qe lne h hw t ih=>
  intro σ τ vs ep p s hσ hτ B ha hg h1 h2 hlen hR
  refine zI (N:=fun fl s'=>∃t x y z v,1335<=t/\1335<=x/\1335<=y/\1335<=z/\1335<=v/\fl= .ret (sv tok' t)/\
   aJ [a,b,c,d,e,f] s s'/\At s' [a,b,c,d,e,f] (eO w.params (eW σ x y z) (dZ τ v) L b c d e f st' ln₁ (qq+n₁)))
   (aCt hL hne h hw hσ hτ B ha nd lo (Nat.le_trans hd dT)) (fun s' h=> ?_) (fun v s₁ h=> ?_)
  ·refine bC fun zz=> ?_
   obtain⟨_,_,_,_,_,_,_,_,_,_,q,_⟩:=h;refine zz ?_;cases q
  ·refine bC fun zz=> ?_
   obtain⟨t,x,y,z,v',ht,hx,hy,hz,hv,q,X,at1⟩:=h;refine zz ?_;injection q with q
   subst q;have hg₁:=X.frame g _ hg ng;refine⟨_,_,_,hg₁,rfl,?_,fun px=> ?_⟩
   ·show vs.length<=sizeLine
    exact Nat.le_trans (Nat.le_trans (Nat.le_add_right _ _) hlen) dT
   have gx:∀y,y≠g->(s₁.heap.update g (Obj.mapSeq (·.push (sv tok' t)))).get? y=s₁.heap.get? y:=fun y hy=>Heap.get?_update_other _ _ (Ne.symm hy)
   have X₂:aJ [a,b,c,d,e,f,g] s {s₁ with heap:=s₁.heap.update g (Obj.mapSeq (·.push (sv tok' t)))}:=
    ⟨fun y o hy hm=>by
     rw[show (Shared.heap {s₁ with heap:=s₁.heap.update g (Obj.mapSeq (·.push (sv tok' t)))}).get? y=s₁.heap.get? y from gx y fun q=>hm (by rw[q];exact mI 6)];exact X.frame y o hy fun q=>hm (List.mem_append_left [g] q),
     by show _<=(s₁.heap.update g _).objs.size;rw[Heap.size_after_update];exact X.size,X.toks,X.gens,X.drawn,X.os⟩
   refine ih (eW σ x y z) (dZ τ v') (vs++[sv tok' t]) (ep+1) px _ (aCr hσ hx hy hz) (aCs hv) (B.ext X₂ fun y hy=> ?_) (at1.keep fun y o hy ho=> ?_) ?_ ?_ ?_ ?_ ?_
   ·have:y∈[a,b,c,d,e,f]++[g]:=hy
    rcases List.mem_append.mp this with q |q
    ·exact lo y q
    ·rw[List.mem_singleton.mp q];exact log
   ·exact(gx y fun q=>ng (q▸hy)).trans ho
   ·have:=Heap.get?_update_self (h:=s₁.heap) (Obj.mapSeq (·.push (sv tok' t))) hg₁ rfl
    rw[zJ] at this;exact this
   ·exact(gx F₁ (Ne.symm m1)).trans (X.frame _ _ h1 n1)
   ·exact(gx F₂ (Ne.symm m2)).trans (X.frame _ _ h2 n2)
   ·simp only[List.length_append,List.length_cons,List.length_nil] at hlen ⊢;lia
   ·intro ts s' hl hts E
    refine hR (t::ts) s' (by simp[hl]) (aB ht hts) ⟨fun y o hy hm=>E.frame y o ?_ hm,Nat.le_trans X₂.size E.size,Nat.le_trans X.toks E.toks,E.gens.trans X.gens,E.drawn.trans X.drawn,E.os.trans X.os,?_,?_,E.f1,E.f2⟩
    ·exact X₂.frame y o hy fun q=>hm (List.mem_append_left [F₁,F₂] q)
    ·refine bC fun zz=> ?_
     obtain⟨t18,t21,t25,t4,z1,z2,z3,z4,z5⟩:=E.lex;refine zz ?_;rw[aCp,aCq] at z5;exact⟨t18,t21,t25,t4,z1,z2,z3,z4,z5⟩
    ·have:=E.ls
     rw[this,List.append_assoc];have e:ep+1+ws.length=ep+(tok'::ws).length:=by rw[List.length_cons];lia
     rw[e];rfl
end
end
section
noncomputable def qM(w:World)(b:Bool)(g₀:Nat)(olds:List Nat)(ad tb:Nat->Nat)(hs:List HF)(f h:Nat)(c:Code)(t:Sem Fin)(bl:List (Code×Pos))(p:Pos)(d:Nat)(objs:List Obj):St:=
 run (eK PR w b) (eK PR w true) (eK PR w false) (aX w.params) g₀ (bG olds ad) (aC tb) f h hs ⟨c,none,none,bl,none⟩ p
  [bZ ⟨c,none,none,bl,none⟩ p d] d t (T0 objs) olds.length 0 [] [] [] []
theorem zK (h:w.params.followText "special-get-raises"=b):aY w=qM w b:=by
 funext g₀ olds ad tb hs f hh c t bl p d objs
 unfold aY qM;rw[<-h,JM]
noncomputable def tF(g a:Nat):Sem Fin:=
 bindR (Fast.tw10557518346328741659 (.ref g)) fun old=>
 bindR (Fast.tw2060155186595164805 (.ref g) fun u=> #[]) fun u=>
 bindR (Fast.tw3461954006293484611 old.toList.reverse) fun u=>
 bindR (Fast.tw14684505520029207082 (.ref a)) fun t=>match t with
  | .ref _=>bindR (Fast.tw8711993805878244202 (.ref a)) fun it=>bindR (Fast.tw15112759502256325868 (.ref a)) fun room=>match room with
   |true=>bindR (Fast.tw922294955767894045 (.ref g)) fun u=> .pure (.again (.builtin kJ ⟨[.ref g,it,.none],[]⟩))
   |false=> .pure (.again (.builtin kJ ⟨[.ref g,it,.none],[]⟩))
  |_=> .unsupported ""
noncomputable def dM(a g:Nat):Code:= .builtin DL ⟨[.ref g,.ref a],[]⟩
section
variable{w:World}{s:Shared}{bl:List (Code×Pos)}{p:Pos}{R:Result->Shared->Prop}
theorem aCw (hne:g≠a)(h:∃r s',Runs (model PR w) ⟨dM a g,none,none,bl,none⟩ p (tF g a) [] s (.ret r) s'/\R r s'):
  wpCode (model PR w) ⟨dM a g,none,none,bl,none⟩ R p s:=by
 rw[wpCode_iff_wp]
 have hden:(model PR w).den (dM a g)=Builtin.«list.__init__» ⟨[.ref g,.ref a],[]⟩:=by
  unfold dM;exact eM (by rw[<-LK];exact entryFor_of_fast (by kernel_rfl)) _
 show Sem.wp (model PR w) _ ((model PR w).den (dM a g)) _ _ p s;rw[hden];have z:=(Sem.wp_iff_runs (model PR w) ⟨dM a g,none,none,bl,none⟩ (tF g a) R p s).mpr h;unfold tF at z;rw[<-Fast.te10557518346328741659,<-Fast.te2060155186595164805,<-Fast.te3461954006293484611,<-Fast.te14684505520029207082,<-Fast.te8711993805878244202,<-Fast.te15112759502256325868,<-Fast.te922294955767894045,eR] at z;show Sem.wp (model PR w) _ (Builtin.List.listItems (.ref g)>>= fun old=>Builtin.List.listUpdate (.ref g) (fun u=> #[])>>= fun u=>letGo old.toList.reverse>>= fun u=>Builtin.List.listExtendWith (.ref g) (.ref a) .none) _ _ p s;rw[Sem.wp_bind'];refine Sem.wp_mono _ _ _ (fun old p₁ s₁ z=> ?_) (fun u u u z=>z) _ _ z;rw[eR] at z;rw[Sem.wp_bind'];refine Sem.wp_mono _ _ _ (fun u p₂ s₂ z=> ?_) (fun u u u z=>z) _ _ z;rw[eR] at z;rw[Sem.wp_bind'];refine Sem.wp_mono _ _ _ (fun u p₃ s₃ z=> ?_) (fun u u u z=>z) _ _ z;rw[eR] at z;unfold Builtin.List.listExtendWith;rw[Sem.wp_bind'];refine Sem.wp_mono _ _ _ (fun t p₄ s₄ z=> ?_) (fun u u u z=>z) _ _ z;cases t with
 |ref t=>
  have hs:Builtin.List.listSameRef (.ref g) (.ref a)=false:=by
   show (g == a)=false;exact beq_false_of_ne hne
  rw[hs];rw[if_neg (show ¬((false || Value.ref t == Value.type "list" || Value.ref t == Value.type "tuple")=true) from by intro h;cases h)];rw[Sem.wp_bind'];have z:Sem.wp (model PR w) _ (bindR (pyIter (.ref a)) _) _ _ p₄ s₄:=z;rw[eR] at z;refine Sem.wp_mono _ _ _ (fun iter p₅ s₅ z=> ?_) (fun u u u z=>z) _ _ z;rw[eR] at z;rw[Sem.wp_bind',holding_eq_keep,Sem.wp_keep];refine Sem.wp_mono _ _ _ (fun room p₆ s₆ z=> ?_) (fun u u u z=>z) _ _ z;rw[nT];cases room with
  |true=>
   show Sem.wp (model PR w) _ (Builtin.List.listTouch (.ref g)>>= fun u=>_) _ _ p₆ s₆;have z:Sem.wp (model PR w) _ (bindR (Builtin.List.listTouch (.ref g)) _) _ _ p₆ s₆:=z;rw[eR] at z;rw[Sem.wp_bind'];exact z
  |false=>exact z
 |_=>exact z.elim
end
end
theorem aCx(w:World)(g₀:Nat)(ad tb:Nat->Nat)(bl:List (Code×Pos))(p:Pos)(σ τ:Nat->Nat)(L:Str)(a b c d e f g P ln:Nat)(st:Option Nat):
 let r:=qM w true g₀ [a,b,c,d,e,f,g] ad tb [] 48 CK
  (dM a g) (tF g a) bl p 460 [dA b,dB w.params σ c e f st ln ⟨⟨[]⟩⟩,bS d,cG w.params τ L P,bJ,bJ,aA [] 0]
 dI r [0,1,2,3,4,5,6]=dJ r [bZ ⟨dM a g,none,none,bl,none⟩ p 460] ⟨dM a g,none,none,bl,none⟩ (.pure (.again (cK a g))) [some (dA b),some (dB w.params σ c e f st ln ⟨⟨[]⟩⟩),some (bS d),some (cG w.params τ L P),some (bJ),some (bJ),some (⟨.type SL.s9222952809800978799x4,none,.seq ⟨[]⟩ (2),⟨[]⟩⟩)] [] 8:=by intro r;kernel_rfl
theorem aCy(w:World)(g₀:Nat)(ad tb:Nat->Nat)(bl:List (Code×Pos))(p:Pos)(σ τ:Nat->Nat)(L:Str)(a b c d e f g P ln:Nat)(st:Option Nat):
 let r:=qM w false g₀ [a,b,c,d,e,f,g] ad tb [] 48 CK
  (dM a g) (tF g a) bl p 460 [dA b,dB w.params σ c e f st ln ⟨⟨[]⟩⟩,bS d,cG w.params τ L P,bJ,bJ,aA [] 0]
 dI r [0,1,2,3,4,5,6]=dJ r [bZ ⟨dM a g,none,none,bl,none⟩ p 460] ⟨dM a g,none,none,bl,none⟩ (.pure (.again (cK a g))) [some (dA b),some (dB w.params σ c e f st ln ⟨⟨[]⟩⟩),some (bS d),some (cG w.params τ L P),some (bJ),some (bJ),some (⟨.type SL.s9222952809800978799x4,none,.seq ⟨[]⟩ (2),⟨[]⟩⟩)] [] 8:=by intro r;kernel_rfl
section
noncomputable def cD(K:Nat->Nat):Nat->List (List Nat)->List Value
 |_,[]=>[]
 |i,w::ws=>sv w (K i)::cD K (i+1) ws
theorem pE{K K':Nat->Nat}:∀(ws:List (List Nat)) (i:Nat),(∀j,j<ws.length->K' (i+j)=K (i+j))->cD K' i ws=cD K i ws
 | [],_,_=>rfl
 |n::ns,i,h=>by
  unfold cD;rw[show K' i=K i from h 0 (by simp),pE ns (i+1) fun j hj=> ?_];have:=h (j+1) (by simpa using hj);rw[Nat.add_assoc,Nat.add_comm 1 j];exact this
theorem zM{K:Nat->Nat}:∀(ws:List (List Nat)) (ts:List Nat) (i:Nat),ts.length=ws.length->(∀j (h:j<ts.length),K (i+j)=ts[j])->cD K i ws=bA ws ts
 | [],[],_,_,_=>rfl
 | [],_::_,_,h,_=>by simp at h
 |_::_,[],_,h,_=>by simp at h
 |w::ws,t::ts,i,h,hk=>by
  unfold cD bA;rw[show K i=t from hk 0 (by simp),zM ws ts (i+1) (by simpa using h) fun j hj=> ?_];have:=hk (j+1) (by simpa using hj);rw[Nat.add_assoc,Nat.add_comm 1 j,this];rfl
noncomputable def wD(env:Env)(back:Value)(sl:Array (Option Value)):Array (Option Value):=
 #[some env.code,some (.ref env.globals),sl.getD 2 none,some back,sl.getD 4 none,env.func.map Value.ref,some (.ref env.builtins)]++(env.cells.map fun c=>some (.ref c.2)).toArray
structure zN(lw:Env)(sl:Array (Option Value))(slf:Nat->Array (Option Value)):Prop where
 stay:(sl.getD 3 none).isSome=true->∃t,1335<=t/\slf t=sl
 made:(sl.getD 3 none).isSome=false->∀b:Bool,∃t,1335<=t/\slf t=wD lw (if b then .notImplemented else .none) sl
noncomputable def fP(dt:List DictEntry)(ep:Nat)(sl:Array (Option Value)):Obj:=⟨fI,none,.dict ⟨dt⟩ ep,sl⟩
noncomputable def OF(P:Params)(σf τf:(Nat->Nat)->Nat->Nat)(L:Str)(ws:List (List Nat))(qe lne:Nat)(spE:Nat->Env)(blf:Nat->List (Code×Pos))(ld:(Nat->Nat)->(Nat->Nat)->List DictEntry)(le:Nat)
  (dt:List DictEntry)(ep:Nat)(sl:Array (Option Value))(slf:Nat->Array (Option Value))(ja jb jc jd je jf jg j1 j2:Nat)(n i:Nat):HF:=
 vV (fun A u=>some (spE (A j1)::nR (blf (A j2)))) (fun A u=>dM (A ja) (A jg)) [ja,jb,jc,jd,je,jf,jg,j1,j2]
  (fun A K=>[dA (A jb),dB P (σf K) (A jc) (A je) (A jf) (some 32) 1 ⟨⟨[]⟩⟩,bS (A jd),cG P (τf K) L 0,bJ,bJ,aA [] 0,fP (ld A K) le ⟨[]⟩,fP dt ep sl])
  (fun A K=>[dA (A jb),dB P (eW (σf K) (K i) (K (i+1)) (K (i+2))) (A jc) (A je) (A jf) none lne ⟨⟨[]⟩⟩,bS (A jd),cG P (dZ (τf K) (K (i+3))) L qe,bJ,bJ,aA (cD K (i+5) ws) (2+ws.length),
   fP (ld A K) le (wD (spE (A j1)) (.ref (A j2)) ⟨[]⟩),fP dt ep (slf (K (i+4)))])
  (fun u u=>[]) (fun u u=> .ok (.ret .none)) 13 n i 460
theorem aCz(w:World)(g₀:Nat)(ad tb:Nat->Nat)(bl:List (Code×Pos))(p:Pos)(σ τ:Nat->Nat)(L:Str)(a b c d e f g P ln:Nat)(st:Option Nat):
 let r:=aY w g₀ [a,b,c,d,e,f,g] ad tb [] 48 CK
  (dM a g) (tF g a) bl p 460 [dA b,dB w.params σ c e f st ln ⟨⟨[]⟩⟩,bS d,cG w.params τ L P,bJ,bJ,aA [] 0]
 dI r [0,1,2,3,4,5,6]=dJ r [bZ ⟨dM a g,none,none,bl,none⟩ p 460] ⟨dM a g,none,none,bl,none⟩ (.pure (.again (cK a g))) [some (dA b),some (dB w.params σ c e f st ln ⟨⟨[]⟩⟩),some (bS d),some (cG w.params τ L P),some (bJ),some (bJ),some (⟨.type SL.s9222952809800978799x4,none,.seq ⟨[]⟩ (2),⟨[]⟩⟩)] [] 8:=by
 cases h:w.params.followText "special-get-raises" with
 |true=>rw[zK h];exact aCx w g₀ ad tb bl p σ τ L a b c d e f g P ln st
 |false=>rw[zK h];exact aCy w g₀ ad tb bl p σ τ L a b c d e f g P ln st
section
variable{w:World}
theorem aD0 {σf τf:(Nat->Nat)->Nat->Nat}{L:Str}{spE:Nat->Env}{blf:Nat->List (Code×Pos)}{ld:(Nat->Nat)->(Nat->Nat)->List DictEntry}{le:Nat}{dt:List DictEntry}{sl:Array (Option Value)}{slf:Nat->Array (Option Value)}{jg:Nat}{lwf:Nat->Env}(hL:eX L)(hne:L.length≠1)(hW:Wd L 0 (some 32) 1 ws qe lne)(hlen:ws.length<=8)(hσ:∀K:Nat->Nat,(∀j,1335<=K j)->∀j,1335<=σf K j)(hτ:∀K:Nat->Nat,(∀j,1335<=K j)->1335<=τf K 4)(lσ:∀K K':Nat->Nat,(∀j,j<i->K' j=K j)->σf K'=σf K)(lτ:∀K K':Nat->Nat,(∀j,j<i->K' j=K j)->τf K'=τf K)(lld:cH ld n i)(hbl:∀x,envsOf (blf x)=[lwf x])(k1:∀x,(spE x).scope.kind≠.module)(k2:∀x,(lwf x).scope.kind≠.module)(g1:∀x,((spE x).scope.isGenerator || (spE x).scope.isCoroutine)=false)(g2:∀x,((lwf x).scope.isGenerator || (lwf x).scope.isCoroutine)=false)(e1:∀x,(spE x).frame=some x)(e2:∀x,(lwf x).frame=some x)(hF:∀x,zN (lwf x) sl slf)(hj:∀j∈[ja,jb,jc,jd,je,jf,jg,j1,j2],j<n)(hnd:[ja,jb,jc,jd,je,jf,jg,j1,j2].Nodup):
  aG (model PR w) (aX w.params) (OF w.params σf τf L ws qe lne spE blf ld le dt ep sl slf ja jb jc jd je jf jg j1 j2 n i):=by
 have la:ja<n:=hj _ (mI 0);have lb:jb<n:=hj _ (mI 1);have lc:jc<n:=hj _ (mI 2);have ld':jd<n:=hj _ (mI 3);have le':je<n:=hj _ (mI 4);have lf:jf<n:=hj _ (mI 5);have lg:jg<n:=hj _ (mI 6);have l1:j1<n:=hj _ (mI 7);have l2:j2<n:=hj _ (mI 8);refine DT 0 (fun v v=>rfl) ?_ ?_ ?_ (fun v v v v v v=>rfl) (fun v v v v v v=>rfl) ?_ (fun v v=>rfl) (fun v v=>rfl) hj hnd fun A K bl p s hA hK hd B ha nd lo hE=> ?_
 ·intro A K A' K' a1 a2
  show dM (A' ja) (A' jg)=dM (A ja) (A jg);rw[a1 _ la,a1 _ lg]
 ·intro A K A' K' a1 a2
  exact cC (by rw[a1 _ lb]) (cC (by rw[a1 _ lc,a1 _ le',a1 _ lf,lσ K K' a2]) (cC (by rw[a1 _ ld']) (cC (by rw[lτ K K' a2]) (cC rfl (cC rfl (cC rfl (cC (by rw[lld A K A' K' a1 a2]) rfl)))))))
 ·intro A K A' K' a1 a2
  have a1:∀j,j<n->A' j=A j:=a1;have a3:∀j,j<i->K' j=K j:=fun j hj=>a2 j (Nat.lt_add_right 13 hj);have a2:∀j,j<13->K' (i+j)=K (i+j):=fun j hj=>a2 _ (Nat.add_lt_add_left hj i)
  exact cC (by rw[a1 _ lb]) (cC (by rw[a1 _ lc,a1 _ le',a1 _ lf,lσ K K' a3,a2 1 dT,a2 2 dT,show K' i=K i from a2 0 dT]) (cC (by rw[a1 _ ld']) (cC (by rw[lτ K K' a3,a2 3 dT]) (cC rfl (cC rfl
   (cC (by rw[pE (K:=K) (K':=K') ws (i+5) fun j hj=>by rw[Nat.add_assoc];exact a2 _ (by lia)]) (cC (by rw[a1 _ l1,a1 _ l2,lld A K A' K' a1 a3]) (cC (by rw[a2 4 dT]) rfl))))))))
 ·intro A K A' K' a1 a2
  show some (spE (A' j1)::nR (blf (A' j2)))=_;rw[a1 _ l1,a1 _ l2]
 ·have hE:envsOf bl=[spE (A j1),lwf (A j2)]:=by
   rw[hE _ rfl,<-CT,hbl]
  have nd:[A ja,A jb,A jc,A jd,A je,A jf,A jg,A j1,A j2].Nodup:=nd;have lo:∀x∈[A ja,A jb,A jc,A jd,A je,A jf,A jg,A j1,A j2],817<=x:=lo;have ndA:([A ja,A jb,A jc,A jd,A je,A jf]++[A jg,A j1,A j2]).Nodup:=nd;have nd6:=(List.nodup_append.mp ndA).1;have nd63:=(List.nodup_append.mp ndA).2.2;have hg1:A jg≠A j1:=iI nd 6 7 rfl;have hg2:A jg≠A j2:=iI nd 6 8 rfl;have h12:A j1≠A j2:=iI nd 7 8 rfl;have ng:A jg∉[A ja,A jb,A jc,A jd,A je,A jf]:=fun q=>nd63 _ q _ (mI 0) rfl;have n1:A j1∉[A ja,A jb,A jc,A jd,A je,A jf]:=fun q=>nd63 _ q _ (mI 1) rfl;have n2:A j2∉[A ja,A jb,A jc,A jd,A je,A jf]:=fun q=>nd63 _ q _ (mI 2) rfl;have lo6:∀x∈[A ja,A jb,A jc,A jd,A je,A jf],817<=x:=zE hA [ja,jb,jc,jd,je,jf];have hat:At s [A ja,A jb,A jc,A jd,A je,A jf,A jg,A j1,A j2] [dA (A jb),dB w.params (σf K) (A jc) (A je) (A jf) (some 32) 1 ⟨⟨[]⟩⟩,bS (A jd),cG w.params (τf K) L 0,bJ,bJ,aA [] 0,fP (ld A K) le ⟨[]⟩,fP dt ep sl]:=ha
  have at7:At s [A ja,A jb,A jc,A jd,A je,A jf,A jg] [dA (A jb),dB w.params (σf K) (A jc) (A je) (A jf) (some 32) 1 ⟨⟨[]⟩⟩,bS (A jd),cG w.params (τf K) L 0,bJ,bJ,aA [] 0]:=
   ⟨hat.1,hat.2.1,hat.2.2.1,hat.2.2.2.1,hat.2.2.2.2.1,hat.2.2.2.2.2.1,hat.2.2.2.2.2.2.1,trivial⟩
  have ho1:s.heap.get? (A j1)=some (fP (ld A K) le ⟨[]⟩):=hat.2.2.2.2.2.2.2.1;have ho2:s.heap.get? (A j2)=some (fP dt ep sl):=hat.2.2.2.2.2.2.2.2.1;have nd72:([A ja,A jb,A jc,A jd,A je,A jf,A jg]++[A j1,A j2]).Nodup:=nd;have nd7:=(List.nodup_append.mp nd72).1;have lo7:∀x∈[A ja,A jb,A jc,A jd,A je,A jf,A jg],817<=x:=zE hA [ja,jb,jc,jd,je,jf,jg];refine aCw (fun q=>ng (by rw[q];simp)) ?_;refine oX (fun ad tb=>aCz w s.gens.size ad tb bl p (σf K) (τf K) L (A ja) (A jb) (A jc) (A jd) (A je) (A jf) (A jg) 0 1 (some 32)) (fun v v=>by unfold cK;kernel_rfl) aE B at7 rfl nd7 lo7 hd fun ad tb px s₁ Q=> ?_;have m1:A j1∉[A ja,A jb,A jc,A jd,A je,A jf,A jg]:=fun q=>(List.nodup_append.mp nd72).2.2 _ q _ (mI 0) rfl;have m2:A j2∉[A ja,A jb,A jc,A jd,A je,A jf,A jg]:=fun q=>(List.nodup_append.mp nd72).2.2 _ q _ (mI 1) rfl
  have lB:At s₁ [A ja,A jb,A jc,A jd,A je,A jf] (eO w.params (σf K) (τf K) L (A jb) (A jc) (A jd) (A je) (A jf) (some 32) 1 0):=
   (Q.ats [0,1,2,3,4,5])
  refine aCv (sp:=spE (A j1)) (lw:=lwf (A j2)) hL hne nd6 ng lo6 (lo _ (mI 6)) (Nat.le_trans hd dT) hE (k1 _) (k2 _) (g1 _) (g2 _) (e1 _) (e2 _) n1 n2 h12 hg1 hg2 (lo _ (mI 7)) (lo _ (mI 8)) (o₁:=fP (ld A K) le ⟨[]⟩) rfl hW
   (σf K) (τf K) [] 2 px s₁ (hσ K hK) (hτ K hK) (B.ext Q.ext lo7) lB (Q.at_ 6 6 _ rfl rfl) (Q.ext.frame _ _ ho1 m1) (Q.ext.frame _ _ ho2 m2) (by simp only[List.length_nil];lia) fun ts s' hl hts E=> ?_
  refine bC fun zz=> ?_;obtain⟨t18,t21,t25,t4,z1,z2,z3,z4,z5⟩:=E.lex;refine zz ?_
  have f2:∃t,1335<=t/\s'.heap.get? (A j2)=some (fP dt ep (slf t)):=by
   rcases E.f2 with⟨z,zz⟩ |⟨bb,z,zz⟩
   ·obtain⟨t,ht,e⟩:=(hF (A j2)).stay zz
    exact⟨t,ht,by rw[e];exact z⟩
   ·obtain⟨t,ht,e⟩:=(hF (A j2)).made zz bb
    exact⟨t,ht,by rw[e];exact z⟩
  obtain⟨tf,htf,f2⟩:=f2;refine⟨[],t18::t21::t25::t4::tf::ts,rfl,List.nodup_nil,aE,aB z1 (aB z2 (aB z3 (aB z4 (aB htf hts)))),?_,?_,trivial,rfl⟩
  ·refine⟨fun y o ho hm=>E.frame y o (Q.ext.frame y o ho fun q=>hm ?_) hm,Nat.le_trans Q.ext.size E.size,Nat.le_trans Q.ext.toks E.toks,E.gens.trans Q.ext.gens,E.drawn.trans Q.ext.drawn,E.os.trans Q.ext.os⟩
   exact List.mem_append_left [A j1,A j2] q
  ·have u:∀j,(h:j<(t18::t21::t25::t4::tf::ts).length)->upd K i (t18::t21::t25::t4::tf::ts) (i+j)=(t18::t21::t25::t4::tf::ts)[j]'h:=fun j h=>iP h
   have lw:∀j,j<i->upd K i (t18::t21::t25::t4::tf::ts) j=K j:=fun j hj=>fN hj
   have ew:cD (upd K i (t18::t21::t25::t4::tf::ts)) (i+5) ws=bA ws ts:=zM ws ts (i+5) hl fun j hj=>by
    rw[Nat.add_assoc,u (5+j) (by simp only[List.length_cons];lia)];simp[Nat.add_comm 5 j]
   have l5:∀j,j<5->j<(t18::t21::t25::t4::tf::ts).length:=fun j h=>Nat.lt_of_lt_of_le h (Nat.le_add_left 5 ts.length);have u0:upd K i (t18::t21::t25::t4::tf::ts) i=t18:=u 0 (l5 0 dT);rw[iY];exact⟨z5.1,by rw[lσ K _ lw,u0,u 1 (l5 1 dT),u 2 (l5 2 dT)];exact z5.2.1,z5.2.2.1,by rw[lτ K _ lw,u 3 (l5 3 dT)];exact z5.2.2.2.1,z5.2.2.2.2.1,z5.2.2.2.2.2.1,by rw[ew];exact E.ls,by rw[lld A K A _ (fun v v=>rfl) lw];exact E.f1,by rw[u 4 (l5 4 dT)];exact f2,trivial⟩
end
end
noncomputable def zO:Stmt:=cM 29
noncomputable def aD1(loc:Nat):Env:=nV zO [115,112,108,105,116,46,60,108,111,99,97,108,115,62,46] 767 766 loc
noncomputable def aD2(K:Nat->Nat):Nat->Nat:=cO K [36,38,40,42,45,96,48,52,57,55,59,62,60,65,63,68,66,71,69,73,76,74,79,77,82,80,84,86,90,87]
noncomputable def aD3(t:Nat)(K:Nat->Nat):Nat->Nat:=bX (cO K [19,22,0,25,23]) 2 t
noncomputable def zP(P:Params)(L:Str)(t:Nat)(A K:Nat->Nat):List DictEntry:=
 [de P [115] (K 0) (.str L t),de P [99,111,109,109,101,110,116,115] (K 1) (.bool false),de P [112,111,115,105,120] (K 2) (.bool true),de P [108,101,120] (K 93) (.ref (A 3))]
theorem aD4(w:World)(g₀:Nat)(ad tb:Nat->Nat)(bl:List (Code×Pos))(p:Pos)(blf:Nat->List (Code×Pos))(L:Str)(t lf:Nat)(dt:List DictEntry)(ep:Nat)(sl:Array (Option Value))(slf:Nat->Array (Option Value))(ws:List (List Nat))(qe lne:Nat):
 aZ w g₀ [lf] ad tb [OF w.params aD2 (aD3 t) L ws qe lne aD1 blf (zP w.params L t) 4 dt ep sl slf 3 2 9 8 12 13 14 1 0 15 99] 1369 (aQ 0x807803c03c0008 [20,0xc00c00c00000,39,gN,14,4504699541749784,5,1,12,1,6,1,7,8,27,0x4002002002000500,36,gJ,1,1,30,0x800a00a00a00a00500,36,gJ,1,1,15,2048,57,IF,17,0x3803803801c00e00e,42,gJ,183,gq,35,0xd00d00d0068034034000000c00c00c00000,39,gN,1,2,12,vE,3,1,12,1,6,1,7,8,17,4195584,36,gJ,183,gq,36,gJ,1,1,17,524312,8,8194,12,2,19,268517388,8,4097,194,gq,3,1280,36,gJ,1,1,18,8391168,57,IF,5,81932,6,49164,44,gN,23,0x28028028028028024024024,6,20,24,20,6,20,6,10,37,0x5005806100c201,12,vE,1,9,9,40970,24,10,27,20486,9,12291,7,98328,18,92293125,15,5,24,5,40,0x50058058048048048,6,40,24,40,6,40,6,20,36,0xa00b009009009,6,5,24,5,6,5,7,40,36,5631011664764946,6,10,24,10,6,10,6,5,31,671268908,9,11,20,0xb2016402c02c,9,11,9,11,22,0x5805802c02c016016,24,5,6,5,114,1,13,4,12,4,17,vF,5,32776,81,40,12,5,41,0x2802801401400a00a0050050028028,24,8,6,8,91,8194,6,2,6,1,6,4096,16,vC,3,0]) (.call (.ref 767) ⟨[.str L t],[]⟩) (blf lf) p 400 [fP dt ep sl] [0,14] (.pure (.done (.ret (.ref (bG [lf] ad 14))))) [fP dt ep (slf (aC tb 103)),aA (cD (aC tb) 104 ws) (2+ws.length)] 15:=by unfold aZ;kernel_rfl
section
theorem EF{K K':Nat->Nat}:∀(ws:List (List Nat)) (i i':Nat),(∀j,j<ws.length->K (i+j)=K' (i'+j))->cD K i ws=cD K' i' ws
 | [],_,_,_=>rfl
 |w::ws,i,i',h=>by
  unfold cD;rw[show K i=K' i' from h 0 (by simp),EF ws (i+1) (i'+1) fun j hj=> ?_];have:=h (j+1) (by simpa using hj);rw[Nat.add_assoc,Nat.add_comm 1 j,this,Nat.add_assoc i',Nat.add_comm 1 j]
noncomputable def wE(L:Str)(tf:(Nat->Nat)->Nat)(ws:List (List Nat))(lwf:(Nat->Nat)->Env)(dt:(Nat->Nat)->(Nat->Nat)->List DictEntry)(ep:Nat)(sl:(Nat->Nat)->(Nat->Nat)->Array (Option Value))
  (slf:(Nat->Nat)->(Nat->Nat)->Nat->Array (Option Value))(j2 n i:Nat):HF:=
 vV (fun A u=>some [lwf A]) (fun u K=> .call (.ref 767) ⟨[.str L (tf K)],[]⟩) [j2] (fun A K=>[fP (dt A K) ep (sl A K)]) (fun A K=>[fP (dt A K) ep (slf A K (K i))])
  (fun u K=>[aA (cD K (i+1) ws) (2+ws.length)]) (fun A u=> .ok (.ret (.ref (A n)))) 9 n i 390
section
variable{w:World}
theorem zQ {L:Str}{tf:(Nat->Nat)->Nat}{lwf:(Nat->Nat)->Env}{dt:(Nat->Nat)->(Nat->Nat)->List DictEntry}{sl:(Nat->Nat)->(Nat->Nat)->Array (Option Value)}{slf:(Nat->Nat)->(Nat->Nat)->Nat->Array (Option Value)}(hL:eX L)(hne:L.length≠1)(hW:Wd L 0 (some 32) 1 ws qe lne)(hlen:ws.length<=8)(ltf:∀K K':Nat->Nat,(∀j,j<i->K' j=K j)->tf K'=tf K)(llw:∀A A':Nat->Nat,(∀j,j<n->A' j=A j)->lwf A'=lwf A)(ldt:cH dt n i)(lsl:cH sl n i)(lslf:cH slf n i)(k2:∀A,(lwf A).scope.kind≠.module)(g2:∀A,((lwf A).scope.isGenerator || (lwf A).scope.isCoroutine)=false)(e2:∀A,(lwf A).frame=some (A j2))(hF:∀A K,zN (lwf A) (sl A K) (slf A K))(hj:j2<n):
  aG (model PR w) (aX w.params) (wE L tf ws lwf dt ep sl slf j2 n i):=by
 refine DT 1 (fun v v=>rfl) ?_ ?_ ?_ ?_ ?_ ?_ (fun v v=>rfl) (fun v v=>rfl) (fun j h=>by simp at h;lia) (by simp) fun A K bl p s hA hK hd B ha nd lo hE=> ?_
 ·intro A K A' K' a1 a2
  show Code.call _ ⟨[.str L (tf K')],[]⟩=Code.call _ ⟨[.str L (tf K)],[]⟩;rw[ltf K K' a2]
 ·intro A K A' K' a1 a2
  show[fP (dt A' K') ep (sl A' K')]=[fP (dt A K) ep (sl A K)];rw[ldt A K A' K' a1 a2,lsl A K A' K' a1 a2]
 ·intro A K A' K' a1 a2
  show[fP (dt A' K') ep (slf A' K' (K' i))]=[fP (dt A K) ep (slf A K (K i))];rw[ldt A K A' K' (fun j h=>a1 j (by lia)) (fun j h=>a2 j (by lia)),lslf A K A' K' (fun j h=>a1 j (by lia)) (fun j h=>a2 j (by lia)),a2 i (by lia)]
 ·intro A K A' K' a1 a2
  show[aA (cD K' (i+1) ws) _]=[aA (cD K (i+1) ws) _];rw[pE ws (i+1) fun j h=>a2 _ (by lia)]
 ·intro A K A' K' a1 a2
  show Except.ok (Flow.ret (.ref (A' n)))=Except.ok (Flow.ret (.ref (A n)));rw[a1 n (by lia)]
 ·intro A K A' K' a1 a2
  show some [lwf A']=some [lwf A];rw[llw A A' a1]
 ·have hb:envsOf bl=[lwf A]:=hE _ rfl
  let blf:Nat->List (Code×Pos):=fun x=>match Nat.beq x (A j2) with
   |true=>bl
   |false=>[(.func [] {lwf A with frame:=some x},p)]
  have e:blf (A j2)=bl:=by
   show (match Nat.beq (A j2) (A j2) with |true=>bl |false=>_)=bl;rw[Nat.beq_refl]
  have hbl:∀x,envsOf (blf x)=[{lwf A with frame:=some x}]:=fun x=>by
   show envsOf (match Nat.beq x (A j2) with |true=>bl |false=>_)=_;cases h:Nat.beq x (A j2) with
   |true=>
    have h:=Nat.eq_of_beq_eq_true h;subst h;show envsOf bl=_;rw[hb];have:=e2 A;cases hl:lwf A with
    |mk=>rw[hl] at this;simp at this;subst this;rfl
   |false=>rfl
  suffices h:wpCode (model PR w) ⟨.call (.ref 767) ⟨[.str L (tf K)],[]⟩,none,none,blf (A j2),none⟩ (fun r s'=>∃la lk:List Nat,la.length=1/\la.Nodup/\(∀a∈la,s.heap.objs.size<=a)/\(∀t∈lk,1335<=t)/\aJ (bM A [j2]) s s'/\
    At s' (bM A [j2]) [fP (dt (upd A n la) (upd K i lk)) ep (slf (upd A n la) (upd K i lk) (upd K i lk i))]/\At s' la [aA (cD (upd K i lk) (i+1) ws) (2+ws.length)]/\r=Except.ok (Flow.ret (.ref (upd A n la n)))) p s by
   rw[e] at h;exact h
  refine cT (fun ad tb=>aD4 w _ ad tb bl p blf L (tf K) (A j2) (dt A K) ep (sl A K) (slf A K) ws qe lne)
   (aD (aD0 (lwf:=fun x=>{lwf A with frame:=some x}) hL hne hW hlen (fun K hK=>wB hK _) (fun K hK=>(wB hK [19,22,0,25,23] 4:1335<=cO K [19,22,0,25,23] 4)) (fun K K' h=>nY h _ dT dT) (fun K K' h=> ?_) ?_ hbl
    (fun x=>show (kI zO).kind≠.module by decide+kernel) (fun x=>k2 A) (fun x=>show ((kI zO).isGenerator || (kI zO).isCoroutine)=false by decide+kernel) (fun x=>g2 A) (fun x=>rfl) (fun x=>rfl) (fun x=> ?_) dT dT))
   B ha rfl nd lo (by rw[e];exact Nat.le_trans hd dT) dT fun ad tb s' Q=> ?_
  ·show bX _ 2 _=bX _ 2 _
   rw[nY h _ dT dT]
  ·intro A K A' K' a1 a2
   show zP _ _ _ A' K'=zP _ _ _ A K;unfold zP;rw[a1 3 dT,a2 0 dT,a2 1 dT,a2 2 dT,a2 93 dT]
  ·exact⟨fun h=>(hF A K).stay h,fun h b=>(hF A K).made h b⟩
  ·have u:∀j,(h:j<9)->upd K i [aC tb 103,aC tb 104,aC tb 105,aC tb 106,aC tb 107,aC tb 108,aC tb 109,aC tb 110,aC tb 111] (i+j)=aC tb (103+j):=fun j h=>rZ (m:=9) (g:=fun j=>aC tb (103+j)) h
   have eA:∀j,j<n->upd A n [ad 14+817] j=A j:=fun j hj=>fN hj;refine⟨[ad 14+817],[aC tb 103,aC tb 104,aC tb 105,aC tb 106,aC tb 107,aC tb 108,aC tb 109,aC tb 110,aC tb 111],rfl,by simp,?_,?_,Q.ext,?_,?_,?_⟩
   ·intro a ha;simp at ha;subst ha
    exact(Q.new 14 (by show 1<=14;decide) (by show 14<15;decide)).1
   ·intro a ha
    simp only[List.mem_cons,List.not_mem_nil,or_false] at ha;rcases ha with q |q |q |q |q |q |q |q |q <;> subst q <;> exact bB _ _
   ·refine⟨?_,trivial⟩
    rw[ldt A K _ _ eA (fun j hj=>fN hj),lslf A K _ _ eA (fun j hj=>fN hj),show upd K i _ i=aC tb 103 from u 0 dT];exact Q.at_ 0 0 _ rfl rfl
   ·refine⟨?_,trivial⟩
    rw[EF ws (i+1) 104 (K':=aC tb) fun j hj=> ?_]
    ·exact Q.at_ 1 14 _ rfl rfl
    ·rw[Nat.add_assoc,u (1+j) (by lia),<-Nat.add_assoc]
   ·rw[show upd A n [ad 14+817] n=ad 14+817 from iP (l:=[ad 14+817]) (j:=0) (by simp)]
    rfl
end
end
section
noncomputable def aK(vs:List Value):Obj:=⟨.type SL.s2766695959194262286x5,none,.seq ⟨vs⟩ 0,⟨[]⟩⟩
noncomputable def iQ(l u:Value):Obj:=⟨.type SL.s4674234679698826739x5,none,.fields ⟨[l,u,.none]⟩,⟨[]⟩⟩
noncomputable def kL(q r x:Nat)(t u:TR)(n i:Nat):HF:=
 dP (fun v K=> .builtin MV ⟨[.int (Int.ofNat x) (t.ev K),.int (Int.ofNat 16) (u.ev K)],[]⟩) [] (fun v v=>[]) (fun v v=>[])
  (fun v K=>[aK [.int (Int.ofNat q) (K i),.int (Int.ofNat r) (K (i+1))]]) (fun A v=> .ok (.ret (.ref (A n)))) 2 n i 900
noncomputable def OG:List UInt8:=[65,66,67,68,69,70,71,72,73,74,75,76,77,78,79,80]
noncomputable def kM(r:Nat)(b t u:TR)(j n i:Nat):HF:=
 dP (fun A K=> .builtin MN ⟨[.bytes ⟨OG⟩ (b.ev K),.ref (A j)],[]⟩) [j] (fun v K=>[iQ (.int (Int.ofNat r) (t.ev K)) (.int (Int.ofNat (r+1)) (u.ev K))]) (fun v K=>[iQ (.int (Int.ofNat r) (t.ev K)) (.int (Int.ofNat (r+1)) (u.ev K))])
  (fun v v=>[]) (fun v K=> .ok (.ret (.bytes ⟨[UInt8.ofNat (r+65)]⟩ (K i)))) 1 n i 900
section
variable{w:World}
theorem aD5(w:World)(g₀:Nat)(ad tb:Nat->Nat)(bl:List (Code×Pos))(p:Pos)(a t u v k:Nat)(hk:k<16):
 aZ w g₀ [a] ad tb [] 7 281543712968705 (.builtin MN ⟨[.bytes ⟨OG⟩ t,.ref a],[]⟩) bl p 900 [iQ (.int (Int.ofNat k) u) (.int (Int.ofNat (k+1)) v)] [0] (.pure (.done (.ret (.bytes ⟨[UInt8.ofNat (k+65)]⟩ (aC tb 0))))) [iQ (.int (Int.ofNat k) u) (.int (Int.ofNat (k+1)) v)] 1:=by
 match k,hk with
 |0,_ |1,_ |2,_ |3,_ |4,_ |5,_ |6,_ |7,_ |8,_ |9,_ |10,_ |11,_ |12,_ |13,_ |14,_ |15,_=>unfold aZ;kernel_rfl
 |k+16,h=>exact absurd h (Nat.not_lt.mpr (Nat.le_add_left 16 k))
theorem iG {l:List Nat}:upd K i (x::l) i=x:=iP (l:=x::l) (j:=0) (by simp)
theorem tG {l:List Nat}:upd K i (x::y::l) (i+1)=y:=iP (l:=x::y::l) (j:=1) (by simp)
theorem lC {r:Nat}{t u:TR}(h:x=16*q+r)(hr:r<16)(ht:t.ok i=true)(hu:u.ok i=true):aG (model PR w) (aX w.params) (kL q r x t u n i):=by
 refine eN 1 (fun v v=>rfl) ?_ (fun v v v v v v=>rfl) (fun v v v v v v=>rfl) ?_ ?_ (fun v v=>rfl) (fun v v=>rfl) (by simp) (by simp) fun A K bl p s hA hK hd B ha nd lo=> ?_
 ·intro A K A' K' a1 a2
  show Code.builtin _ ⟨[.int _ (t.ev K'),.int _ (u.ev K')],[]⟩=Code.builtin _ ⟨[.int _ (t.ev K),.int _ (u.ev K)],[]⟩;rw[TR.lcc ht a2,TR.lcc hu a2]
 ·intro A K A' K' a1 a2
  show[aK [.int _ (K' i),.int _ (K' (i+1))]]=[aK [.int _ (K i),.int _ (K (i+1))]];rw[a2 i (Nat.lt_add_of_pos_right dT),a2 (i+1) (Nat.lt_succ_self _)]
 ·intro A K A' K' a1 a2
  show Except.ok (Flow.ret (.ref (A' n)))=Except.ok (Flow.ret (.ref (A n)));rw[a1 n (Nat.lt_succ_self n)]
 ·refine cT (fun ad tb=>aBb w _ ad tb bl p x (t.ev K) (u.ev K)) aE B trivial rfl List.nodup_nil aE hd dT fun ad tb s' Q=> ?_
  refine⟨[ad 0+817],[aC tb 0,aC tb 1],rfl,by simp,?_,?_,Q.ext,trivial,⟨?_,trivial⟩,?_⟩
  ·exact aD (Q.new 0 (by show 0<=0;decide) (by show 0<1;decide)).1
  ·exact aB (bB _ _) (aD (bB _ _))
  ·rw[iG,tG]
   have e:=Q.at_ 0 0 _ rfl rfl
   have e1:Int.fdiv (Int.ofNat x) (Int.ofNat 16)=Int.ofNat q:=by
    have:Int.fdiv (Int.ofNat x) (Int.ofNat 16)=Int.ofNat (x / 16):=(Int.ofNat_fdiv x 16).symm;rw[this,h,Nat.mul_add_div dT,Nat.div_eq_of_lt hr];rfl
   have e2:Int.fmod (Int.ofNat x) (Int.ofNat 16)=Int.ofNat r:=by
    have:Int.fmod (Int.ofNat x) (Int.ofNat 16)=Int.ofNat (x % 16):=by rw[Int.fmod_eq_emod_of_nonneg _ dT];rfl
    rw[this,h,Nat.mul_add_mod,Nat.mod_eq_of_lt hr]
   rw[e1,e2] at e;exact e
  ·rw[iG];rfl
theorem lD {r:Nat}{b t u:TR}(hr:r<16)(hb:b.ok i=true)(ht:t.ok i=true)(hu:u.ok i=true)(hj:j<n):aG (model PR w) (aX w.params) (kM r b t u j n i):=by
 refine eN 0 (fun v v=>rfl) ?_ ?_ ?_ (fun v v v v v v=>rfl) ?_ (fun v v=>rfl) (fun v v=>rfl) (by simpa using hj) (by simp) fun A K bl p s hA hK hd B ha nd lo=> ?_
 ·intro A K A' K' a1 a2
  show Code.builtin _ ⟨[.bytes _ (b.ev K'),.ref (A' j)],[]⟩=Code.builtin _ ⟨[.bytes _ (b.ev K),.ref (A j)],[]⟩;rw[TR.lcc hb a2,a1 j hj]
 ·intro A K A' K' a1 a2
  show[iQ (.int _ (t.ev K')) (.int _ (u.ev K'))]=[iQ (.int _ (t.ev K)) (.int _ (u.ev K))];rw[TR.lcc ht a2,TR.lcc hu a2]
 ·intro A K A' K' a1 a2
  have a2':∀k,k<i->K' k=K k:=fun k h=>a2 k (by lia);show[iQ (.int _ (t.ev K')) (.int _ (u.ev K'))]=[iQ (.int _ (t.ev K)) (.int _ (u.ev K))];rw[TR.lcc ht a2',TR.lcc hu a2']
 ·intro A K A' K' a1 a2
  show Except.ok (Flow.ret (.bytes _ (K' i)))=Except.ok (Flow.ret (.bytes _ (K i)));rw[a2 i (by lia)]
 ·refine cT (fun ad tb=>aD5 w _ ad tb bl p (A j) (b.ev K) (t.ev K) (u.ev K) r hr) aE B ha rfl nd lo hd dT fun ad tb s' Q=> ?_
  refine⟨[],[aC tb 0],rfl,by simp,by simp,?_,Q.ext,⟨?_,trivial⟩,trivial,?_⟩
  ·intro a h;simp at h;subst h;exact bB _ _
  ·rw[TR.lcc (K':=upd K i [aC tb 0]) ht fun k hk=>fN hk,TR.lcc (K':=upd K i [aC tb 0]) hu fun k hk=>fN hk]
   exact Q.at_ 0 0 _ rfl rfl
  ·rw[iG]
end
end
section
variable (w:World)(g₀:Nat)(ad tb:Nat->Nat)(bl:List (Code×Pos))(p:Pos)(t n:Nat)
theorem aD6:
 aZ w g₀ [] ad tb [aV mV (Value.int (Int.ofNat n) t) [AV.int (Int.ofNat n) (TR.l t)] 1 5,aV eV (Value.bool false) [AV.int (Int.ofNat n) (TR.l t)] 1 6] 75 (aQ 0x6001000800808001 [18,4097,7,32776,9,8194,6,0]) (.call (.ref 67) ⟨[.int (Int.ofNat n) t],[]⟩) bl p 400 [] [] (.pure (.done (.ret (.bytes ⟨[]⟩ (aC tb 1))))) [] 1:=by unfold aZ;kernel_rfl
theorem aD7 (q1 r0:Nat):
 aZ w g₀ [] ad tb [aV mV (Value.int (Int.ofNat n) t) [AV.int (Int.ofNat n) (TR.l t)] 1 5,aV eV (Value.bool true) [AV.int (Int.ofNat n) (TR.l t)] 1 6,kL q1 r0 n (TR.l t) (TR.k 6) 1 7,kM r0 (TR.k 3) (TR.k (7+1)) (TR.k 12) 5 6 13,aV eV (Value.bool false) [AV.int (Int.ofNat q1) (TR.k 7)] 6 15] 187 IY (.call (.ref 67) ⟨[.int (Int.ofNat n) t],[]⟩) bl p 400 [] [] (.pure (.done (.ret (.bytes ⟨[UInt8.ofNat (r0+65)]⟩ (aC tb 13))))) [] 6:=by unfold aZ;kernel_rfl
theorem aD8 (q1 r0:Nat)(z:Int):
 aZ w g₀ [] ad tb [aI mV (Int.ofNat n) [AV.int z (TR.l t)] 1 5,aV eV (Value.bool true) [AV.int (Int.ofNat n) (TR.k 5)] 1 7,kL q1 r0 n (TR.k 5) (TR.k 7) 1 8,kM r0 (TR.k 3) (TR.k (8+1)) (TR.k 13) 5 6 14,aV eV (Value.bool false) [AV.int (Int.ofNat q1) (TR.k 8)] 6 16] 187 IY (.call (.ref 67) ⟨[.int z t],[]⟩) bl p 400 [] [] (.pure (.done (.ret (.bytes ⟨[UInt8.ofNat (r0+65)]⟩ (aC tb 14))))) [] 6:=by unfold aZ;kernel_rfl
theorem aD9 (q1 q2 r0 r1:Nat):
 aZ w g₀ [] ad tb [aV mV (Value.int (Int.ofNat n) t) [AV.int (Int.ofNat n) (TR.l t)] 1 5,aV eV (Value.bool true) [AV.int (Int.ofNat n) (TR.l t)] 1 6,kL q1 r0 n (TR.l t) (TR.k 6) 1 7,kM r0 (TR.k 3) (TR.k (7+1)) (TR.k 12) 5 6 13,aV eV (Value.bool true) [AV.int (Int.ofNat q1) (TR.k 7)] 6 15,kL q2 r1 q1 (TR.k 7) (TR.k 15) 6 16,kM r1 (TR.k 3) (TR.k (16+1)) (TR.k 21) 10 11 22,aV eV (Value.bool false) [AV.int (Int.ofNat q2) (TR.k 16)] 11 25] 299 IR (.call (.ref 67) ⟨[.int (Int.ofNat n) t],[]⟩) bl p 400 [] [] (.pure (.done (.ret (.bytes ⟨[UInt8.ofNat (r1+65),UInt8.ofNat (r0+65)]⟩ (aC tb 23))))) [] 11:=by unfold aZ;kernel_rfl
theorem aDa (q1 q2 r0 r1:Nat)(z:Int):
 aZ w g₀ [] ad tb [aI mV (Int.ofNat n) [AV.int z (TR.l t)] 1 5,aV eV (Value.bool true) [AV.int (Int.ofNat n) (TR.k 5)] 1 7,kL q1 r0 n (TR.k 5) (TR.k 7) 1 8,kM r0 (TR.k 3) (TR.k (8+1)) (TR.k 13) 5 6 14,aV eV (Value.bool true) [AV.int (Int.ofNat q1) (TR.k 8)] 6 16,kL q2 r1 q1 (TR.k 8) (TR.k 16) 6 17,kM r1 (TR.k 3) (TR.k (17+1)) (TR.k 22) 10 11 23,aV eV (Value.bool false) [AV.int (Int.ofNat q2) (TR.k 17)] 11 26] 299 IR (.call (.ref 67) ⟨[.int z t],[]⟩) bl p 400 [] [] (.pure (.done (.ret (.bytes ⟨[UInt8.ofNat (r1+65),UInt8.ofNat (r0+65)]⟩ (aC tb 24))))) [] 11:=by unfold aZ;kernel_rfl
theorem aDb (q1 q2 q3 r0 r1 r2:Nat):
 aZ w g₀ [] ad tb [aV mV (Value.int (Int.ofNat n) t) [AV.int (Int.ofNat n) (TR.l t)] 1 5,aV eV (Value.bool true) [AV.int (Int.ofNat n) (TR.l t)] 1 6,kL q1 r0 n (TR.l t) (TR.k 6) 1 7,kM r0 (TR.k 3) (TR.k (7+1)) (TR.k 12) 5 6 13,aV eV (Value.bool true) [AV.int (Int.ofNat q1) (TR.k 7)] 6 15,kL q2 r1 q1 (TR.k 7) (TR.k 15) 6 16,kM r1 (TR.k 3) (TR.k (16+1)) (TR.k 21) 10 11 22,aV eV (Value.bool true) [AV.int (Int.ofNat q2) (TR.k 16)] 11 25,kL q3 r2 q2 (TR.k 16) (TR.k 25) 11 26,kM r2 (TR.k 3) (TR.k (26+1)) (TR.k 31) 15 16 32,aV eV (Value.bool false) [AV.int (Int.ofNat q3) (TR.k 26)] 16 35] 411 hH (.call (.ref 67) ⟨[.int (Int.ofNat n) t],[]⟩) bl p 400 [] [] (.pure (.done (.ret (.bytes ⟨[UInt8.ofNat (r2+65),UInt8.ofNat (r1+65),UInt8.ofNat (r0+65)]⟩ (aC tb 33))))) [] 16:=by unfold aZ;kernel_rfl
theorem aDc (q1 q2 q3 r0 r1 r2:Nat)(z:Int):
 aZ w g₀ [] ad tb [aI mV (Int.ofNat n) [AV.int z (TR.l t)] 1 5,aV eV (Value.bool true) [AV.int (Int.ofNat n) (TR.k 5)] 1 7,kL q1 r0 n (TR.k 5) (TR.k 7) 1 8,kM r0 (TR.k 3) (TR.k (8+1)) (TR.k 13) 5 6 14,aV eV (Value.bool true) [AV.int (Int.ofNat q1) (TR.k 8)] 6 16,kL q2 r1 q1 (TR.k 8) (TR.k 16) 6 17,kM r1 (TR.k 3) (TR.k (17+1)) (TR.k 22) 10 11 23,aV eV (Value.bool true) [AV.int (Int.ofNat q2) (TR.k 17)] 11 26,kL q3 r2 q2 (TR.k 17) (TR.k 26) 11 27,kM r2 (TR.k 3) (TR.k (27+1)) (TR.k 32) 15 16 33,aV eV (Value.bool false) [AV.int (Int.ofNat q3) (TR.k 27)] 16 36] 411 hH (.call (.ref 67) ⟨[.int z t],[]⟩) bl p 400 [] [] (.pure (.done (.ret (.bytes ⟨[UInt8.ofNat (r2+65),UInt8.ofNat (r1+65),UInt8.ofNat (r0+65)]⟩ (aC tb 34))))) [] 16:=by unfold aZ;kernel_rfl
end
section
section
variable{w:World}
theorem zR {x:Int}(h:¬x<0):aG (model PR w) (aX w.params) (aV mV (.int x t) [AV.int x (TR.l t)] n i):=
 jM _ MK F.entry_int_abs rfl fun u u=>AutoIntG1.int___abs___int_1 x t h
theorem EG {x y:Int}{t:TR}(h:x<0)(e: -x=y)(ht:bQ n i [AV.int x t]=true):aG (model PR w) (aX w.params) (aI mV y [AV.int x t] n i):=
 qK _ MK F.entry_int_abs ht fun A K=>by subst e;exact AutoIntG0.int___abs___int_0 x (t.ev K) h
theorem fR {x:Int}{t:TR}(e:(x != 0)=b)(ht:bQ n i [AV.int x t]=true):aG (model PR w) (aX w.params) (aV eV (.bool b) [AV.int x t] n i):=
 jM _ MM F.entry_int_bool ht fun A K=>by subst e;exact gives_int_bool x (t.ev K)
end
noncomputable def zS:List Nat->List UInt8
 | []=>[]
 |d::ds=>UInt8.ofNat (d+65)::zS ds
noncomputable def cY(n:Nat):List Nat:=if n=0 then[] else if n<16 then[n] else if n<256 then[n / 16,n % 16] else[n / 256,n / 16 % 16,n % 16]
noncomputable def EH(z:Int)(ds:List Nat)(t:TR)(n i:Nat):HF:=
 dP (fun u K=> .call (.ref 67) ⟨[.int z (t.ev K)],[]⟩) [] (fun u u=>[]) (fun u u=>[]) (fun u u=>[]) (fun u K=> .ok (.ret (.bytes ⟨zS ds⟩ (K i)))) 1 n i 400
theorem lE (h:n≠0):(Int.ofNat n != 0)=true:=by simp;exact h
theorem EI (h:n≠0): -Int.ofNat n<0:=by
 exact Int.neg_neg_of_pos (Int.ofNat_lt.mpr (Nat.pos_of_ne_zero h))
section
variable{w:World}
theorem OH {z:Int}{ds:List Nat}{t:TR}(hz:z=Int.ofNat x\/z= -Int.ofNat x)(hx:x<4096)(hds:cY x=ds)(ht:t.ok i=true):aG (model PR w) (aX w.params) (EH z ds t n i):=by
 refine eN 0 (fun u u=>rfl) ?_ (fun u u u u u u=>rfl) (fun u u u u u u=>rfl) (fun u u u u u u=>rfl) ?_ (fun u u=>rfl) (fun u u=>rfl) (by simp) (by simp) fun A K bl p s hA hK hd B ha nd lo=> ?_
 ·intro A K A' K' a1 a2
  show Code.call _ ⟨[.int _ (t.ev K')],[]⟩=Code.call _ ⟨[.int _ (t.ev K)],[]⟩;rw[TR.lcc ht a2]
 ·intro A K A' K' a1 a2
  show Except.ok (Flow.ret (.bytes _ (K' i)))=Except.ok (Flow.ret (.bytes _ (K i)));rw[a2 i (Nat.lt_succ_self i)]
 ·have fin:∀{t' nn:Nat} {ad:Nat->Nat} {s':Shared} {r:Result},1335<=t'->r= .ok (.ret (.bytes ⟨zS ds⟩ t'))->dX [] ad s s' [] [] nn->
    ∃la lk:List Nat,la.length=0/\la.Nodup/\(∀a∈la,s.heap.objs.size<=a)/\(∀t∈lk,1335<=t)/\aJ [] s s'/\At s' [] []/\At s' la []/\r=Except.ok (Flow.ret (.bytes ⟨zS ds⟩ (upd K i lk i))):=by
   intro t' nn ad s' r h1 h2 Q;exact⟨[],[t'],rfl,List.nodup_nil,aE,aD h1,Q.ext,trivial,trivial,by rw[iG];exact h2⟩
  have pos:z=Int.ofNat x\/(z= -Int.ofNat x/\x≠0):=by
   rcases hz with h |h
   ·exact .inl h
   ·by_cases q:x=0
    ·subst q;exact .inl h
    ·exact .inr ⟨h,q⟩
  have nn:¬Int.ofNat x<0:=Int.not_lt.mpr (Int.natCast_nonneg x);unfold cY at hds
  by_cases h0:x=0
  ·rw[if_pos h0] at hds
   subst hds;subst h0;have hz:z=Int.ofNat 0:=pos.elim id fun h=>absurd rfl h.2;subst hz;exact cT (fun ad tb=>aD6 w _ ad tb bl p (t.ev K) 0) (aB (zR nn) (aD (fR rfl rfl))) B trivial rfl List.nodup_nil aE hd dT fun ad tb s' Q=>fin (bB tb _) rfl Q
  ·rw[if_neg h0] at hds
   by_cases h1:x<16
   ·rw[if_pos h1] at hds
    subst hds;rcases pos with h |⟨h,_⟩
    ·subst h
     exact cT (fun ad tb=>aD7 w _ ad tb bl p (t.ev K) x 0 x) (aB (zR nn) (aB (fR (lE h0) rfl) (aB (lC (Nat.zero_add x).symm h1 rfl rfl) (aB (lD h1 rfl rfl rfl dT) (aD (fR rfl rfl)))))) B trivial rfl List.nodup_nil aE hd dT
      fun ad tb s' Q=>fin (bB tb _) rfl Q
    ·subst h
     exact cT (fun ad tb=>aD8 w _ ad tb bl p (t.ev K) x 0 x (-Int.ofNat x)) (aB (EG (EI h0) (Int.neg_neg _) rfl) (aB (fR (lE h0) rfl) (aB (lC (Nat.zero_add x).symm h1 rfl rfl) (aB (lD h1 rfl rfl rfl dT) (aD (fR rfl rfl)))))) B trivial rfl List.nodup_nil aE hd dT
      fun ad tb s' Q=>fin (bB tb _) rfl Q
   ·rw[if_neg h1] at hds
    have r0:x % 16<16:=Nat.mod_lt _ dT;have dm:=(Nat.div_add_mod x 16).symm;have q1:x / 16≠0:=Nat.ne_of_gt (Nat.div_pos (Nat.le_of_not_lt h1) dT)
    by_cases h2:x<256
    ·rw[if_pos h2] at hds
     subst hds;have r1:x / 16<16:=Nat.div_lt_of_lt_mul h2;rcases pos with h |⟨h,_⟩
     ·subst h
      exact cT (fun ad tb=>aD9 w _ ad tb bl p (t.ev K) x (x / 16) 0 (x % 16) (x / 16)) (aB (zR nn) (aB (fR (lE h0) rfl) (aB (lC dm r0 rfl rfl) (aB (lD r0 rfl rfl rfl dT)
       (aB (fR (lE q1) rfl) (aB (lC (Nat.zero_add _).symm r1 rfl rfl) (aB (lD r1 rfl rfl rfl dT) (aD (fR rfl rfl))))))))) B trivial rfl List.nodup_nil aE hd dT
       fun ad tb s' Q=>fin (bB tb _) rfl Q
     ·subst h
      exact cT (fun ad tb=>aDa w _ ad tb bl p (t.ev K) x (x / 16) 0 (x % 16) (x / 16) (-Int.ofNat x)) (aB (EG (EI h0) (Int.neg_neg _) rfl) (aB (fR (lE h0) rfl) (aB (lC dm r0 rfl rfl) (aB (lD r0 rfl rfl rfl dT)
       (aB (fR (lE q1) rfl) (aB (lC (Nat.zero_add _).symm r1 rfl rfl) (aB (lD r1 rfl rfl rfl dT) (aD (fR rfl rfl))))))))) B trivial rfl List.nodup_nil aE hd dT
       fun ad tb s' Q=>fin (bB tb _) rfl Q
    ·rw[if_neg h2] at hds
     subst hds;have r1:x / 16 % 16<16:=Nat.mod_lt _ dT;have d2:x / 16 / 16=x / 256:=Nat.div_div_eq_div_mul x 16 16;have dm2:x / 16=16*(x / 256)+x / 16 % 16:=d2▸(Nat.div_add_mod (x / 16) 16).symm;have r2:x / 256<16:=Nat.div_lt_of_lt_mul hx;have q2:x / 256≠0:=Nat.ne_of_gt (Nat.div_pos (Nat.le_of_not_lt h2) dT);rcases pos with h |⟨h,_⟩
     ·subst h
      exact cT (fun ad tb=>aDb w _ ad tb bl p (t.ev K) x (x / 16) (x / 256) 0 (x % 16) (x / 16 % 16) (x / 256)) (aB (zR nn) (aB (fR (lE h0) rfl) (aB (lC dm r0 rfl rfl) (aB (lD r0 rfl rfl rfl dT)
       (aB (fR (lE q1) rfl) (aB (lC dm2 r1 rfl rfl) (aB (lD r1 rfl rfl rfl dT) (aB (fR (lE q2) rfl) (aB (lC (Nat.zero_add _).symm r2 rfl rfl) (aB (lD r2 rfl rfl rfl dT) (aD (fR rfl rfl)))))))))))) B trivial rfl List.nodup_nil aE hd dT
       fun ad tb s' Q=>fin (bB tb _) rfl Q
     ·subst h
      exact cT (fun ad tb=>aDc w _ ad tb bl p (t.ev K) x (x / 16) (x / 256) 0 (x % 16) (x / 16 % 16) (x / 256) (-Int.ofNat x)) (aB (EG (EI h0) (Int.neg_neg _) rfl) (aB (fR (lE h0) rfl) (aB (lC dm r0 rfl rfl) (aB (lD r0 rfl rfl rfl dT)
       (aB (fR (lE q1) rfl) (aB (lC dm2 r1 rfl rfl) (aB (lD r1 rfl rfl rfl dT) (aB (fR (lE q2) rfl) (aB (lC (Nat.zero_add _).symm r2 rfl rfl) (aB (lD r2 rfl rfl rfl dT) (aD (fR rfl rfl)))))))))))) B trivial rfl List.nodup_nil aE hd dT
       fun ad tb s' Q=>fin (bB tb _) rfl Q
end
end
noncomputable def OI:List Nat:=[115,116,114,46,95,95,105,116,101,114,95,95]
noncomputable def OJ:String:=sE OI rfl
theorem aDd:"str.__iter__"=OJ:=cA OI rfl
theorem EJ {kt:KT}{B:Builtin}(entry:entryFor table id=some B)(args:(Nat->Nat)->(Nat->Nat)->List Value)(pre:(Nat->Nat)->(Nat->Nat)->List (Nat×Obj))(o:(Nat->Nat)->(Nat->Nat)->Obj)(n i:Nat)(hl:cH args n i)(hp:cH pre n i)(ho:cH o n i)(hf:∀A K,(o A K).isFreed=false)(hg:∀A K,Meets (B ⟨args A K,[]⟩) (fun u R s=>(∀x∈pre A K,s.heap.get? (A x.1)=some x.2)/\R (.ok (.ret (.ref s.heap.objs.size))) {s with heap:=s.heap.push (o A K)})):
  aG (model prog w) kt (fun A K=>⟨.builtin id ⟨args A K,[]⟩,pre A K,[],[o A K],.ok (.ret (.ref (A n))),0,n,i,900,none⟩) where
 loc A K A' K' h1 h2:=by
  show HS.mk _ _ _ _ _ _ _ _ _ _=HS.mk _ _ _ _ _ _ _ _ _ _;have h1':∀j,j<n->A' j=A j:=fun j hj=>h1 j (Nat.lt_add_right _ hj);rw[hl A K A' K' h1' (fun j hj=>h2 j hj),hp A K A' K' h1' (fun j hj=>h2 j hj),ho A K A' K' h1' (fun j hj=>h2 j hj),h1 n (Nat.lt_succ_self _)]
 ok A K Γ p s R hA hK hc hd h1 h2 h3 ht hs hk hp' hi hl' _ _ hR:=by
  refine lA (hg A K) (by rw[hc];exact eM entry _) ⟨hp',?_⟩;have eA:∀j,j<n->(fun j=>if j=n then s.heap.objs.size else A j) j=A j:=fun j hj=>if_neg (Nat.ne_of_lt hj);have eo:=ho A K (fun j=>if j=n then s.heap.objs.size else A j) K eA fun u u=>rfl
  have z:=hR (fun j=>if j=n then s.heap.objs.size else A j) K {s with heap:=s.heap.push (o A K)} eA (fun u u=>rfl) (fun j=>by
   show 817<=(if j=n then s.heap.objs.size else A j);split
   ·exact hs
   ·exact hA j) hK ?_
  ·have q:(if n=n then s.heap.objs.size else A n)=s.heap.objs.size:=if_pos rfl
   simp only[q] at z;exact z
  ·refine⟨fun b x hb u=>Heap.get?_push_of_some _ hb,fun u hx=>(nomatch hx),fun j x hj=> ?_,fun j j' hj hj' u=> ?_,?_,Nat.le_refl _,rfl,rfl,rfl⟩
   ·have hj:[o (fun j=>if j=n then s.heap.objs.size else A j) K][j]? =some x:=hj
    rw[eo] at hj
    match j,hj with
    |0,hj=>
     injection hj with hj
     subst hj;have q:(if n+0=n then s.heap.objs.size else A (n+0))=s.heap.objs.size:=if_pos rfl;exact⟨by show (s.heap.push _).get? (if n+0=n then s.heap.objs.size else A (n+0))=_;rw[q];exact Heap.get?_push_size _ (hf A K),by show _<=(if n+0=n then s.heap.objs.size else A (n+0));rw[q];exact Nat.le_refl _⟩
    |_+1,hj=>cases hj
   ·have hj:j<1:=hj
    have hj':j'<1:=hj'
    lia
   ·show s.heap.objs.size<=(s.heap.push _).objs.size
    rw[Heap.size_push];lia
noncomputable def wF(x:Str)(t i:Nat):Obj:=⟨.type SL.s13500813778147066322x18,none,.fields ⟨[.str x t,.int (Int.ofNat i) 0]⟩,⟨[]⟩⟩
noncomputable def EK(x:Str)(t:TR)(n i:Nat):HF:=fun A K=>⟨.builtin OJ ⟨[.str x (t.ev K)],[]⟩,[],[],[wF x (t.ev K) 0],.ok (.ret (.ref (A n))),0,n,i,900,none⟩
theorem OK {kt:KT}{x:Str}{t:TR}(h:x.cps.all (·<128)=true)(ht:t.ok i=true):aG (model prog w) kt (EK x t n i):=by
 refine EJ (B:=Builtin.«str.__iter__») (by rw[<-aDd];exact entryFor_of_fast (by kernel_rfl)) (fun A K=>[.str x (t.ev K)]) (fun u u=>[]) (fun A K=>wF x (t.ev K) 0) n i ?_ (fun u u u u u u=>rfl) ?_ (fun u u=>rfl) fun A K prog w A' R s q=> ?_
 ·intro A K A' K' a1 a2
  show[Value.str x (t.ev K')]=[Value.str x (t.ev K)];rw[TR.lcc ht a2]
 ·intro A K A' K' a1 a2
  show wF x (t.ev K') 0=wF x (t.ev K) 0;rw[TR.lcc ht a2]
 ·have e:Builtin.«str.__iter__» ⟨[.str x (t.ev K)],[]⟩=(do ret (<-newFields "str_ascii_iterator" [.str x (t.ev K),rawInt 0])):=by
   show (do ret (<-newFields (if true && x.cps.all (·<128) then "str_ascii_iterator" else "str_iterator") [.str x (t.ev K),rawInt 0]))=_;rw[h];rfl
  rw[e];unfold newFields;refine wpAny_bind (wpAny_newObj_type (wpAny_pure ?_) (by size_fits));have z:=q.2;unfold wF at z;rw[<-SL.e13500813778147066322x18] at z;exact z
noncomputable def fQ(f:String->Bool)(b:Bool):String->Bool:=fun r=>match PySem.W.S.eqLit JD r with
 |true=>b
 |false=>f r
theorem EL(f:String->Bool):fQ f (f "comprehension-iter-twice")=f:=by
 funext r
 unfold fQ;have h:=congrFun (PySem.W.S.eqLit_eq "comprehension-iter-twice" JD (by decide+kernel)) r;rw[<-h];cases hb:(r == "comprehension-iter-twice") with
 |false=>rfl
 |true=>rw[eq_of_beq hb]
noncomputable def fS(f:String->Bool)(b:Bool):String->Bool:=fun r=>match PySem.W.S.eqLit xW r with
 |true=>b
 |false=>f r
noncomputable def OL(w:World)(b:Bool)(g₀:Nat)(olds:List Nat)(ad tb:Nat->Nat)(hs:List HF)(f h:Nat)(c:Code)(bl:List (Code×Pos))(p:Pos)(d:Nat)(objs:List Obj):St:=
 run ⟨PR,{w.params with followText:=fQ w.params.followText b}⟩ ⟨PR,{w.params with followText:=fS (fQ w.params.followText b) true}⟩ ⟨PR,{w.params with followText:=fS (fQ w.params.followText b) false}⟩ (aX w.params) g₀ (bG olds ad) (aC tb) f h hs ⟨c,none,none,bl,none⟩ p
  [bZ ⟨c,none,none,bl,none⟩ p d] d (kY c) (T0 objs) olds.length 0 [] [] [] []
noncomputable def EM(w:World)(b:Bool)(g₀:Nat)(olds:List Nat)(ad tb:Nat->Nat)(hs:List HF)(f h:Nat)(c:Code)(t:Sem Fin)(bl:List (Code×Pos))(p:Pos)(d:Nat)(objs:List Obj):St:=
 run ⟨PR,{w.params with followText:=fQ w.params.followText b}⟩ ⟨PR,{w.params with followText:=fS (fQ w.params.followText b) true}⟩ ⟨PR,{w.params with followText:=fS (fQ w.params.followText b) false}⟩ (aX w.params) g₀ (bG olds ad) (aC tb) f h hs ⟨c,none,none,bl,none⟩ p
  [bZ ⟨c,none,none,bl,none⟩ p d] d t (T0 objs) olds.length 0 [] [] [] []
theorem tH (h:w.params.followText "comprehension-iter-twice"=b):cN w=OL w b:=by
 funext g₀ olds ad tb hs f hh c bl p d objs
 unfold OL;rw[<-h,EL];rfl
theorem nB (h:w.params.followText "comprehension-iter-twice"=b):aY w=EM w b:=by
 funext g₀ olds ad tb hs f hh c t bl p d objs
 unfold EM;rw[<-h,EL];rfl
section
theorem zT (h:n<=1000000):((n:Nat):Int)<2 ^ 63:=by omega
theorem iZ(vs:List Value)(ep:Nat):aA vs ep={cls:= .type "list",dict:=none,data:= .seq ⟨vs⟩ ep,slots:= #[]}:=by
 unfold aA;rw[<-SL.e9222952809800978799x4]
section
variable (l:Addr)(items:Array Value)(o:Obj)(ep:Nat)(z:Int)(t:Tok)
theorem OM (x:Value)(hd:o.data= .seq items ep)(h0:0<=z)(hfit:z<2 ^ 63)(hx:items[z.toNat]? =some x):
  Meets (Builtin.«list.__getitem__» ⟨[.ref l,.int z t],[]⟩) (fun u R s=>s.heap.get? l=some o/\R (.ok (.ret x)) s):=fun prog w A R s h=>by
 obtain⟨ho,h⟩:=h;show wpAny _ _ (Builtin.List.listSubscript? (.int z t)>>= _) _ _ s;refine wpAny_bind (wpAny_listSubscript_int (fitsIndex_of h0 hfit) ?_);clear hfit;obtain⟨j,rfl⟩:=Int.eq_ofNat_of_zero_le h0;have hx':items[j]? =some x:=hx;show wpAny _ _ ((seqItemAt l j>>= fun r=>pure (r.map (j,·)))>>= _) _ _ s;refine wpAny_bind (wpAny_bind (wpAny_seqItemAt ho hd (wpAny_pure ?_)));rw[hx']
 first
  |exact wpAny_bind (wpAny_pure (wpAny_pure h))
  |exact wpAny_pure h
theorem aDe (v:Value)(hd:o.data= .seq items ep)(h0:0<=z)(hfit:z<2 ^ 63)(hn:z<items.size):
  Meets (Builtin.«list.__setitem__» ⟨[.ref l,.int z t,v],[]⟩) (fun u R s=>s.heap.get? l=some o/\R (.ok (.ret .none)) {s with heap:=s.heap.update l (Obj.mapSeq (·.setIfInBounds z.toNat v))}):=fun prog w A R s h=>by
 obtain⟨ho,h⟩:=h;show wpAny _ _ (Builtin.List.listSubscript? (.int z t)>>= _) _ _ s;refine wpAny_bind (wpAny_listSubscript_int (fitsIndex_of h0 hfit) ?_);clear hfit;obtain⟨j,rfl⟩:=Int.eq_ofNat_of_zero_le h0;have hj:j<items.size:=by lia
 have hx':items[j]? =some items[j]:=Array.getElem?_eq_getElem hj;show wpAny _ _ ((seqItemAt l j>>= fun r=>pure (r.map (j,·)))>>= _) _ _ s;refine wpAny_bind (wpAny_bind (wpAny_seqItemAt ho hd (wpAny_pure ?_)));rw[hx'];show wpAny _ _ (setSeqItemAt l j v>>= _) _ _ s;refine wpAny_bind (wpAny_setSeqItemAt ho hd ?_)
 first
  |exact wpAny_bind (wpAny_pure (wpAny_pure h))
  |exact wpAny_pure h
end
theorem EN {x:Value}(h:vs[k]? =some x):(⟨vs⟩:Array Value)[k]? =some x:=by simpa using h
theorem aDf(vs:List Value)(ep k:Nat)(v:Value):Obj.mapSeq (·.setIfInBounds k v) (aA vs ep)=aA (vs.set k v) ep:=by
 unfold aA;show Obj.mk _ none (.seq ((⟨vs⟩:Array Value).setIfInBounds k v) (if((⟨vs⟩:Array Value).setIfInBounds k v).size == (⟨vs⟩:Array Value).size then ep else ep+1)) _=_;rw[Array.size_setIfInBounds,if_pos (by simp)];congr 2;simp
theorem ON {t:Sem Fin}{P P':Shared->Prop}{f:Shared->Shared}(h:Meets t (fun u R s=>P s/\R r (f s)))(hp:∀s,P' s->P s):Meets t (fun u R s=>P' s/\R r (f s)):=
 fun prog w A R s q=>h prog w A R s ⟨hp s q.1,q.2⟩
section
variable{prog:Program}{w:World}{kt:KT}
section
variable {B:Builtin}(entry:entryFor table id=some B)(args:(Nat->Nat)->(Nat->Nat)->List Value)(pre:(Nat->Nat)->(Nat->Nat)->List (Nat×Obj))
include entry
theorem zU (v:(Nat->Nat)->(Nat->Nat)->Value)(n i:Nat)(hl:cH args n i)(hp:cH pre n i)(hv:cH v n i)(hg:∀A K,Meets (B ⟨args A K,[]⟩) (fun u R s=>(∀x∈pre A K,s.heap.get? (A x.1)=some x.2)/\R (.ok (.ret (v A K))) s)):
  aG (model prog w) kt (fun A K=>⟨.builtin id ⟨args A K,[]⟩,pre A K,[],[],.ok (.ret (v A K)),0,n,i,900,none⟩) where
 loc A K A' K' h1 h2:=by
  show HS.mk _ _ _ _ _ _ _ _ _ _=HS.mk _ _ _ _ _ _ _ _ _ _;rw[hl A K A' K' (fun j hj=>h1 j hj) (fun j hj=>h2 j hj),hp A K A' K' (fun j hj=>h1 j hj) (fun j hj=>h2 j hj),hv A K A' K' (fun j hj=>h1 j hj) (fun j hj=>h2 j hj)]
 ok A K Γ p s R hA hK hc hd h1 h2 h3 ht hs hk hp' hi hl' _ _ hR:=by
  refine lA (hg A K) (by rw[hc];exact eM entry _) ⟨hp',?_⟩;exact hR A K s (fun u u=>rfl) (fun u u=>rfl) hA hK (mT (Nat.le_refl _))
theorem OO (x:Str)(n i:Nat)(hl:cH args n i)(hp:cH pre n i)(hg:∀A K:Nat->Nat,(∀j,1335<=K j)->∃u,1335<=u/\Meets (B ⟨args A K,[]⟩) (fun v R s=>(∀x∈pre A K,s.heap.get? (A x.1)=some x.2)/\R (.ok (.ret (.str x u))) s)):
  aG (model prog w) kt (fun A K=>⟨.builtin id ⟨args A K,[]⟩,pre A K,[],[],.ok (.ret (.str x (K i))),1,n,i,900,none⟩) where
 loc A K A' K' h1 h2:=by
  show HS.mk _ _ _ _ _ _ _ _ _ _=HS.mk _ _ _ _ _ _ _ _ _ _;rw[hl A K A' K' (fun j hj=>h1 j hj) (fun j hj=>h2 j (Nat.lt_succ_of_lt hj)),hp A K A' K' (fun j hj=>h1 j hj) (fun j hj=>h2 j (Nat.lt_succ_of_lt hj)),h2 i (Nat.lt_succ_self _)]
 ok A K Γ p s R hA hK hc hd h1 h2 h3 ht hs hk hp' hi hl' _ _ hR:=by
  obtain⟨u,hu,g⟩:=hg A K hK;refine lA g (by rw[hc];exact eM entry _) ⟨hp',?_⟩
  have z:=hR A (fun j=>if j=i then u else K j) s (fun v v=>rfl) (fun j hj=>if_neg (Nat.ne_of_lt hj)) hA (fun j=>by
   show 1335<=(if j=i then u else K j);split
   ·exact hu
   ·exact hK j) (mT (Nat.le_refl _))
  have q:(if i=i then u else K i)=u:=if_pos rfl;simp only[q] at z;exact z
end
theorem OP {B:Builtin}(entry:entryFor table id=some B)(args:(Nat->Nat)->(Nat->Nat)->List Value)(j:Nat)(o o':(Nat->Nat)->(Nat->Nat)->Obj)(f:(Nat->Nat)->(Nat->Nat)->Obj->Obj)(v:Value)(n i:Nat)(hj:j<n)(hl:cH args n i)(ho:cH o n i)(ho':cH o' n i)(hf:∀A K,f A K (o A K)=o' A K)(hfr:∀A K,(o' A K).isFreed=false)(hg:∀A K,Meets (B ⟨args A K,[]⟩) (fun u R s=>s.heap.get? (A j)=some (o A K)/\R (.ok (.ret v)) {s with heap:=s.heap.update (A j) (f A K)})):
  aG (model prog w) kt (fun A K=>⟨.builtin id ⟨args A K,[]⟩,[(j,o A K)],[(j,o' A K)],[],.ok (.ret v),0,n,i,900,none⟩) where
 loc A K A' K' h1 h2:=by
  show HS.mk _ _ _ _ _ _ _ _ _ _=HS.mk _ _ _ _ _ _ _ _ _ _;rw[hl A K A' K' (fun j hj=>h1 j hj) (fun j hj=>h2 j hj),ho A K A' K' (fun j hj=>h1 j hj) (fun j hj=>h2 j hj),ho' A K A' K' (fun j hj=>h1 j hj) (fun j hj=>h2 j hj)]
 ok A K Γ p s R hA hK hc hd h1 h2 h3 ht hs hk hp' hi hl' _ _ hR:=by
  have hx:s.heap.get? (A j)=some (o A K):=hp' _ (.head _);refine lA (hg A K) (by rw[hc];exact eM entry _) ⟨hx,?_⟩;refine hR A K _ (fun u u=>rfl) (fun u u=>rfl) hA hK ⟨fun b y e hb=> ?_,fun x hx'=> ?_,fun u u e=>(nomatch e),fun u u hj=>(nomatch hj),?_,Nat.le_refl _,rfl,rfl,rfl⟩
  ·have:b≠A j:=hb (j,o' A K) (.head _)
   show (s.heap.update _ _).get? b=some y;rw[Heap.get?_update_other _ _ (Ne.symm this)];exact e
  ·have:x=(j,o' A K):=by simpa using hx'
   subst this;have:=Heap.get?_update_self (f A K) hx (by rw[hf];exact hfr A K);rw[hf] at this;exact this
  ·show s.heap.objs.size<=(s.heap.update _ _).objs.size
   rw[Heap.size_after_update];exact Nat.le_refl _
noncomputable def lX(x:Value)(j:Nat)(z:Int)(vs:List Value)(ep:Nat)(t:TR)(n i:Nat):HF:=fun A K=>⟨.builtin zC ⟨[.ref (A j),.int z (t.ev K)],[]⟩,[(j,aA vs ep)],[],[],.ok (.ret x),0,n,i,900,none⟩
theorem nD {x:Value}{z:Int}{t:TR}(h0:0<=z)(hfit:z<2 ^ 63)(hx:vs[z.toNat]? =some x)(hj:j<n)(ht:t.ok i=true):aG (model prog w) kt (lX x j z vs ep t n i):=by
 refine zU (B:=Builtin.«list.__getitem__») (by rw[<-DW];exact F.entry_list_getitem) (fun A K=>[.ref (A j),.int z (t.ev K)]) (fun u u=>[(j,aA vs ep)]) (fun u u=>x) n i ?_ (fun u u u u u u=>rfl) (fun u u u u u u=>rfl) fun A K=> ?_
 ·intro A K A' K' a1 a2
  show[Value.ref (A' j),.int _ (t.ev K')]=[Value.ref (A j),.int _ (t.ev K)];rw[TR.lcc ht a2,a1 j hj]
 ·exact ON (f:=id) (OM (A j) ⟨vs⟩ (aA vs ep) ep z (t.ev K) x rfl h0 hfit (EN hx)) fun s h=>h (j,aA vs ep) (.head _)
noncomputable def kN(K:Nat->Nat):List (Str×Nat)->List Value
 | []=>[]
 | (x,t)::l=> .str x (K t)::kN K l
theorem OQ{K:Nat->Nat}:∀{l:List (Str×Nat)} {k:Nat} {x:Str},(l.map (·.1))[k]? =some x->∃u,(kN K l)[k]? =some (.str x (K u))
 | [],k,x,h=>by simp at h
 | (y,t)::l,0,x,h=>by
  simp at h;subst h;exact⟨t,rfl⟩
 | (y,t)::l,k+1,x,h=>by
  obtain⟨u,e⟩:=OQ (K:=K) (l:=l) (k:=k) (x:=x) (by simpa using h);exact⟨u,by simpa[kN] using e⟩
theorem OR{K K':Nat->Nat}{i:Nat}:∀{l:List (Str×Nat)},(∀p∈l,p.2<i)->(∀j,j<i->K' j=K j)->kN K' l=kN K l
 | [],_,_=>rfl
 | (x,t)::l,h,hk=>by
  unfold kN;rw[hk t (h _ (.head _)),OR (fun p hp=>h p (.tail _ hp)) hk]
noncomputable def OS(x:Str)(j:Nat)(z:Int)(l:List (Str×Nat))(ep:Nat)(t:TR)(n i:Nat):HF:=fun A K=>⟨.builtin zC ⟨[.ref (A j),.int z (t.ev K)],[]⟩,[(j,aA (kN K l) ep)],[],[],.ok (.ret (.str x (K i))),1,n,i,900,none⟩
theorem aDg {x:Str}{z:Int}{l:List (Str×Nat)}{t:TR}(h0:0<=z)(hfit:z<2 ^ 63)(hx:(l.map (·.1))[z.toNat]? =some x)(hj:j<n)(ht:t.ok i=true)(hl:∀p∈l,p.2<i):aG (model prog w) kt (OS x j z l ep t n i):=by
 refine OO (B:=Builtin.«list.__getitem__») (by rw[<-DW];exact F.entry_list_getitem) (fun A K=>[.ref (A j),.int z (t.ev K)]) (fun v K=>[(j,aA (kN K l) ep)]) x n i ?_ ?_ fun A K hK=> ?_
 ·intro A K A' K' a1 a2
  show[Value.ref (A' j),.int _ (t.ev K')]=[Value.ref (A j),.int _ (t.ev K)];rw[TR.lcc ht a2,a1 j hj]
 ·intro A K A' K' a1 a2
  show[(j,aA (kN K' l) ep)]=[(j,aA (kN K l) ep)];rw[OR hl a2]
 ·obtain⟨u,e⟩:=OQ (K:=K) hx
  exact⟨K u,hK u,ON (f:=id) (OM (A j) ⟨kN K l⟩ (aA (kN K l) ep) ep z (t.ev K) _ rfl h0 hfit (EN e)) fun s h=>h (j,aA (kN K l) ep) (.head _)⟩
noncomputable def OT(j:Nat)(z:Int)(vs:List Value)(ep:Nat)(t:TR)(y:AV)(n i:Nat):HF:=fun A K=>⟨.builtin MQ ⟨[.ref (A j),.int z (t.ev K),y.ev A K],[]⟩,[(j,aA vs ep)],[(j,aA (vs.set z.toNat (y.ev A K)) ep)],[],.ok (.ret .none),0,n,i,900,none⟩
theorem aDh {z:Int}{t:TR}{y:AV}(h0:0<=z)(hfit:z<2 ^ 63)(hn:z<vs.length)(hj:j<n)(ht:t.ok i=true)(hy:y.ok n i=true):aG (model prog w) kt (OT j z vs ep t y n i):=by
 refine OP (B:=Builtin.«list.__setitem__») (by rw[<-aB4];exact F.entry_list_setitem) (fun A K=>[.ref (A j),.int z (t.ev K),y.ev A K]) j (fun u u=>aA vs ep) (fun A K=>aA (vs.set z.toNat (y.ev A K)) ep)
  (fun A K=>Obj.mapSeq (·.setIfInBounds z.toNat (y.ev A K))) .none n i hj ?_ (fun u u u u u u=>rfl) ?_ (fun A K=>aDf _ _ _ _) (fun u u=>rfl) fun A K=>aDe (A j) ⟨vs⟩ (aA vs ep) ep z (t.ev K) (y.ev A K) rfl h0 hfit hn
 ·intro A K A' K' a1 a2
  show[Value.ref (A' j),.int _ (t.ev K'),y.ev A' K']=[Value.ref (A j),.int _ (t.ev K),y.ev A K];rw[TR.lcc ht a2,a1 j hj,AV.lcc hy a1 a2]
 ·intro A K A' K' a1 a2
  show aA (vs.set z.toNat (y.ev A' K')) ep=aA (vs.set z.toNat (y.ev A K)) ep;rw[AV.lcc hy a1 a2]
noncomputable def qN(j:Nat)(vs:List Value)(ep:Nat)(y:AV)(n i:Nat):HF:=fun A K=>⟨.builtin MS ⟨[.ref (A j),y.ev A K],[]⟩,[(j,aA vs ep)],[(j,aA (vs++[y.ev A K]) (ep+1))],[],.ok (.ret .none),0,n,i,900,none⟩
theorem tJ {y:AV}(hn:vs.length<=sizeLine)(hj:j<n)(hy:y.ok n i=true):aG (model prog w) kt (qN j vs ep y n i):=by
 refine OP (B:=Builtin.«list.append») (by rw[<-aB5];exact F.entry_list_append) (fun A K=>[.ref (A j),y.ev A K]) j (fun u u=>aA vs ep) (fun A K=>aA (vs++[y.ev A K]) (ep+1))
  (fun A K=>Obj.mapSeq (·.push (y.ev A K))) .none n i hj ?_ (fun u u u u u u=>rfl) ?_ (fun A K=>zJ _ _ _) (fun u u=>rfl) fun A K prog w A' R s h=> ?_
 ·intro A K A' K' a1 a2
  show[Value.ref (A' j),y.ev A' K']=[Value.ref (A j),y.ev A K];rw[a1 j hj,AV.lcc hy a1 a2]
 ·intro A K A' K' a1 a2
  show aA (vs++[y.ev A' K']) (ep+1)=aA (vs++[y.ev A K]) (ep+1);rw[AV.lcc hy a1 a2]
 ·refine list_append (A j) ⟨vs⟩ ep (y.ev A K) hn prog w A' R s ⟨?_,h.2⟩
  rw[<-iZ];exact h.1
end
end
section
noncomputable def dC(w:World)(g₀:Nat)(G₀:List GenState)(ch₀:Ch)(olds:List Nat)(ad tb:Nat->Nat)(hs:List HF)(f h:Nat)(c:Code)(t:Sem Fin)(bl:List (Code×Pos))(p:Pos)(d:Nat)(objs:List Obj):St:=
 run ⟨PR,w.params⟩ (eK PR w true) (eK PR w false) (aX w.params) g₀ (bG olds ad) (aC tb) f h hs ⟨c,none,none,bl,none⟩ p
  [bZ ⟨c,none,none,bl,none⟩ p d] d t (T0 objs) olds.length 0 ch₀ G₀ [] []
noncomputable def EO(w:World)(b:Bool)(g₀:Nat)(G₀:List GenState)(ch₀:Ch)(olds:List Nat)(ad tb:Nat->Nat)(hs:List HF)(f h:Nat)(c:Code)(t:Sem Fin)(bl:List (Code×Pos))(p:Pos)(d:Nat)(objs:List Obj):St:=
 run ⟨PR,{w.params with followText:=fQ w.params.followText b}⟩ ⟨PR,{w.params with followText:=fS (fQ w.params.followText b) true}⟩ ⟨PR,{w.params with followText:=fS (fQ w.params.followText b) false}⟩ (aX w.params) g₀ (bG olds ad) (aC tb) f h hs ⟨c,none,none,bl,none⟩ p
  [bZ ⟨c,none,none,bl,none⟩ p d] d t (T0 objs) olds.length 0 ch₀ G₀ [] []
theorem tK (h:w.params.followText "comprehension-iter-twice"=b):dC w=EO w b:=by
 funext g₀ G₀ ch₀ olds ad tb hs f hh c t bl p d objs
 unfold EO;rw[<-h,EL];rfl
structure OU where
 L:List bP
 κ:List Fr
 Γ:PySem.Ctx
 t:Sem Fin
 os:List (Option Obj)
 n:Nat
 ch:Ch
noncomputable def tL(o:St)(js:List Nat):OU:=⟨o.L,o.κ,o.Γ,o.t,oU o.T js,o.n,o.ch⟩
noncomputable def tM(o:St)(κ:List Fr)(Γ:PySem.Ctx)(t:Sem Fin)(os:List (Option Obj))(n:Nat)(ch:Ch):OU:=⟨o.R,κ,Γ,t,os,n,ch⟩
structure wG(olds:List Nat)(gs₀:Array GenState)(ad:Nat->Nat)(s s':Shared)(js:List Nat)(ob:List (Option Obj))(nn:Nat)(ch:Ch)(G:List GenState):Prop where
 frame:∀(b:Nat) x,s.heap.get? b=some x->b∉olds->chLook ch b=none->s'.heap.get? b=some x
 size:s.heap.objs.size<=s'.heap.objs.size
 toks:s.toks<=s'.toks
 drawn:s'.drawn=s.drawn
 os:s'.os=s.os
 gens:s'.gens=gs₀++G.toArray
 at_:∀(m j:Nat) (o:Obj),js[m]? =some j->ob[m]? =some (some o)->s'.heap.get? (bG olds ad j)=some o
 new:∀j,olds.length<=j->j<nn->s.heap.objs.size<=bG olds ad j/\bG olds ad j<s'.heap.objs.size
 inj:∀j j',j<nn->j'<nn->bG olds ad j=bG olds ad j'->j=j'
 tabs:∀(a:Nat) vs,chLook ch a=some vs->a∈fG/\s'.heap.get? a=some (tableObj vs)/\∃c ps more,s.heap.TableAt c a ps/\vs=ps++more
section
variable{w:World}{s:Shared}{bl:List (Code×Pos)}{p:Pos}{c:Code}{t:Sem Fin}{R:Result->Shared->Prop}
theorem zV {ch₀:Ch}{hs:List HF}{κ:List Fr}{tx:(Nat->Nat)->(Nat->Nat)->Sem Fin}{os:(Nat->Nat)->(Nat->Nat)->List (Option Obj)}{ch:(Nat->Nat)->(Nat->Nat)->Ch}(hE:∀ad tb,tL (dC w gs₀.size G₀ ch₀ olds ad tb hs f h c t bl p d objs) js=tM (dC w gs₀.size G₀ ch₀ olds ad tb hs f h c t bl p d objs) κ Γx (tx ad tb) (os ad tb) nn (ch ad tb))(hg:s.gens=gs₀++G₀.toArray)(hch:∀(a:Nat) vs,chLook ch₀ a=some vs->a∈fG/\∃c,s.heap.TableAt c a vs)(hhs:∀hf∈hs,aG (model PR w) (aX w.params) hf)(B:aT w s)(ha:At s olds objs)(hlen:objs.length=olds.length)(hnd:olds.Nodup)(hlo:∀a∈olds,817<=a)(hd:frameCount bl<=d)(hR:∀ad tb px s',wG olds gs₀ ad s s' js (os ad tb) nn (ch ad tb) (dC w gs₀.size G₀ ch₀ olds ad tb hs f h c t bl p d objs).G->cR ⟨PR,w,aX w.params,s.heap,olds.length,gs₀,s.drawn,s.os,s.toks⟩ (lU R) κ Γx px (tx ad tb) s'):
  ∃r s',Runs (model PR w) ⟨c,none,none,bl,none⟩ p t [] s (.ret r) s'/\R r s':=by
 refine DE (nU _) t olds objs d f h hs gs₀ G₀ ch₀ hlen (fun j a x e1 e2=>ha.get j a x e1 e2) hnd hlo B.top B.sz B.tk hd hhs hg hch fun ad tb=> ?_;have e:=hE ad tb;unfold tL tM at e;injection e with e1 e2 e3 e4 e5 e6 e7
 refine⟨e1,fun s' F=> ?_⟩;show cR _ _ (dC w gs₀.size G₀ ch₀ olds ad tb hs f h c t bl p d objs).κ (dC w gs₀.size G₀ ch₀ olds ad tb hs f h c t bl p d objs).Γ (dC w gs₀.size G₀ ch₀ olds ad tb hs f h c t bl p d objs).p (dC w gs₀.size G₀ ch₀ olds ad tb hs f h c t bl p d objs).t s';rw[e2,e3,e4];have hchx:∀b,chLook (ch ad tb) b=chLook (dC w gs₀.size G₀ ch₀ olds ad tb hs f h c t bl p d objs).ch b:=fun b=>by rw[e7]
 refine hR ad tb _ s' ⟨fun b x q1 q2 q3=>F.frame b x q1 q2 (by rw[<-q3];exact(hchx b).symm),F.size,F.toks,F.drawn,F.os,F.gens,fun m j o q1 q2=>F.own j o (oW e5 m j o q1 q2),
  fun j h1 h2=>F.new j h1 (by show j<(dC w gs₀.size G₀ ch₀ olds ad tb hs f h c t bl p d objs).n;rw[e6];exact h2),fun j j' h1 h2 q=>F.inj j j' (by show j<(dC w gs₀.size G₀ ch₀ olds ad tb hs f h c t bl p d objs).n;rw[e6];exact h1) (by show j'<(dC w gs₀.size G₀ ch₀ olds ad tb hs f h c t bl p d objs).n;rw[e6];exact h2) q,
  fun a vs q=>F.tabs a vs (by rw[<-q];exact(hchx a).symm)⟩
theorem OV(hd:frameCount bl<1000)(h:∃r s',Runs (model PR w) ⟨c,none,none,bl,none⟩ p (kY c) [] s (.ret r) s'/\R r s'):wpCode (model PR w) ⟨c,none,none,bl,none⟩ R p s:=by
 obtain⟨r,s',hr,hR⟩:=h;exact⟨r,s',yG (V:=⟨PR,w,aX w.params,s.heap,0,s.gens,s.drawn,s.os,s.toks⟩) hd hr,hR⟩
theorem aT.extG {os:List (Option Obj)}{ch:Ch}(b:aT w s)(P:wG olds gs₀ ad s s' js os nn ch G)(hm:∀a∈olds,817<=a):aT w s':=by
 refine⟨fun a o ha ht=>P.frame a o (b.top a o ha ht) (fun z=>absurd ha (Nat.not_lt.mpr (hm a z))) ?_,Nat.le_trans b.sz P.size,Nat.le_trans b.tk P.toks⟩;cases hc:chLook ch a with
 |none=>rfl
 |some vs=>
  have:=nU w.params a (P.tabs a vs hc).1;rw[ht] at this;cases this
end
end
section
section
variable{w:World}{s:Shared}{bl:List (Code×Pos)}{p:Pos}{c:Code}{t:Sem Fin}{R:Result->Shared->Prop}
section
variable {hs:List HF}{c₁ cx:(Nat->Nat)->(Nat->Nat)->Code}{os:(Nat->Nat)->(Nat->Nat)->List (Option Obj)}
theorem pF (hE:∀ad tb,fZ (aY w s.gens.size olds ad tb hs f h c t bl p d objs) js=iA (aY w s.gens.size olds ad tb hs f h c t bl p d objs) [bZ ⟨c,none,none,bl,none⟩ p d] ⟨c₁ ad tb,none,none,bl,none⟩ (some (cx ad tb,none)) (os ad tb) [] nn)(hhs:∀hf∈hs,aG (model PR w) (aX w.params) hf)(B:aT w s)(ha:At s olds objs)(hlen:objs.length=olds.length)(hnd:olds.Nodup)(hlo:∀a∈olds,817<=a)(hd:frameCount bl<=d)(hR:∀ad tb px s',dX olds ad s s' js (os ad tb) nn->wpCode (model PR w) ⟨cx ad tb,none,none,(c₁ ad tb,px)::bl,none⟩ (fun r s₁=>
   ∃r' s₂,Runs (model PR w) ⟨c₁ ad tb,none,none,bl,none⟩ px (dY (aY w s.gens.size olds ad tb hs f h c t bl p d objs).t r) [] s₁ (.ret r') s₂/\R r' s₂) px s'):
  ∃r s',Runs (model PR w) ⟨c,none,none,bl,none⟩ p t [] s (.ret r) s'/\R r s':=by
 refine vM (nU _) t olds objs d f h hs hlen (fun j a x e1 e2=>ha.get j a x e1 e2) hnd hlo B.top B.sz B.tk hd hhs fun ad tb=> ?_;have e:=hE ad tb;unfold fZ iA at e;injection e with e1 e2 e3 e4 e5 e6 e7 e8
 refine⟨e1,e8,fun s' F=> ?_⟩;show cR _ _ (aY w s.gens.size olds ad tb hs f h c t bl p d objs).κ (aY w s.gens.size olds ad tb hs f h c t bl p d objs).Γ (aY w s.gens.size olds ad tb hs f h c t bl p d objs).p (aY w s.gens.size olds ad tb hs f h c t bl p d objs).t s';obtain⟨g,l,et⟩:=DV e4;have z:=hR ad tb (aY w s.gens.size olds ad tb hs f h c t bl p d objs).p s' ⟨F.ext e6,fun m j o q1 q2=>F.own j o (oW e5 m j o q1 q2),fun j h1 h2=>F.new j h1 (by show j<(aY w s.gens.size olds ad tb hs f h c t bl p d objs).n;rw[e7];exact h2),fun j j' h1 h2 q=>F.inj j j' (by show j<(aY w s.gens.size olds ad tb hs f h c t bl p d objs).n;rw[e7];exact h1) (by show j'<(aY w s.gens.size olds ad tb hs f h c t bl p d objs).n;rw[e7];exact h2) q⟩;generalize hk:dY (aY w s.gens.size olds ad tb hs f h c t bl p d objs).t=k at z et;rw[e2,e3,et];obtain⟨r,s₁,hr,r',s₂,hr',hRr⟩:=z;refine cR.call (r:=r) (s₁:=s₁) hr ?_;exact⟨_,s₂,hr',r',rfl,vL hRr⟩
theorem wH (hE:∀ad tb,fZ (cN w s.gens.size olds ad tb hs f h c bl p d objs) js=iA (cN w s.gens.size olds ad tb hs f h c bl p d objs) [bZ ⟨c,none,none,bl,none⟩ p d] ⟨c₁ ad tb,none,none,bl,none⟩ (some (cx ad tb,none)) (os ad tb) [] nn)(hhs:∀hf∈hs,aG (model PR w) (aX w.params) hf)(B:aT w s)(ha:At s olds objs)(hlen:objs.length=olds.length)(hnd:olds.Nodup)(hlo:∀a∈olds,817<=a)(hd:frameCount bl<=d)(hd':d<1000)(hR:∀ad tb px s',dX olds ad s s' js (os ad tb) nn->wpCode (model PR w) ⟨cx ad tb,none,none,(c₁ ad tb,px)::bl,none⟩ (fun r s₁=>
   ∃r' s₂,Runs (model PR w) ⟨c₁ ad tb,none,none,bl,none⟩ px (dY (cN w s.gens.size olds ad tb hs f h c bl p d objs).t r) [] s₁ (.ret r') s₂/\R r' s₂) px s'):
  wpCode (model PR w) ⟨c,none,none,bl,none⟩ R p s:=
 OV (Nat.lt_of_le_of_lt hd hd') (pF (t:=kY c) hE hhs B ha hlen hnd hlo hd hR)
end
end
end
section
noncomputable def OW(r:St):St:=⟨r.Γ,r.p,r.κ,r.d,r.t,r.T,r.n,r.i,r.ch,r.G,r.L,r.R⟩
theorem OX(r:St):OW r=r:=by cases r;rfl
theorem qO{τ ρ:Type}{body:St->Prop}(F0 F1:τ)(Q:τ->St)(mk:ρ->τ)(app:τ->ρ)(hK:∀F,Q F=OW (Q (mk (app F))))(h0:app F0=app F1)(h1:body (Q F1)):∀F,F0=F->body (Q F):=by
 intro F hF;subst hF;rw[hK F0,h0,OX,<-OX (Q _),<-hK F1];exact h1
structure OY where
 L:List bP
 κ:List Fr
 Γ:PySem.Ctx
 os:List (Option Obj)
 G:List GenState
 n:Nat
 ch:Ch
noncomputable def pG(o:St)(js:List Nat):OY:=⟨o.L,o.κ,o.Γ,oU o.T js,o.G,o.n,o.ch⟩
noncomputable def pH(o:St)(κ:List Fr)(Γ:PySem.Ctx)(os:List (Option Obj))(G:List GenState)(n:Nat):OY:=⟨o.R,κ,Γ,os,G,n,[]⟩
section
variable{w:World}{s:Shared}{bl:List (Code×Pos)}{p:Pos}{c:Code}{t:Sem Fin}{R:Result->Shared->Prop}
theorem tO {hs:List HF}{os:(Nat->Nat)->(Nat->Nat)->List (Option Obj)}(hE:∀ad tb,pG (aY w s.gens.size olds ad tb hs f h c t bl p d objs) js=pH (aY w s.gens.size olds ad tb hs f h c t bl p d objs) [bZ ⟨c,none,none,bl,none⟩ p d] ⟨c,none,none,bl,none⟩ (os ad tb) [] nn)(hhs:∀hf∈hs,aG (model PR w) (aX w.params) hf)(B:aT w s)(ha:At s olds objs)(hlen:objs.length=olds.length)(hnd:olds.Nodup)(hlo:∀a∈olds,817<=a)(hd:frameCount bl<=d)(hR:∀ad tb px s',dX olds ad s s' js (os ad tb) nn->
   ∃r' s₂,Runs (model PR w) ⟨c,none,none,bl,none⟩ px (aY w s.gens.size olds ad tb hs f h c t bl p d objs).t [] s' (.ret r') s₂/\R r' s₂):
  ∃r s',Runs (model PR w) ⟨c,none,none,bl,none⟩ p t [] s (.ret r) s'/\R r s':=by
 refine vM (nU _) t olds objs d f h hs hlen (fun j a x e1 e2=>ha.get j a x e1 e2) hnd hlo B.top B.sz B.tk hd hhs fun ad tb=> ?_;have e:=hE ad tb;unfold pG pH at e;injection e with e1 e2 e3 e5 e6 e7 e8
 refine⟨e1,e8,fun s' F=> ?_⟩;show cR _ _ (aY w s.gens.size olds ad tb hs f h c t bl p d objs).κ (aY w s.gens.size olds ad tb hs f h c t bl p d objs).Γ (aY w s.gens.size olds ad tb hs f h c t bl p d objs).p (aY w s.gens.size olds ad tb hs f h c t bl p d objs).t s';have z:=hR ad tb (aY w s.gens.size olds ad tb hs f h c t bl p d objs).p s' ⟨F.ext e6,fun m j o q1 q2=>F.own j o (oW e5 m j o q1 q2),fun j h1 h2=>F.new j h1 (by show j<(aY w s.gens.size olds ad tb hs f h c t bl p d objs).n;rw[e7];exact h2),fun j j' h1 h2 q=>F.inj j j' (by show j<(aY w s.gens.size olds ad tb hs f h c t bl p d objs).n;rw[e7];exact h1) (by show j'<(aY w s.gens.size olds ad tb hs f h c t bl p d objs).n;rw[e7];exact h2) q⟩;rw[e2,e3];obtain⟨r',s₂,hr',hRr⟩:=z;exact⟨_,s₂,hr',r',rfl,vL hRr⟩
end
end
section
section
variable{prog:Program}{w:World}{kt:KT}
theorem nZ {a b c:Int}{t u:TR}(h:a.fmod b=c)(hb:¬(b == 0)=true)(hl:bQ n i [AV.int a t,AV.int b u]=true):aG (model prog w) kt (aI lV c [AV.int a t,AV.int b u] n i):=
 qK _ aAo F.entry_int_mod hl fun A K=>by subst h;exact AutoIntG6.int___mod___int_int_1 a (t.ev K) b (u.ev K) hb
theorem OZ {a b c:Int}{t u:TR}(h:a.fdiv b=c)(hb:¬(b == 0)=true)(hp:¬Builtin.divisionGoesByPylong a b=true)(hl:bQ n i [AV.int a t,AV.int b u]=true):aG (model prog w) kt (aI yS c [AV.int a t,AV.int b u] n i):=
 qK _ aAp F.entry_int_floordiv hl fun A K=>by subst h;exact AutoIntG4.int___floordiv___int_int_1 a (t.ev K) b (u.ev K) hb hp
theorem zW {a b:Int}{c:Bool}{t u:TR}(h:(a == b)=c)(hl:bQ n i [AV.int a t,AV.int b u]=true):aG (model prog w) kt (aV vQ (.bool c) [AV.int a t,AV.int b u] n i):=
 jM _ aAk F.entry_int_eq hl fun A K=>by subst h;exact gives_int_eq a b (t.ev K) (u.ev K)
theorem aDi {a b:Int}{t:TR}(h: -a=b)(hl:bQ n i [AV.int a t]=true):aG (model prog w) kt (aI DK b [AV.int a t] n i):=
 qK _ aAq F.entry_int_neg hl fun A K=>by subst h;exact gives_int_neg a (t.ev K)
theorem aDj {a:Int}{x:Str}{t:TR}(h:(decide (a<0) || decide (a>0x10FFFF))=false)(e:(⟨#[a.toNat]⟩:Str)=x)(hl:bQ n i [AV.int a t]=true):aG (model prog w) kt (aS yU x [AV.int a t] n i):=
 yW _ aAw (entryFor_of_fast (by kernel_rfl)) (by subst e;show 1<=sizeLine;decide) hl fun A K=>by subst e;exact gives_chr a (t.ev K) h
theorem aDk (hk:k<16){t:TR}(hl:t.ok i=true):aG (model prog w) kt (aS yU ⟨⟨[k+65]⟩⟩ [AV.int (Int.ofNat (UInt8.ofNat (k+65)).toNat) t] n i):=by
 have e:(UInt8.ofNat (k+65)).toNat=k+65:=by
  have:∀k<16,(UInt8.ofNat (k+65)).toNat=k+65:=by decide+kernel
  exact this k hk
 refine aDj ?_ ?_ ?_
 ·rw[e]
  have:∀k<16,(decide (Int.ofNat (k+65)<0) || decide (Int.ofNat (k+65)>0x10FFFF))=false:=by decide+kernel
  exact this k hk
 ·rw[e];rfl
 ·unfold bQ
  have:AV.ok n i (AV.int (Int.ofNat (UInt8.ofNat (k+65)).toNat) t)=true:=hl;rw[this];rfl
theorem aDl {x y z:Str}{t:TR}(hy:(y.length == 0)=false)(h:x++y=z)(hz:z.length<=sizeLine)(ht:t.ok i=true)(hj:j<i):aG (model prog w) kt (vT z x t y (.k j) n i):=by
 have hl:bQ n i [AV.str x t,AV.str y (.k j)]=true:=by
  unfold bQ;have:AV.ok n i (AV.str x t)=true:=ht;rw[this];show bQ n i [AV.str y (.k j)]=true;unfold bQ;have:AV.ok n i (AV.str y (.k j))=true:=by show Nat.blt j i=true;exact Nat.ble_eq.mpr hj
  rw[this];rfl
 cases hx:(x.length == 0) with
 |false=>exact DR hx hy h hz hl
 |true=>
  have hxe:x=⟨⟨[]⟩⟩:=by
   obtain⟨⟨l⟩⟩:=x;have:l.length=0:=eq_of_beq hx;rw[List.length_eq_zero_iff.mp this]
  have hzy:z=y:=by
   rw[<-h,hxe];obtain⟨⟨l⟩⟩:=y;show Str.mk ((⟨[]⟩:Array Nat)++⟨l⟩)=_;simp
  subst hzy;refine OO (B:=Builtin.«str.__add__») (by rw[<-LG];exact F.entry_str_add) (fun A K=>cX A K [AV.str x t,AV.str z (.k j)]) (fun u u=>[]) z n i (yV hl) (fun u u u u u u=>rfl) fun A K hK=>⟨K j,hK j,fun prog w A' R s q=> ?_⟩;have g:=gives_str_add x z (t.ev K) (K j);rw[hx] at g;exact g.meets prog w A' R s q.2
end
end
noncomputable def bD:List Nat->List Nat
 | []=>[]
 |k::ks=>(k+65)::bD ks
noncomputable def jP:List Nat->List Nat
 | []=>[]
 |k::ks=>92::(k+65)::jP ks
noncomputable def dS(d:Nat)(ks:List Nat):List Nat:=match d,ks with
 |0,[]=>[39,39]
 |0,k::ks=>bD (k::ks)
 |1,ks=>39::(bD ks++[39])
 |2,ks=>34::(bD ks++[34])
 |_,[]=>[34,34]
 |3,k::ks=>jP (k::ks)
 |_,k::ks=>(k+65)::34::(bD ks++[34])
noncomputable def PA(d:Nat)(ks:List Nat)(t:Nat):List HF:=match d,ks with
 |3,k::ks=>[EK ⟨⟨bD (k::ks)⟩⟩ (TR.l t) 1 8]
 |_,_=>[]
theorem aDm (w:World)(g₀:Nat)(bl:List (Code×Pos))(p:Pos)(t u:Nat)(hd:d<5)(hl:ks.length<=3):∃f_ h_ nn,∃x:TR,(x= .l t\/∃j,x= .k j)/\∀ad tb:Nat->Nat,
 aZ w g₀ [] ad tb (PA d ks t) f_ h_ (.call (.ref 787) ⟨[.str ⟨⟨bD ks⟩⟩ t,.int (Int.ofNat d) u],[]⟩) bl p 400 [] [] (.pure (.done (.ret (.str ⟨⟨dS d ks⟩⟩ (x.ev (aC tb)))))) [] nn:=by
 have hq:∃b,w.params.followText "comprehension-iter-twice"=b:=⟨_,rfl⟩;obtain⟨b,hq⟩:=hq;rcases ks with _ |⟨k0,_ |⟨k1,_ |⟨k2,_ |⟨k3,ks⟩⟩⟩⟩
 rotate_left 4
 ·exact absurd hl (by simp)
 ·match d,hd with
  |0,_=>exact⟨57,vG,1,.k 7,.inr ⟨_,rfl⟩,fun ad tb=>by unfold aZ;kernel_rfl⟩
  |1,_=>exact⟨41,xX,1,.k 5,.inr ⟨_,rfl⟩,fun ad tb=>by unfold aZ;kernel_rfl⟩
  |2,_=>exact⟨58,vG,1,.k 7,.inr ⟨_,rfl⟩,fun ad tb=>by unfold aZ;kernel_rfl⟩
  |3,_=>exact⟨66,JF,1,.k 8,.inr ⟨_,rfl⟩,fun ad tb=>by unfold aZ;kernel_rfl⟩
  |4,_=>exact⟨66,JF,1,.k 8,.inr ⟨_,rfl⟩,fun ad tb=>by unfold aZ;kernel_rfl⟩
 ·match d,hd with
  |0,_=>exact⟨78,CO,1,.l t,.inl rfl,fun ad tb=>by unfold aZ;kernel_rfl⟩
  |1,_=>exact⟨41,xX,1,.k 6,.inr ⟨_,rfl⟩,fun ad tb=>by unfold aZ;kernel_rfl⟩
  |2,_=>exact⟨58,vG,1,.k 8,.inr ⟨_,rfl⟩,fun ad tb=>by unfold aZ;kernel_rfl⟩
  |3,_=>
   cases b
   ·exact⟨149,(aQ 6145 [12,rK,3,3072,12,gk,29,gG,12,gk,21,CG,44,gm]),6,.k 11,.inr ⟨_,rfl⟩,fun ad tb=>by unfold aZ;rw[tH hq];kernel_rfl⟩
   ·exact⟨139,(aQ 3146496 [10,mP,3,2048,18,gu,23,gP,18,gu,2,5,44,gm]),6,.k 11,.inr ⟨_,rfl⟩,fun ad tb=>by unfold aZ;rw[tH hq];kernel_rfl⟩
  |4,_=>exact⟨114,CN,3,.k 14,.inr ⟨_,rfl⟩,fun ad tb=>by unfold aZ;kernel_rfl⟩
 ·match d,hd with
  |0,_=>exact⟨78,CO,1,.l t,.inl rfl,fun ad tb=>by unfold aZ;kernel_rfl⟩
  |1,_=>exact⟨41,xX,1,.k 6,.inr ⟨_,rfl⟩,fun ad tb=>by unfold aZ;kernel_rfl⟩
  |2,_=>exact⟨58,vG,1,.k 8,.inr ⟨_,rfl⟩,fun ad tb=>by unfold aZ;kernel_rfl⟩
  |3,_=>
   cases b
   ·exact⟨184,(aQ 6145 [12,rK,3,3072,12,gk,29,gG,12,gk,29,gG,12,gk,21,CG,44,gm]),6,.k 16,.inr ⟨_,rfl⟩,fun ad tb=>by unfold aZ;rw[tH hq];kernel_rfl⟩
   ·exact⟨174,(aQ 3146496 [10,mP,3,2048,18,gu,23,gP,18,gu,23,gP,18,gu,2,5,44,gm]),6,.k 16,.inr ⟨_,rfl⟩,fun ad tb=>by unfold aZ;rw[tH hq];kernel_rfl⟩
  |4,_=>exact⟨114,CN,3,.k 16,.inr ⟨_,rfl⟩,fun ad tb=>by unfold aZ;kernel_rfl⟩
 ·match d,hd with
  |0,_=>exact⟨78,CO,1,.l t,.inl rfl,fun ad tb=>by unfold aZ;kernel_rfl⟩
  |1,_=>exact⟨41,xX,1,.k 6,.inr ⟨_,rfl⟩,fun ad tb=>by unfold aZ;kernel_rfl⟩
  |2,_=>exact⟨58,vG,1,.k 8,.inr ⟨_,rfl⟩,fun ad tb=>by unfold aZ;kernel_rfl⟩
  |3,_=>
   cases b
   ·exact⟨219,(aQ 6145 [12,rK,3,3072,12,gk,29,gG,12,gk,29,gG,12,gk,29,gG,12,gk,21,CG,44,gm]),6,.k 20,.inr ⟨_,rfl⟩,fun ad tb=>by unfold aZ;rw[tH hq];kernel_rfl⟩
   ·exact⟨209,(aQ 3146496 [10,mP,3,2048,18,gu,23,gP,18,gu,23,gP,18,gu,23,gP,18,gu,2,5,44,gm]),6,.k 20,.inr ⟨_,rfl⟩,fun ad tb=>by unfold aZ;rw[tH hq];kernel_rfl⟩
  |4,_=>exact⟨114,CN,3,.k 16,.inr ⟨_,rfl⟩,fun ad tb=>by unfold aZ;kernel_rfl⟩
section
noncomputable def PC(D:Str)(d:Nat)(ks:List Nat)(t u:TR)(n i:Nat):HF:=
 dP (fun v K=> .call (.ref 787) ⟨[.str ⟨⟨bD ks⟩⟩ (t.ev K),.int (Int.ofNat d) (u.ev K)],[]⟩) [] (fun v v=>[]) (fun v v=>[]) (fun v v=>[]) (fun v K=> .ok (.ret (.str D (K i)))) 1 n i 400
section
variable{w:World}
theorem aDn {D:Str}{u:TR}(hd5:d<5)(hl:ks.length<=3)(hk:∀k∈ks,k<16)(hD:D=⟨⟨dS d ks⟩⟩)(hj:j<i)(hu:u.ok i=true):
  aG (model PR w) (aX w.params) (PC D d ks (.k j) u n i):=by
 refine eN 0 (fun v v=>rfl) ?_ (fun v v v v v v=>rfl) (fun v v v v v v=>rfl) (fun v v v v v v=>rfl) ?_ (fun v v=>rfl) (fun v v=>rfl) (by simp) (by simp) fun A K bl p s hA hK hd B ha nd lo=> ?_
 ·intro A K A' K' a1 a2
  show Code.call _ ⟨[.str _ (K' j),.int _ (u.ev K')],[]⟩=Code.call _ ⟨[.str _ (K j),.int _ (u.ev K)],[]⟩;rw[TR.lcc hu a2,a2 j hj]
 ·intro A K A' K' a1 a2
  show Except.ok (Flow.ret (.str _ (K' i)))=Except.ok (Flow.ret (.str _ (K i)));rw[a2 i (by lia)]
 ·have fin:∀{t' nn:Nat} {ad:Nat->Nat} {s':Shared} {r:Result},1335<=t'->r= .ok (.ret (.str ⟨⟨dS d ks⟩⟩ t'))->dX [] ad s s' [] [] nn->
    ∃la lk:List Nat,la.length=0/\la.Nodup/\(∀a∈la,s.heap.objs.size<=a)/\(∀t∈lk,1335<=t)/\aJ [] s s'/\At s' [] []/\At s' la []/\r=Except.ok (Flow.ret (.str D (upd K i lk i))):=by
   intro t' nn ad s' r h1 h2 Q;exact⟨[],[t'],rfl,List.nodup_nil,aE,aD h1,Q.ext,trivial,trivial,by rw[iG,hD];exact h2⟩
  have asc:∀ks:List Nat,(∀k∈ks,k<16)->(Str.mk ⟨bD ks⟩).cps.all (·<128)=true:=by
   intro ks hk;rw[Array.all_eq_true'];intro x hx;have hx:x∈bD ks:=by simpa using hx
   have:∀ks:List Nat,(∀k∈ks,k<16)->∀x∈bD ks,x<128:=by
    intro ks;induction ks with
    |nil=>intro _ x hx;cases hx
    |cons k ks ih=>
     intro hk x hx;cases hx with
     |head=>have:=hk k (.head _);lia
     |tail _ hx=>exact ih (fun k h=>hk k (.tail _ h)) x hx
   exact decide_eq_true (this ks hk x hx)
  obtain⟨f_,h_,nn,x,hx,E⟩:=aDm w s.gens.size bl p (K j) (u.ev K) hd5 hl;refine cT E ?_ B trivial rfl List.nodup_nil aE hd dT fun ad tb s' Q=>fin (by rcases hx with rfl |⟨_,rfl⟩ <;> first |exact hK j |exact bB _ _) rfl Q;unfold PA;split
  ·exact aD (OK (asc _ hk) rfl)
  ·exact aE
end
end
noncomputable def PD:Stmt:=cM 36
noncomputable def EP(loc:Nat):Env:=nV PD [95,108,97,119,95,108,105,110,101,115,46,60,108,111,99,97,108,115,62,46] 792 791 loc
noncomputable def jS:Stmt:=dK (bF PD) 2
noncomputable def eP(loc e:Nat):Code:= .forLoop (bR jS) (.ref e) (bF jS) (fV jS) (EP loc)
noncomputable def tP(tg:Expr)(it:Value)(b e:List Stmt)(env:Env)(v:Value):Sem Fin:=
 bindR (Fast.tw17772580674575903948 tg env v) fun u=>bindR (Fast.tw12563942051412417395 b env) fun fl=>match fl with
  | .next=> .pure (.again (.forLoop tg it b e env))
  | .cont=> .pure (.again (.forLoop tg it b e env))
  | .brk=> .pure (.done .next)
  | .ret v=> .pure (.done (.ret v))
noncomputable def wI(loc e tp:Nat):Sem Fin:=tP (bR jS) (.ref e) (bF jS) (fV jS) (EP loc) (.ref tp)
noncomputable def nE(P:Params)(τ:Nat->Nat)(sc ln rw:Nat):Obj:=⟨fI,none,.dict ⟨[de P sr (τ 0) (.ref sc),de P sJ (τ 1) (.ref ln),de P CE (τ 2) (.ref rw)]⟩ 3,⟨[]⟩⟩
noncomputable def tQ(P:Params)(τ:Nat->Nat)(sc ln rw:Nat)(v3 v4 v5 v6 v7:Value):Obj:=⟨fI,none,.dict ⟨[de P sr (τ 0) (.ref sc),de P sJ (τ 1) (.ref ln),de P CE (τ 2) (.ref rw),
 de P [112,108,97,99,101] (τ 3) v3,de P [120] (τ 4) v4,de P [118] (τ 5) v5,de P [110,117,109,98,101,114] (τ 6) v6,de P [119,111,114,100] (τ 7) v7]⟩ 8,⟨[]⟩⟩
section
section
variable{w:World}{s:Shared}{bl:List (Code×Pos)}{p:Pos}{R:Result->Shared->Prop}
theorem aDo(tg:Expr)(it:Value)(b e:List Stmt)(env:Env)(v:Value):tP tg it b e env v=
  bindR (assign tg env v) fun u=>bindR (execs b env) fun fl=>match fl with
  | .next=> .pure (.again (.forLoop tg it b e env))
  | .cont=> .pure (.again (.forLoop tg it b e env))
  | .brk=> .pure (.done .next)
  | .ret v=> .pure (.done (.ret v)):=by
 unfold tP;rw[<-Fast.te17772580674575903948,<-Fast.te12563942051412417395] <;> rfl
theorem tR {tg:Expr}{it:Addr}{b e:List Stmt}(hRe:∀x s,¬R (.error x) s)(h:∀p',Sem.wp (model PR w) ⟨.forLoop tg (.ref it) b e env,none,none,bl,none⟩ (pyNext (.ref it)) (fun o p₁ s₁=>match o with
   |none=>wpCode (model PR w) ⟨.block e env,none,none,bl,none⟩ R p₁ s₁
   |some v=>Sem.wp (model PR w) ⟨.forLoop tg (.ref it) b e env,none,none,bl,none⟩ (letOwnedTupleGo tg (.ref it) v) (fun _ p₂ s₂=>
     ∃r s',Runs (model PR w) ⟨.forLoop tg (.ref it) b e env,none,none,bl,none⟩ p₂ (tP tg (.ref it) b e env v) [] s₂ (.ret r) s'/\R r s') (fun _ _ _=>False) p₁ s₁) (fun _ _ _=>False) p' s):
  wpCode (model PR w) ⟨.forLoop tg (.ref it) b e env,none,none,bl,none⟩ R p s:=by
 rw[wpCode_iff_wp];show Sem.wp (model PR w) _ ((forTurn tg (.ref it) b e env).onRaise (fun x=>do noteFrame x env;theTreesLotGoes x)) _ _ p s;rw[Sem.wp_onRaise]
 show Sem.wp (model PR w) _ (standAt tg.pos>>= fun _=>((pyNext (.ref it)).onRaise (fun _=>standAt {tg.pos with line:=0}))>>= fun o=>match o with
  |none=>again (.block e env)
  |some v=>do
   letOwnedTupleGo tg (.ref it) v
   assign tg env v
   match <-execs b env with
   | .next | .cont=>again (.forLoop tg (.ref it) b e env)
   | .brk=>pure (.done .next)
   | .ret v=>pure (.done (.ret v))) _ _ p s
 rw[Sem.wp_bind'];show Sem.wp (model PR w) _ (((pyNext (.ref it)).onRaise (fun _=>standAt {tg.pos with line:=0}))>>= _) _ _ tg.pos s;rw[Sem.wp_bind',Sem.wp_onRaise];refine Sem.wp_mono _ _ _ (fun o p₁ s₁ q=> ?_) (fun _ _ _ q=>q.elim) _ _ (h tg.pos);cases o with
 |none=>
  refine⟨?_,q⟩;rw[<-qE];rfl
 |some v=>
  have q:Sem.wp (model PR w) _ (letOwnedTupleGo tg (.ref it) v) _ _ p₁ s₁:=q;show Sem.wp (model PR w) _ (letOwnedTupleGo tg (.ref it) v>>= fun _=>assign tg env v>>= fun _=>execs b env>>= _) _ _ p₁ s₁;rw[Sem.wp_bind'];refine Sem.wp_mono _ _ _ (fun _ p₂ s₂ q=> ?_) (fun _ _ _ q=>q.elim) _ _ q;have z:=(Sem.wp_iff_runs (model PR w) _ _ R p₂ s₂).mpr q;rw[aDo,eR] at z;rw[Sem.wp_bind'];refine Sem.wp_mono _ _ _ (fun _ p₃ s₃ z=> ?_) (fun e _ s' q=>absurd q (hRe e s')) _ _ z;rw[eR] at z;rw[Sem.wp_bind'];refine Sem.wp_mono _ _ _ (fun fl p₄ s₄ z=> ?_) (fun e _ s' q=>absurd q (hRe e s')) _ _ z;cases fl <;> exact z
end
end
section
noncomputable def aO(l i:Nat):Obj:=⟨.type SL.s3492446563574874994x13,none,.fields ⟨[.ref l,.int (Int.ofNat i) 0]⟩,⟨[]⟩⟩
noncomputable def litE(i:Nat):Obj:=⟨.type SL.s3492446563574874994x13,none,.fields ⟨[.none,.int (Int.ofNat i) 0]⟩,⟨[]⟩⟩
noncomputable def zX(t:Nat):Obj:=⟨.type SL.s5991306692159431302x13,none,.fields ⟨[.ref t,.none,.none,.none,.bool false,.none]⟩,⟨[]⟩⟩
noncomputable def zY(it:Nat):Sem Fin:=bindR (Fast.tw17858455048448223758 (.ref it) 0 .none) fun u=>Fast.tw17615448654315672387
noncomputable def zZ(it i:Nat)(x:Value):Sem Fin:=bindR (Fast.tw17858455048448223758 (.ref it) 1 (.int (Int.ofNat (i+1)) 0)) fun u=> .pure (.done (.ret x))
noncomputable def iJ(it:Nat):Code:= .builtin MU ⟨[.ref it],[]⟩
section
variable{w:World}{s:Shared}{bl:List (Code×Pos)}{p:Pos}{R:Result->Shared->Prop}
theorem pI {α β:Type}{M:Model}{A:Around}{m:Sem α}{k:α->Sem β}{v:α}{Q:β->Pos->Shared->Prop}{E:Value->Pos->Shared->Prop}(hin:Γ.In A)(hm:wpAny M A m (fun a s'=>a=v/\s'=s) (fun u u=>False) s)(hk:∀p',Sem.wp M Γ (k v) Q E p' s):Sem.wp M Γ (m>>= k) Q E p s:=by
 rw[Sem.wp_bind'];refine Sem.wp_mono _ _ _ (fun a p₁ s₁ q=> ?_) (fun e p₁ s₁ q=>q.elim) _ _ (hm Γ p hin);obtain⟨rfl,rfl⟩:=q;exact hk p₁
theorem PE {l:Nat}(hit:s.heap.get? it=some (aO l i))(hl:s.heap.get? l=some (aA vs ep))(h:∀p,∃r s',Runs (model PR w) ⟨iJ it,none,none,bl,none⟩ p (match vs[i]? with |some x=>zZ it i x |none=>zY it) [] s (.ret r) s'/\R r s'):
  wpCode (model PR w) ⟨iJ it,none,none,bl,none⟩ R p s:=by
 rw[wpCode_iff_wp]
 have hden:(model PR w).den (iJ it)=Builtin.«list_iterator.__next__» ⟨[.ref it],[]⟩:=by
  unfold iJ;exact eM (by rw[<-aB6];exact entry_listiter_next) _
 show Sem.wp (model PR w) _ ((model PR w).den (iJ it)) _ _ p s;rw[hden];have z:=fun p=>(Sem.wp_iff_runs (model PR w) ⟨iJ it,none,none,bl,none⟩ _ R p s).mpr (h p)
 have hin:PySem.Ctx.In ⟨iJ it,none,none,bl,none⟩ ⟨none,frameCount bl+(iJ it).weight,none,none,PySem.Ctx.units ⟨iJ it,none,none,bl,none⟩⟩:=
  ⟨rfl,Nat.le_refl _,fun u q=>(nomatch q),fun u q=>(nomatch q),Nat.le_refl _⟩
 have hd:(aO l i).data= .fields #[.ref l,.int (Int.ofNat i) 0]:=rfl;have hld:(aA vs ep).data= .seq ⟨vs⟩ ep:=rfl;show Sem.wp (model PR w) _ (field (.ref it) 0>>= _) _ _ p s;refine pI hin (wpAny_field hit hd (x:= .ref l) rfl ⟨rfl,rfl⟩) fun p=> ?_;show Sem.wp (model PR w) _ (if(Value.ref l == Value.none)=true then _ else _) _ _ p s;rw[if_neg (show ¬((Value.ref l == Value.none)=true) from Bool.false_ne_true)];show Sem.wp (model PR w) _ (field (.ref it) 1>>= _) _ _ p s;refine pI hin (wpAny_field hit hd (x:= .int (Int.ofNat i) 0) rfl ⟨rfl,rfl⟩) fun p=> ?_;show Sem.wp (model PR w) _ (seqItems? (.ref l)>>= _) _ _ p s;refine pI hin (wpAny_seqItems hl hld ⟨rfl,rfl⟩) fun p=> ?_
 show Sem.wp (model PR w) _ (match(⟨vs⟩:Array Value)[i]? with
  |some x=>setField (.ref it) 1 (rawInt ((Int.ofNat i)+1))>>= fun u=>ret x
  |none=>rule _>>= fun u=>setField (.ref it) 0 .none>>= fun u=>Builtin.SmallTypes.stopIteration) _ _ p s
 have z:=z p;cases hx:vs[i]? with
 |some x=>
  rw[hx] at z;rw[show (⟨vs⟩:Array Value)[i]? =some x from EN hx];have z:Sem.wp (model PR w) _ (zZ it i x) _ _ p s:=z;unfold zZ at z;rw[<-Fast.te17858455048448223758,eR] at z;show Sem.wp (model PR w) _ (setField (.ref it) 1 (rawInt ((Int.ofNat i)+1))>>= fun u=>ret x) _ _ p s;rw[Sem.wp_bind'];exact z
 |none=>
  rw[hx] at z;have hx':(⟨vs⟩:Array Value)[i]? =none:=by simpa using hx
  rw[hx'];have z:Sem.wp (model PR w) _ (zY it) _ _ p s:=z;unfold zY at z;rw[<-Fast.te17858455048448223758,<-Fast.te17615448654315672387,eR] at z;show Sem.wp (model PR w) _ (setField (.ref it) 0 .none>>= fun u=>Builtin.SmallTypes.stopIteration) _ _ p s;rw[Sem.wp_bind'];exact z
end
end
section
noncomputable abbrev V5:=Value×Value×Value×Value×Value
noncomputable def AA(P:Params)(τ:Nat->Nat)(sc ln rw:Nat)(o:Option V5):Obj:=match o with
 |none=>nE P τ sc ln rw
 |some (a,b,c,d,e)=>tQ P τ sc ln rw a b c d e
noncomputable def EQ(o:Option V5)(τ tb:Nat->Nat)(m:Nat):Nat->Nat:=match o with
 |none=>bX (bX (bX (bX (bX τ 3 (aC tb 0)) 4 (aC tb 1)) 5 (aC tb 6)) 6 (aC tb 11)) 7 (aC tb (18+m))
 |some _=>τ
noncomputable def kO(s:Bool)(ks:List Nat):Nat:=(match ks with | [_]=>2 |ks=>3*ks.length)+(match s with |true=>1 |false=>0)
noncomputable def ER:List Nat->Nat->List HF
 | [],_=>[]
 |d::ks,i=>aS yU ⟨⟨[d+65]⟩⟩ [AV.int (Int.ofNat (UInt8.ofNat (d+65)).toNat) (TR.k i)] 11 (i+2)::ER ks (i+3)
noncomputable def ES(s:Bool)(ks:List Nat)(v n nu sgn tx:Nat)(z x:Int):List HF:=
 [aI lV (Int.ofNat v) [AV.int x (TR.l tx),AV.int (Int.ofNat (10 ^ Int.toNat 6)) (TR.k 4)] 8 5,aI yS (Int.ofNat n) [AV.int (Int.ofNat v) (TR.k 5),AV.int (Int.ofNat 20) (TR.k 7)] 8 8,aI lV (Int.ofNat nu) [AV.int (Int.ofNat n) (TR.k 8),AV.int (Int.ofNat 300) (TR.k 9)] 8 10,
  aI lV (Int.ofNat sgn) [AV.int (Int.ofNat v) (TR.k 5),AV.int (Int.ofNat 2) (TR.k 13)] 8 14,aV vQ (Value.bool s) [AV.int (Int.ofNat sgn) (TR.k 14),AV.int (Int.ofNat 1) (TR.k 15)] 8 16]++
 ((match s with
  |true=>[aI DK z [AV.int (Int.ofNat nu) (TR.k 10)] 8 16,EH z ks (TR.k 16) 8 17]
  |false=>[EH (Int.ofNat nu) ks (TR.k 10) 8 16])++ER ks (match s with |true=>18 |false=>17))
noncomputable def ET(m:Nat)(ks:List Nat)(v nu k w0 ws δ u4 rk pl tpl:Nat)(lvs rvs nvs:List Value)(e1 e2 e3:Nat)(W D S Z1 Z2:Str):List HF:=
 [aI lV (Int.ofNat k) [AV.int (Int.ofNat pl) (TR.l tpl),AV.int (Int.ofNat 4) (TR.k (19+m))] 13 (20+m),lX (Value.str S u4) 1 (Int.ofNat k) lvs e1 (TR.k (20+m)) 13 (21+m),aI yS (Int.ofNat w0) [AV.int (Int.ofNat v) (TR.k 5),AV.int (Int.ofNat 5) (TR.k (25+m))] 14 (26+m),
  aI lV (Int.ofNat ws) [AV.int (Int.ofNat w0) (TR.k (26+m)),AV.int (Int.ofNat 4) (TR.k (27+m))] 14 (28+m),OS W 13 (Int.ofNat ws) [(⟨⟨[32]⟩⟩,21+m),(⟨⟨[32,32]⟩⟩,22+m),(⟨⟨[9]⟩⟩,23+m),(⟨⟨[10]⟩⟩,24+m)] 0 (TR.k (28+m)) 14 (29+m),
  aI lV (Int.ofNat δ) [AV.int (Int.ofNat v) (TR.k 5),AV.int (Int.ofNat 5) (TR.k (30+m))] 14 (31+m),PC D δ ks (TR.k (17+m)) (TR.k (31+m)) 14 (32+m),vT Z1 W (TR.k (29+m)) D (TR.k (32+m)) 14 (33+m),vT Z2 S (TR.l u4) Z1 (TR.k (33+m)) 14 (34+m),OT 1 (Int.ofNat k) lvs e1 (TR.k (20+m)) (AV.str Z2 (TR.k (34+m))) 14 (35+m),
  aI lV (Int.ofNat k) [AV.int (Int.ofNat pl) (TR.l tpl),AV.int (Int.ofNat 4) (TR.k (35+m))] 14 (36+m),lX (Value.ref rk) 2 (Int.ofNat k) rvs e2 (TR.k (36+m)) 14 (37+m),qN 3 nvs e3 (AV.int (Int.ofNat nu) (TR.k 10)) 14 (37+m)]
structure LLp where
 (w:World) (g₀:Nat) (bl:List (Code×Pos)) (p:Pos) (τ:Nat->Nat) (loc ln rw rk tp e sc pl tpl tx v n nu k w0 ws δ sgn u4:Nat) (z x:Int) (lvs rvs nvs:List Value) (e1 e2 e3:Nat) (W D S Z1 Z2:Str)
section
variable(q:LLp)(s b:Bool)(o:Option V5)(ks:List Nat)
noncomputable def PG(f h:Nat)(ad tb:Nat->Nat):St:=EM q.w b q.g₀ [q.loc,q.ln,q.rw,q.rk,q.tp] ad tb (ES s ks q.v q.n q.nu q.sgn q.tx q.z q.x++ET (kO s ks) ks q.v q.nu q.k q.w0 q.ws q.δ q.u4 q.rk q.pl q.tpl q.lvs q.rvs q.nvs q.e1 q.e2 q.e3 q.W q.D q.S q.Z1 q.Z2) f h
  (eP q.loc q.e) (wI q.loc q.e q.tp) q.bl q.p 380 [AA q.w.params q.τ q.sc q.ln q.rw o,aA q.lvs q.e1,aA q.rvs q.e2,aA q.nvs q.e3,aK [.int (Int.ofNat q.pl) q.tpl,.int q.x q.tx]]
noncomputable def xLL(tb:Nat->Nat):List (Option Obj):=[some (tQ q.w.params (EQ o q.τ tb (kO s ks)) q.sc q.ln q.rw (.int (Int.ofNat q.pl) q.tpl) (.int q.x q.tx) (.int (Int.ofNat q.v) (aC tb 5)) (.int (Int.ofNat q.nu) (aC tb 10)) (sv (bD ks) (aC tb (17+kO s ks)))),some (aA (q.lvs.set (Int.ofNat q.k).toNat (.str q.Z2 (aC tb (34+kO s ks)))) q.e1),some (aA q.rvs q.e2),some (aA (q.nvs++[.int (Int.ofNat q.nu) (aC tb 10)]) (q.e3+1)),some (aK [.int (Int.ofNat q.pl) q.tpl,.int q.x q.tx])]
theorem aDp(hk:ks.length<=3):∃f_ h_,∀ad tb:Nat->Nat,dI (PG q s b o ks f_ h_ ad tb) [0,1,2,3,4]=dJ (PG q s b o ks f_ h_ ad tb) [bZ ⟨eP q.loc q.e,none,none,q.bl,none⟩ q.p 380] ⟨eP q.loc q.e,none,none,q.bl,none⟩ (.pure (.again (eP q.loc q.e))) (xLL q s o ks tb) [] 14:=by
 rcases ks with _ |⟨a,_ |⟨b',_ |⟨c,_ |⟨d,ks⟩⟩⟩⟩
 all_goals (cases s <;> rcases o with _ |⟨v3,v4,v5,v6,v7⟩ <;> cases b)
 ·exact⟨272,IU,fun ad tb=>by kernel_rfl⟩
 ·exact⟨262,IW,fun ad tb=>by kernel_rfl⟩
 ·exact⟨272,IU,fun ad tb=>by kernel_rfl⟩
 ·exact⟨262,IW,fun ad tb=>by kernel_rfl⟩
 ·exact⟨275,IS,fun ad tb=>by kernel_rfl⟩
 ·exact⟨265,IV,fun ad tb=>by kernel_rfl⟩
 ·exact⟨275,IS,fun ad tb=>by kernel_rfl⟩
 ·exact⟨265,IV,fun ad tb=>by kernel_rfl⟩
 ·exact⟨311,IO,fun ad tb=>by kernel_rfl⟩
 ·exact⟨301,IQ,fun ad tb=>by kernel_rfl⟩
 ·exact⟨311,IO,fun ad tb=>by kernel_rfl⟩
 ·exact⟨301,IQ,fun ad tb=>by kernel_rfl⟩
 ·exact⟨314,IN,fun ad tb=>by kernel_rfl⟩
 ·exact⟨304,IP,fun ad tb=>by kernel_rfl⟩
 ·exact⟨314,IN,fun ad tb=>by kernel_rfl⟩
 ·exact⟨304,IP,fun ad tb=>by kernel_rfl⟩
 ·exact⟨346,IK,fun ad tb=>by kernel_rfl⟩
 ·exact⟨336,IM,fun ad tb=>by kernel_rfl⟩
 ·exact⟨346,IK,fun ad tb=>by kernel_rfl⟩
 ·exact⟨336,IM,fun ad tb=>by kernel_rfl⟩
 ·exact⟨349,IJ,fun ad tb=>by kernel_rfl⟩
 ·exact⟨339,IL,fun ad tb=>by kernel_rfl⟩
 ·exact⟨349,IJ,fun ad tb=>by kernel_rfl⟩
 ·exact⟨339,IL,fun ad tb=>by kernel_rfl⟩
 ·exact⟨381,hY,fun ad tb=>by kernel_rfl⟩
 ·exact⟨371,II,fun ad tb=>by kernel_rfl⟩
 ·exact⟨381,hY,fun ad tb=>by kernel_rfl⟩
 ·exact⟨371,II,fun ad tb=>by kernel_rfl⟩
 ·exact⟨384,hO,fun ad tb=>by kernel_rfl⟩
 ·exact⟨374,IG,fun ad tb=>by kernel_rfl⟩
 ·exact⟨384,hO,fun ad tb=>by kernel_rfl⟩
 ·exact⟨374,IG,fun ad tb=>by kernel_rfl⟩
 all_goals exact absurd hk (by simp)
end
theorem aDq(w:World)(g₀:Nat)(bl:List (Code×Pos))(p:Pos)(s b:Bool)(hq:w.params.followText "comprehension-iter-twice"=b)(o:Option V5)(ks:List Nat)(hk:ks.length<=3)(τ:Nat->Nat)(loc ln rw rk tp e sc pl tpl tx v n nu k w0 ws δ sgn u4:Nat)(z x:Int)(lvs rvs nvs:List Value)(e1 e2 e3:Nat)(W D S Z1 Z2:Str):∃f_ h_,∀ad tb:Nat->Nat,
 let r:=aY w g₀ [loc,ln,rw,rk,tp] ad tb (ES s ks v n nu sgn tx z x++ET (kO s ks) ks v nu k w0 ws δ u4 rk pl tpl lvs rvs nvs e1 e2 e3 W D S Z1 Z2) f_ h_
  (eP loc e) (wI loc e tp) bl p 380 [AA w.params τ sc ln rw o,aA lvs e1,aA rvs e2,aA nvs e3,aK [.int (Int.ofNat pl) tpl,.int x tx]]
 dI r [0,1,2,3,4]=dJ r [bZ ⟨eP loc e,none,none,bl,none⟩ p 380] ⟨eP loc e,none,none,bl,none⟩ (.pure (.again (eP loc e))) [some (tQ w.params (EQ o τ tb (kO s ks)) sc ln rw (.int (Int.ofNat pl) tpl) (.int x tx) (.int (Int.ofNat v) (aC tb 5)) (.int (Int.ofNat nu) (aC tb 10)) (sv (bD ks) (aC tb (17+kO s ks)))),some (aA (lvs.set (Int.ofNat k).toNat (.str Z2 (aC tb (34+kO s ks)))) e1),some (aA rvs e2),some (aA (nvs++[.int (Int.ofNat nu) (aC tb 10)]) (e3+1)),some (aK [.int (Int.ofNat pl) tpl,.int x tx])] [] 14:=by
 obtain⟨f_,h_,E⟩:=aDp ⟨w,g₀,bl,p,τ,loc,ln,rw,rk,tp,e,sc,pl,tpl,tx,v,n,nu,k,w0,ws,δ,sgn,u4,z,x,lvs,rvs,nvs,e1,e2,e3,W,D,S,Z1,Z2⟩ s b o ks hk;exact⟨f_,h_,fun ad tb=>by rw[nB hq];exact E ad tb⟩
end
section
theorem PH(a b:Nat):(Int.ofNat a).fdiv (Int.ofNat b)=Int.ofNat (a / b):=(Int.ofNat_fdiv a b).symm
theorem tS(a b:Nat):(Int.ofNat a).fmod (Int.ofNat b)=Int.ofNat (a % b):=by
 rw[Int.fmod_eq_emod_of_nonneg _ (show (0:Int)<=Int.ofNat b from Int.natCast_nonneg b)];rfl
theorem aDr(a:Int):¬Builtin.divisionGoesByPylong a (Int.ofNat 20)=true:=by
 unfold Builtin.divisionGoesByPylong;intro h;rw[Bool.and_eq_true] at h;exact absurd h.1 (by decide+kernel)
theorem aDs(a:Int):¬Builtin.divisionGoesByPylong a (Int.ofNat 5)=true:=by
 unfold Builtin.divisionGoesByPylong;intro h;rw[Bool.and_eq_true] at h;exact absurd h.1 (by decide+kernel)
theorem AB(k:Nat):(0:Int)<=Int.ofNat k:=Int.natCast_nonneg k
theorem AC (h:k<1000):(Int.ofNat k)<2 ^ 63:=by
 exact zT (Nat.le_trans (Nat.le_of_lt h) dT)
noncomputable def fT(k:Nat):List Nat:=match k with
 |0=>[32]
 |1=>[32,32]
 |2=>[9]
 |_=>[10]
noncomputable def eC(v:Nat):Nat:=v / 20 % 300
noncomputable def jE(v:Nat):List Nat:=fT (v / 5 % 4)++dS (v % 5) (cY (eC v))
theorem aDt (h:k<4):([⟨⟨[32]⟩⟩,⟨⟨[32,32]⟩⟩,⟨⟨[9]⟩⟩,⟨⟨[10]⟩⟩]:List Str)[k]? =some ⟨⟨fT k⟩⟩:=oY (P:=fun k=>([⟨⟨[32]⟩⟩,⟨⟨[32,32]⟩⟩,⟨⟨[9]⟩⟩,⟨⟨[10]⟩⟩]:List Str)[k]? =some ⟨⟨fT k⟩⟩) rfl rfl rfl rfl k h
theorem PI(k:Nat):(Str.length ⟨⟨fT k⟩⟩ == 0)=false:=by
 unfold fT;split <;> rfl
theorem EU(k:Nat):(fT k).length<=2:=by
 unfold fT;split <;> decide
theorem nF:∀ks:List Nat,(bD ks).length=ks.length
 | []=>rfl
 |_::ks=>congrArg (·+1) (nF ks)
theorem PJ:∀ks:List Nat,(jP ks).length=2*ks.length
 | []=>rfl
 |_::ks=>by show (jP ks).length+1+1=2*(ks.length+1);rw[PJ ks];rfl
theorem EV(d:Nat)(ks:List Nat):1<=(dS d ks).length/\(dS d ks).length<=2*ks.length+2:=by
 have q:∀c:Nat,1<=(c::(bD ks++[c])).length/\(c::(bD ks++[c])).length<=2*ks.length+2:=fun c=>by
  rw[List.length_cons,List.length_append,nF];exact⟨Nat.succ_pos _,Nat.add_le_add_right (Nat.le_mul_of_pos_left _ dT) 2⟩
 rcases d with _ |_ |_ |_ |d
 ·cases ks with
  |nil=>exact⟨by decide,by decide⟩
  |cons k ks=>exact⟨Nat.succ_pos _,by show (bD (k::ks)).length<=_;rw[nF];exact Nat.le_trans (Nat.le_mul_of_pos_left _ dT) (Nat.le_add_right _ _)⟩
 ·exact q 39
 ·exact q 34
 ·cases ks with
  |nil=>exact⟨by decide,by decide⟩
  |cons k ks=>exact⟨Nat.succ_pos _,by show (jP (k::ks)).length<=_;rw[PJ];exact Nat.le_add_right _ _⟩
 ·cases ks with
  |nil=>exact⟨(by decide:1<=2),(by decide:2<=2)⟩
  |cons k ks=>
   refine⟨Nat.succ_pos _,?_⟩;show (bD ks++[34]).length+1+1<=_;rw[List.length_append,nF];exact Nat.add_le_add_right (Nat.le_mul_of_pos_left (ks.length+1) dT) 2
theorem aDu(d:Nat)(ks:List Nat):(Str.length ⟨⟨dS d ks⟩⟩ == 0)=false:=beq_false_of_ne (Nat.ne_of_gt (EV d ks).1)
theorem EW (h:ks.length<=3):(dS d ks).length<=8:=Nat.le_trans (EV d ks).2 (Nat.add_le_add_right (Nat.mul_le_mul_left 2 h) 2)
theorem PK(a b:List Nat):(⟨⟨a⟩⟩:Str)++(⟨⟨b⟩⟩:Str)=⟨⟨a++b⟩⟩:=by
 show Str.mk ((⟨a⟩:Array Nat)++⟨b⟩)=_;congr 1;apply Array.ext';simp
theorem tU(n:Nat):(cY n).length<=3:=by
 unfold cY
 repeat' split
 all_goals simp
theorem PM (h:n<4096):∀k∈cY n,k<16:=by
 unfold cY
 by_cases h0:n=0
 ·rw[if_pos h0];exact aE
 rw[if_neg h0]
 by_cases h1:n<16
 ·rw[if_pos h1];exact aD h1
 rw[if_neg h1]
 by_cases h2:n<256
 ·rw[if_pos h2];exact aB (Nat.div_lt_of_lt_mul h2) (aD (Nat.mod_lt _ dT))
 ·rw[if_neg h2];exact aB (Nat.div_lt_of_lt_mul h) (aB (Nat.mod_lt _ dT) (aD (Nat.mod_lt _ dT)))
noncomputable def qP(P:Params)(τ:Nat->Nat)(sc ln rw pl:Nat)(x:Int)(tx v:Nat):Obj:=
 tQ P τ sc ln rw (.int (Int.ofNat pl) (τ 8)) (.int x tx) (.int (Int.ofNat v) (τ 9)) (.int (Int.ofNat (eC v)) (τ 10)) (sv (bD (cY (eC v))) (τ 11))
section
variable{w:World}{s:Shared}{bl:List (Code×Pos)}{p:Pos}{R:Result->Shared->Prop}
theorem aDv {rk tp pl tpl v u4 e3:Nat}{x:Int}{lvs nvs:List Value}{S:List Nat}{D0:Obj}(hD0:D0=nE w.params τ sc ln rw\/∃v3 v4 v5 v6 v7,D0=tQ w.params τ sc ln rw v3 v4 v5 v6 v7)(hx:x.fmod 1000000=Int.ofNat v)(hl:lvs[pl % 4]? =some (.str ⟨⟨S⟩⟩ u4))(hr:rvs[pl % 4]? =some (.ref rk))(hS:S.length<=1000)(hlv:lvs.length=4)(hnv:nvs.length<=1000)(hτ:∀j,1335<=τ j)(htp:1335<=tpl)(B:aT w s)(ha:At s [loc,ln,rw,rk,tp] [D0,aA lvs e1,aA rvs e2,aA nvs e3,aK [.int (Int.ofNat pl) tpl,.int x tx]])(nd:[loc,ln,rw,rk,tp].Nodup)(lo:∀x∈[loc,ln,rw,rk,tp],817<=x)(hd:frameCount bl<=380)(hR:∀px s' τ' t1 t2,(∀j,1335<=τ' j)->1335<=t1->1335<=t2->aJ [loc,ln,rw,rk,tp] s s'->
   At s' [loc,ln,rw,rk] [qP w.params τ' sc ln rw pl x tx v,aA (lvs.set (pl % 4) (.str ⟨⟨S++jE v⟩⟩ t1)) e1,aA rvs e2,aA (nvs++[.int (Int.ofNat (eC v)) t2]) (e3+1)]->
   wpCode (model PR w) ⟨eP loc e,none,none,bl,none⟩ R px s'):
  ∃r s',Runs (model PR w) ⟨eP loc e,none,none,bl,none⟩ p (wI loc e tp) [] s (.ret r) s'/\R r s':=by
 have e6:Int.ofNat (10 ^ Int.toNat 6)=1000000:=by decide+kernel
 have hx:x.fmod (Int.ofNat (10 ^ Int.toNat 6))=Int.ofNat v:=by rw[e6];exact hx
 have k4:pl % 4<4:=Nat.mod_lt _ dT;have w4:v / 5 % 4<4:=Nat.mod_lt _ dT;have d5:v % 5<5:=Nat.mod_lt _ dT;have nl:eC v<4096:=Nat.lt_of_lt_of_le (Nat.mod_lt _ dT) (by decide:300<=4096);have al:=tU (eC v);have at_:=PM nl;have hZ1:(fT (v / 5 % 4)++dS (v % 5) (cY (eC v))).length<=1000:=by rw[List.length_append];exact Nat.le_trans (Nat.add_le_add (EU _) (EW al)) dT
 have haL:(jE v).length<=2000:=Nat.le_trans hZ1 dT;have hZ2:(S++jE v).length<=2000:=by rw[List.length_append];exact Nat.add_le_add hS hZ1
 have sz:∀l:List Nat,l.length<=2000->(Str.mk ⟨l⟩).length<=sizeLine:=fun l h=>Nat.le_trans (show l.length<=2000 from h) dT
 have z1ne:(Str.length ⟨⟨jE v⟩⟩ == 0)=false:=by
  have:=PI (v / 5 % 4);unfold jE;cases h:fT (v / 5 % 4) with
  |nil=>rw[h] at this;cases this
  |cons=>rfl
 have hz:∀b:Nat,b≠0->¬(Int.ofNat b == 0)=true:=fun b hb h=>hb (by simpa using h);have hlk:(Int.ofNat (pl % 4))<(lvs.length:Int):=by rw[hlv];exact Int.ofNat_lt.mpr k4
 have mv:Int.ofNat (eC v)=Int.ofNat (v / 20 % 300):=rfl;have mA:∀{l1 l2:List HF},(∀x∈l1,aG (model PR w) (aX w.params) x)->(∀x∈l2,aG (model PR w) (aX w.params) x)->∀x∈l1++l2,aG (model PR w) (aX w.params) x:=fun h1 h2 x q=>(List.mem_append.mp q).elim (h1 x) (h2 x)
 have run:∀(sb:Bool) (o:Option V5) (ks:List Nat),D0=AA w.params τ sc ln rw o->cY (eC v)=ks->(∀hf∈ES sb ks v (v / 20) (eC v) (v % 2) tx (-Int.ofNat (eC v)) x,aG (model PR w) (aX w.params) hf)->
   (∀hf∈ET (kO sb ks) ks v (eC v) (pl % 4) (v / 5) (v / 5 % 4) (v % 5) u4 rk pl tpl lvs rvs nvs e1 e2 e3 ⟨⟨fT (v / 5 % 4)⟩⟩ ⟨⟨dS (v % 5) ks⟩⟩ ⟨⟨S⟩⟩ ⟨⟨jE v⟩⟩ ⟨⟨S++jE v⟩⟩,aG (model PR w) (aX w.params) hf)->
   ∃r s',Runs (model PR w) ⟨eP loc e,none,none,bl,none⟩ p (wI loc e tp) [] s (.ret r) s'/\R r s':=fun sb o ks hD hds h1 h2=>by
  subst hD;obtain⟨f_,h_,E⟩:=aDq w s.gens.size bl p sb _ rfl o ks (hds▸al) τ loc ln rw rk tp e sc pl tpl tx v (v / 20) (eC v) (pl % 4) (v / 5) (v / 5 % 4) (v % 5) (v % 2) u4 (-Int.ofNat (eC v)) x lvs rvs nvs e1 e2 e3 ⟨⟨fT (v / 5 % 4)⟩⟩ ⟨⟨dS (v % 5) ks⟩⟩ ⟨⟨S⟩⟩ ⟨⟨jE v⟩⟩ ⟨⟨S++jE v⟩⟩
  refine oX E (fun u u=>by unfold eP;kernel_rfl) (mA h1 h2) B ha rfl nd lo hd fun ad tb px s' Q=>hR px s' (bX (bX (bX (bX (EQ o τ tb (kO sb ks)) 8 tpl) 9 (aC tb 5)) 10 (aC tb 10)) 11 (aC tb (17+kO sb ks))) (aC tb (34+kO sb ks)) (aC tb 10) ?_ (bB _ _) (bB _ _) Q.ext
   ⟨by have:=Q.at_ 0 0 _ rfl rfl;unfold qP;rw[hds];cases o <;> exact this,Q.at_ 1 1 _ rfl rfl,Q.at_ 2 2 _ rfl rfl,Q.at_ 3 3 _ rfl rfl,trivial⟩
  refine fH (fH (fH (fH ?_ htp) (bB _ _)) (bB _ _)) (bB _ _);cases o with
  |none=>exact fH (fH (fH (fH (fH hτ (bB _ _)) (bB _ _)) (bB _ _)) (bB _ _)) (bB _ _)
  |some _=>exact hτ
 have hD0:∃o,D0=AA w.params τ sc ln rw o:=hD0.elim (fun h=>⟨none,h⟩) fun⟨v3,v4,v5,v6,v7,h⟩=>⟨some (v3,v4,v5,v6,v7),h⟩;obtain⟨o,hD0⟩:=hD0;have hks:∃ks,cY (eC v)=ks:=⟨_,rfl⟩;obtain⟨ks,hds⟩:=hks
 have hsb:∃sb:Bool,v % 2=if sb then 1 else 0:=by
  rcases Nat.mod_two_eq_zero_or_one v with hs |hs
  ·exact⟨false,hs⟩
  ·exact⟨true,hs⟩
 obtain⟨sb,hs⟩:=hsb;refine run sb o ks hD0 hds ?_ ?_
 ·refine mA (aB (nZ hx (hz _ (by decide+kernel)) rfl) (aB (OZ (PH v 20) (hz _ dT) (aDr _) rfl) (aB (nZ (tS (v / 20) 300) (hz _ dT) rfl) (aB (nZ (tS v 2) (hz _ dT) rfl) (aD (zW (by rw[hs];cases sb <;> rfl) rfl)))))) (mA ?_ ?_)
  ·cases sb with
   |true=>exact aB (aDi rfl rfl) (aD (OH (x:=eC v) (.inr rfl) nl hds rfl))
   |false=>exact aD (OH (x:=eC v) (.inl rfl) nl hds rfl)
  ·have hc:∀(ks:List Nat) (i:Nat),(∀k∈ks,k<16)->∀x∈ER ks i,aG (model PR w) (aX w.params) x:=fun ks=>by
    induction ks with
    |nil=>exact fun u u=>aE
    |cons d ks ih=>exact fun i h=>aB (aDk (h d (.head _)) (by simp[bQ,AV.ok,TR.ok])) (ih _ fun k hk=>h k (.tail _ hk))
   exact hc ks _ (hds▸at_)
 ·generalize kO sb ks=m
  have kk:∀{a b:Nat},a<b->(TR.k a).ok b=true:=fun h=>Nat.blt_eq.mpr h;have oo:∀{n i b:Nat} {x y:Int} {t:TR},t.ok i=true->b<i->bQ n i [AV.int x t,AV.int y (TR.k b)]=true:=fun h1 h2=>by simp only[bQ,AV.ok,h1,kk h2]
  have ss:∀{n i b:Nat} {x y:Str} {t:TR},t.ok i=true->b<i->bQ n i [AV.str x t,AV.str y (TR.k b)]=true:=fun h1 h2=>by simp only[bQ,AV.ok,h1,kk h2]
  exact aB (nZ (tS pl 4) (hz _ dT) (oo rfl (by lia))) (aB (nD (AB _) (AC (by lia)) hl dT (kk (by lia))) (aB (OZ (PH v 5) (hz _ dT) (aDs _) (oo (kk (by lia)) (by lia))) (aB (nZ (tS (v / 5) 4) (hz _ dT) (oo (kk (by lia)) (by lia))) (aB (aDg (AB _) (AC (by lia)) (aDt w4) dT (kk (by lia)) (by simp))
   (aB (nZ (tS v 5) (hz _ dT) (oo (kk (by lia)) (by lia))) (aB (aDn d5 (hds▸al) (hds▸at_) rfl (by lia) (kk (by lia))) (aB (DR (PI _) (aDu _ _) (by rw[PK];unfold jE;rw[hds]) (sz _ haL) (ss (kk (by lia)) (by lia))) (aB (aDl z1ne (PK _ _) (sz _ hZ2) rfl (by lia)) (aB (aDh (AB _) (AC (by lia)) hlk dT (kk (by lia)) (kk (by lia))) (aB (nZ (tS pl 4) (hz _ dT) (oo rfl (by lia))) (aB (nD (AB _) (AC (by lia)) hr dT (kk (by lia))) (aD (tJ (Nat.le_trans hnv dT) dT (kk (by lia)))))))))))))))
end
end
section
variable (w:World)(g₀:Nat)(ad tb:Nat->Nat)(bl:List (Code×Pos))(p:Pos)
theorem aDw (it l i:Nat)(x:Value):
 aW w g₀ [it] ad tb [] 3 4097 (iJ it) (zZ it i x) bl p 900 [aO l i] [0] (.pure (.done (.ret x))) [aO l (i+1)] 1:=by unfold aW;kernel_rfl
theorem aDx (it l i:Nat):
 aW w g₀ [it] ad tb [] 6 4097 (iJ it) (zY it) bl p 900 [aO l i] [0,1,2] (.raise (.ref (bG [it] ad 2))) [litE i,aK [],zX (bG [it] ad 1)] 3:=by unfold aW;kernel_rfl
theorem aDy (loc:Nat):
 aZ w g₀ [] ad tb [] 1 0 (.block (fV jS) (EP loc)) bl p 380 [] [] (.pure (.done .next)) [] 0:=by unfold aZ;kernel_rfl
end
section
noncomputable def eQ(x:Value)(jit jl k:Nat)(vs:List Value)(ep n i:Nat):HF:=
 dP (fun A u=>iJ (A jit)) [jit,jl] (fun A u=>[aO (A jl) k,aA vs ep]) (fun A u=>[aO (A jl) (k+1),aA vs ep]) (fun u u=>[]) (fun u u=> .ok (.ret x)) 0 n i 900
noncomputable def iR(jit jl k:Nat)(vs:List Value)(ep n i:Nat):HF:=
 dP (fun A u=>iJ (A jit)) [jit,jl] (fun A u=>[aO (A jl) k,aA vs ep]) (fun A u=>[litE k,aA vs ep]) (fun A u=>[aK [],zX (A n)]) (fun A u=> .error (.ref (A (n+1)))) 0 n i 900
section
variable{w:World}
theorem kP {x:Value}{jit:Nat}(hx:vs[k]? =some x)(h1:jit<n)(h2:jl<n)(h12:jit≠jl):aG (model PR w) (aX w.params) (eQ x jit jl k vs ep n i):=by
 refine eN 0 (fun u u=>rfl) ?_ ?_ ?_ (fun u u u u u u=>rfl) (fun u u u u u u=>rfl) (fun u u=>rfl) (fun u u=>rfl) (fun j h=>by simp at h;lia) (by simp[h12]) fun A K bl p s hA hK hd B ha nd lo=> ?_
 ·intro A K A' K' a1 a2
  show iJ (A' jit)=iJ (A jit);rw[a1 jit h1]
 ·intro A K A' K' a1 a2
  show[aO (A' jl) k,_]=[aO (A jl) k,_];rw[a1 jl h2]
 ·intro A K A' K' a1 a2
  show[aO (A' jl) (k+1),_]=[aO (A jl) (k+1),_];rw[a1 jl h2]
 ·have hat:At s [A jit,A jl] [aO (A jl) k,aA vs ep]:=ha
  have nd:[A jit,A jl].Nodup:=nd;have ne:A jl≠A jit:=fun q=>by rw[q] at nd;simp at nd
  refine PE hat.1 hat.2.1 fun p=> ?_;rw[hx];refine bL (fun ad tb=>aDw w s.gens.size ad tb bl p (A jit) (A jl) k x) aE B ⟨hat.1,trivial⟩ rfl (by simp) (aD (hA _)) hd fun ad tb s' Q=> ?_;exact⟨[],[],rfl,List.nodup_nil,aE,aE,Q.ext.mono fun a h=>(by simp at h;subst h;exact .head _),⟨by rw[iY];exact Q.at_ 0 0 _ rfl rfl,Q.ext.frame _ _ hat.2.1 (by simpa using ne),trivial⟩,trivial,rfl⟩
theorem oA {jit:Nat}(hx:vs[k]? =none)(h1:jit<n)(h2:jl<n)(h12:jit≠jl):aG (model PR w) (aX w.params) (iR jit jl k vs ep n i):=by
 refine eN 2 (fun u u=>rfl) ?_ ?_ (fun u u u u u u=>rfl) ?_ ?_ (fun u u=>rfl) (fun u u=>rfl) (fun j h=>by simp at h;lia) (by simp[h12]) fun A K bl p s hA hK hd B ha nd lo=> ?_
 ·intro A K A' K' a1 a2
  show iJ (A' jit)=iJ (A jit);rw[a1 jit h1]
 ·intro A K A' K' a1 a2
  show[aO (A' jl) k,_]=[aO (A jl) k,_];rw[a1 jl h2]
 ·intro A K A' K' a1 a2
  show[aK [],zX (A' n)]=[aK [],zX (A n)];rw[a1 n (by lia)]
 ·intro A K A' K' a1 a2
  show (Except.error (.ref (A' (n+1))):Result)=Except.error (.ref (A (n+1)));rw[a1 (n+1) (by lia)]
 ·have hat:At s [A jit,A jl] [aO (A jl) k,aA vs ep]:=ha
  have nd:[A jit,A jl].Nodup:=nd;have ne:A jl≠A jit:=fun q=>by rw[q] at nd;simp at nd
  refine PE hat.1 hat.2.1 fun p=> ?_;rw[hx];refine zA (fun ad tb=>aDx w s.gens.size ad tb bl p (A jit) (A jl) k) aE B ⟨hat.1,trivial⟩ rfl (by simp) (aD (hA _)) hd fun ad tb px s' Q=>DD ?_;refine⟨[ad 1+817,ad 2+817],[],rfl,?_,?_,aE,Q.ext.mono fun a h=>by simp at h;subst h;exact .head _,⟨Q.at_ 0 0 _ rfl rfl,Q.ext.frame _ _ hat.2.1 (by simpa using ne),trivial⟩,?_,?_⟩
  ·have:=Q.inj 1 2 (by show 1<3;decide) (by show 2<3;decide)
   simp only[List.nodup_cons,List.mem_cons,List.not_mem_nil,or_false,not_false_eq_true,List.nodup_nil,and_true];intro q;exact absurd (this q) dT
  ·intro a h
   simp only[List.mem_cons,List.not_mem_nil,or_false] at h;rcases h with h |h <;> subst h
   ·exact(Q.new 1 (by show 1<=1;decide) (by show 1<3;decide)).1
   ·exact(Q.new 2 (by show 1<=2;decide) (by show 2<3;decide)).1
  ·rw[iG]
   exact(Q.ats [1,2])
  ·rw[tG];rfl
end
end
noncomputable def iS(f0:Value)(it k:Nat)(old:Value):Obj:=⟨.type SL.s14340494229221121180x9,none,.fields ⟨[f0,.bool false,.ref it,.int (Int.ofNat k) 0,.none,old]⟩,⟨[]⟩⟩
theorem aDz(w:World)(g₀:Nat)(ad tb:Nat->Nat)(bl:List (Code×Pos))(p:Pos)(loc e it l k ep:Nat)(x old:Value)(vs:List Value):
 aW w g₀ [e,it,l] ad tb [eQ x 1 2 k vs ep 3 0] 29 (aQ mP [12,mP,12,mP,22,0x10018010008004002001]) (eP loc e) (cQ (.ref e)) bl p 380 [iS .none it k old,aO l k,aA vs ep] [0,1,2,3] (.pure (.done (.ret (.ref (bG [e,it,l] ad 3))))) [iS (.int (Int.ofNat (bG [e,it,l] ad 3)) 0) it (k+1) x,aO l (k+1),aA vs ep,aK [.int (Int.ofNat k) (aC tb 0),x]] 4:=by unfold aW;kernel_rfl
theorem aE0(w:World)(g₀:Nat)(ad tb:Nat->Nat)(bl:List (Code×Pos))(p:Pos)(loc e it l k ep:Nat)(x old:Value)(vs:List Value):
 aW w g₀ [e,it,l] ad tb [iR 1 2 k vs ep 3 0] 12 0x58010008004002001 (eP loc e) (cQ (.ref e)) bl p 380 [iS .none it k old,aO l k,aA vs ep] [0,1,2] (.pure (.done .brk)) [iS .none it k old,litE k,aA vs ep] 5:=by unfold aW;kernel_rfl
section
noncomputable def vN(x:Int):Nat:=(x.fmod 1000000).toNat
theorem aE1(x:Int):x.fmod 1000000=Int.ofNat (vN x):=by
 have h:0<=x.fmod 1000000:=Int.fmod_nonneg_of_pos x dT;exact(Int.toNat_of_nonneg h).symm
noncomputable def lY:Nat->List Int->List (List Nat)->List (List Nat)
 |_,[],ls=>ls
 |i,x::xs,ls=>lY (i+1) xs (ls.set (i % 4) (ls.getD (i % 4) []++jE (vN x)))
noncomputable def jU:Nat->List Int->List (List Nat)->List (List Nat)
 |_,[],rs=>rs
 |i,x::xs,rs=>jU (i+1) xs (rs.set (i % 4) (rs.getD (i % 4) []++[eC (vN x)]))
noncomputable def pJ:List Nat->List Nat->List Value
 |n::ns,t::ts=> .int (Int.ofNat n) t::pJ ns ts
 |_,_=>[]
noncomputable def cI:List (Int×Nat)->List Value
 | []=>[]
 |x::xs=> .int x.1 x.2::cI xs
theorem EX:∀(xs:List (Int×Nat)) (i:Nat),(cI xs)[i]? =(xs[i]?).map fun x=> .int x.1 x.2
 | [],i=>by simp[cI]
 |x::xs,0=>rfl
 |x::xs,i+1=>by simpa[cI] using EX xs i
theorem iK:∀(ls:List (List Nat)) (ts:List Nat),ts.length=ls.length->(bA ls ts).length=ls.length
 | [],[],_=>rfl
 | [],_::_,h=>by simp at h
 |_::_,[],h=>by simp at h
 |l::ls,t::ts,h=>congrArg (·+1) (iK ls ts (by simpa using h))
theorem tV:∀(ls:List (List Nat)) (ts:List Nat) (k:Nat) (l:List Nat),ts.length=ls.length->ls[k]? =some l->∃t,ts[k]? =some t/\(bA ls ts)[k]? =some (sv l t)
 | [],_,_,_,_,h=>by simp at h
 |_::_,[],_,_,h,_=>by simp at h
 |l::ls,t::ts,0,_,_,h=>by simp at h;subst h;exact⟨t,rfl,rfl⟩
 |l::ls,t::ts,k+1,m,h,hk=>by
  obtain⟨u,h1,h2⟩:=tV ls ts k m (by simpa using h) (by simpa using hk);exact⟨u,by simpa using h1,by simpa[bA] using h2⟩
theorem PN:∀(ls:List (List Nat)) (ts:List Nat) (k:Nat) (l:List Nat) (t:Nat),ts.length=ls.length->(bA ls ts).set k (sv l t)=bA (ls.set k l) (ts.set k t)
 | [],[],k,_,_,_=>rfl
 | [],_::_,_,_,_,h=>by simp at h
 |_::_,[],_,_,_,h=>by simp at h
 |l::ls,t::ts,0,_,_,_=>rfl
 |l::ls,t::ts,k+1,m,u,h=>by
  show sv l t::(bA ls ts).set k (sv m u)=sv l t::bA (ls.set k m) (ts.set k u);rw[PN ls ts k m u (by simpa using h)]
theorem PO:∀(ns ts:List Nat) (n t:Nat),ts.length=ns.length->pJ ns ts++[.int (Int.ofNat n) t]=pJ (ns++[n]) (ts++[t])
 | [],[],_,_,_=>rfl
 | [],_::_,_,_,h=>by simp at h
 |_::_,[],_,_,h=>by simp at h
 |a::ns,b::ts,n,t,h=>congrArg (_::·) (PO ns ts n t (by simpa using h))
theorem PP:∀(ns ts:List Nat),ts.length=ns.length->(pJ ns ts).length=ns.length
 | [],[],_=>rfl
 | [],_::_,h=>by simp at h
 |_::_,[],h=>by simp at h
 |_::ns,_::ts,h=>congrArg (·+1) (PP ns ts (by simpa using h))
structure PQ(s:Shared)(i j r ep:Nat)(row ts:List Nat):Prop where
 le:ep<=row.length
 up:row.length<=ep+(i+3 - j) / 4
 two:ep<=2
 tl:ts.length=row.length
 tk:∀t∈ts,1335<=t
 obj:s.heap.get? r=some (aA (pJ row ts) (row.length - ep))
structure jF(w:World)(s₀ s:Shared)(loc ln rw it e sc:Nat)(rr er:List Nat)(xs:List (Int×Nat))(i:Nat)(ls rs:List (List Nat)):Prop where
 ext:aJ ([loc,ln,it,e]++rr) s₀ s
 hloc:∃τ D,(∀j,1335<=τ j)/\s.heap.get? loc=some D/\((i=0/\D=nE w.params τ sc ln rw)\/∃x tx,0<i/\xs[i - 1]? =some (x,tx)/\D=qP w.params τ sc ln rw (i - 1) x tx (vN x))
 hln:∃ts,ts.length=ls.length/\(∀t∈ts,1335<=t)/\s.heap.get? ln=some (aA (bA ls ts) 0)
 hrw:s.heap.get? rw=some (aA (rr.map .ref) 0)
 hrows:∀j,j<4->∃r row ep ts,rr[j]? =some r/\rs[j]? =some row/\er[j]? =some ep/\PQ s i j r ep row ts
 l4:ls.length=4
 r4:rs.length=4
 lsz:∀l∈ls,l.length<=10+10*i
noncomputable def tW(xs:List (Int×Nat))(i:Nat):Value:=match i with
 |0=> .none
 |i+1=>match xs[i]? with
  |some x=> .int x.1 x.2
  |none=> .none
theorem aE2 {x:Int}(h:xs[i]? =some (x,tx)):tW xs (i+1)= .int x tx:=by
 show (match xs[i]? with |some x=>Value.int x.1 x.2 |none=> .none)=_;rw[h]
theorem aE3:bR jS= .Tuple (yL (bR jS)) (KE (bR jS)) (bR jS).pos:=by kernel_rfl
theorem aE4(v:Nat):(jE v).length<=10:=by
 unfold jE;rw[List.length_append];exact Nat.add_le_add (EU _) (EW (tU _))
theorem PS(f0:Value)(it k:Nat)(old:Value):iS f0 it k old={cls:= .type "enumerate",dict:=none,data:= .fields #[f0,.bool false,.ref it,rawInt (Int.ofNat k),.none,old],slots:= #[]}:=by
 unfold iS;rw[<-SL.e14340494229221121180x9];rfl
theorem arA {l:Nat}(h:l<=ep+(i+3 - j) / 4)(h2:ep<=2):l<=2+i:=
 Nat.le_trans h (Nat.add_le_add h2 (Nat.le_of_lt_succ (Nat.div_lt_of_lt_mul (Nat.lt_of_le_of_lt (Nat.sub_le _ _) (Nat.add_le_add_right (Nat.le_mul_of_pos_left i (by decide:0<4)) 4)))))
theorem PT(i k:Nat):(i+k - i % 4) / 4=k / 4+i / 4:=by
 rw[show i+k - i % 4=k+4*(i / 4) from Nat.sub_eq_of_eq_add (by rw[Nat.add_assoc,Nat.div_add_mod,Nat.add_comm])];exact Nat.add_mul_div_left _ _ dT
theorem PU(i:Nat):(i+1+3 - i % 4) / 4=(i+3 - i % 4) / 4+1:=(PT i 4).trans (by rw[PT i 3,Nat.add_right_comm])
section
variable {l:Nat}
theorem arB (h:l<=ep+(i+3 - i % 4) / 4):l+1<=ep+(i+1+3 - i % 4) / 4:=by
 rw[PU];exact Nat.succ_le_succ h
theorem arC (j:Nat)(h:l<=ep+(i+3 - j) / 4):l<=ep+(i+1+3 - j) / 4:=Nat.le_trans h (Nat.add_le_add_left (Nat.div_le_div_right (Nat.sub_le_sub_right (Nat.add_le_add_right (Nat.le_succ i) 3) j)) ep)
theorem arF (h:l<=10+10*i)(hk:k<=10):l+k<=10+10*(i+1):=show l+k<=(10+10*i)+10 from Nat.add_le_add h hk
theorem arG (h:l<=10+10*i):l<=10+10*(i+1):=Nat.le_trans h (Nat.le_add_right _ 10)
theorem arH (h:l<=10+10*i)(h1:i<n)(h2:n<=24):l<=1000:=Nat.le_trans h (Nat.le_trans (Nat.add_le_add_left (Nat.mul_le_mul_left 10 (Nat.le_trans (Nat.le_of_lt h1) h2)) 10) dT)
theorem arI (h:l<=2+i)(h1:i<n)(h2:n<=24):l<=1000:=Nat.le_trans h (Nat.le_trans (Nat.add_le_add_left (Nat.le_trans (Nat.le_of_lt h1) h2) 2) dT)
end
section
variable{w:World}{s₀ s s₁:Shared}{loc ln rw it e sc i:Nat}{rr er:List Nat}{xs:List (Int×Nat)}{ls rs:List (List Nat)}
theorem jF.move(I:jF w s₀ s loc ln rw it e sc rr er xs i ls rs)(X:aJ [e,it] s s₁)(nd:∀y∈loc::ln::rw::rr,y∉[e,it]):jF w s₀ s₁ loc ln rw it e sc rr er xs i ls rs where
 ext:=jO I.ext (X.mono (aB (.tail _ (.tail _ (.tail _ (.head _)))) (aD (.tail _ (.tail _ (.head _))))))
 hloc:=by
  obtain⟨τ,D,b1,b2,b3⟩:=I.hloc;exact⟨τ,D,b1,X.frame _ _ b2 (nd _ (.head _)),b3⟩
 hln:=by
  obtain⟨ts,c1,c2,c3⟩:=I.hln;exact⟨ts,c1,c2,X.frame _ _ c3 (nd _ (.tail _ (.head _)))⟩
 hrw:=X.frame _ _ I.hrw (nd _ (.tail _ (.tail _ (.head _))))
 hrows j hj:=by
  obtain⟨r,row,ep,ts,d1,d2,d3,d⟩:=I.hrows j hj;exact⟨r,row,ep,ts,d1,d2,d3,d.1,d.2,d.3,d.4,d.5,X.frame _ _ d.6 (nd _ (.tail _ (.tail _ (.tail _ (List.mem_of_getElem? d1)))))⟩
 l4:=I.l4
 r4:=I.r4
 lsz:=I.lsz
theorem jF.turn {x:Int}(I:jF w s₀ s loc ln rw it e sc rr er xs i ls rs)(hx:xs[i]? =some (x,tx))(hi:i<xs.length)(fD:xs.length<=24)(ht:1335<=t)(hta:s.heap.get? a=some (aK [.int (Int.ofNat i) t,.int x tx]))(ha₀:s₀.heap.objs.size<=a)(nd:[loc,ln,rw,a].Nodup)(ndr:rr.Nodup)(hrr:rr.length=4)(dj:∀r∈rr,r∉[loc,ln,rw,a])(lo:∀y∈loc::ln::rw::a::rr,817<=y)(B:aT w s)(hd:frameCount bl<=380)(hc:∀px s₃,jF w s₀ s₃ loc ln rw it e sc rr er xs (i+1) (ls.set (i % 4) (ls.getD (i % 4) []++jE (vN x))) (rs.set (i % 4) (rs.getD (i % 4) []++[eC (vN x)]))->aJ (loc::ln::a::rr) s s₃->wpCode (model PR w) ⟨eP loc e,none,none,bl,none⟩ R px s₃):
  ∃r s',Runs (model PR w) ⟨eP loc e,none,none,bl,none⟩ p (wI loc e a) [] s (.ret r) s'/\R r s':=by
 have k4:i % 4<4:=Nat.mod_lt _ dT;obtain⟨r,row,ep,tr,d1,d2,d3,d⟩:=I.hrows (i % 4) k4;obtain⟨τ,D,b1,b2,b3⟩:=I.hloc;obtain⟨ts,c1,c2,c3⟩:=I.hln;have hrm:=List.mem_of_getElem? d1;have nd5:[loc,ln,rw,r,a].Nodup:=bO (List.nodup_cons.mpr ⟨dj r hrm,nd⟩) [1,2,3,0,4] rfl
 have hl:ls[i % 4]? =some (ls.getD (i % 4) []):=by
  rw[List.getD_eq_getElem?_getD,List.getElem?_eq_getElem (by rw[I.l4];exact k4)];rfl
 obtain⟨u4,u1,u2⟩:=tV ls ts (i % 4) _ c1 hl;have er:rs.getD (i % 4) []=row:=by rw[List.getD_eq_getElem?_getD,d2];rfl
 rw[er] at hc
 refine aDv (τ:=τ) (D0:=D) (sc:=sc) ?_ (aE1 x) u2 (by rw[List.getElem?_map,d1];rfl) (arH (I.lsz _ (List.mem_of_getElem? hl)) hi fD) (by rw[iK ls ts c1,I.l4]) (by rw[PP row tr d.tl];exact arI (arA d.up d.two) hi fD) b1 ht B
  ⟨b2,c3,I.hrw,d.obj,hta,trivial⟩ nd5 (aB (lo _ (.head _)) (aB (lo _ (.tail _ (.head _))) (aB (lo _ (.tail _ (.tail _ (.head _)))) (aB (lo _ (.tail _ (.tail _ (.tail _ (.tail _ hrm))))) (aD (lo _ (.tail _ (.tail _ (.tail _ (.head _)))))))))) hd fun px s₃ τ' t1 t2 g1 g2 g3 X₃ at₃=> ?_
 ·rcases b3 with⟨_,h⟩ |⟨x',tx',_,_,h⟩
  ·exact .inl h
  ·exact .inr ⟨_,_,_,_,_,h⟩
 have Y:aJ [loc,ln,r,a] s s₃:=X₃.drop1 (aB (.inl (.head _)) (aB (.inl (.tail _ (.head _))) (aB (.inr (.inr ⟨_,I.hrw,at₃.2.2.1⟩)) (aB (.inl (.tail _ (.tail _ (.head _)))) (aD (.inl (.tail _ (.tail _ (.tail _ (.head _))))))))));refine hc px s₃ ⟨(I.ext.trans Y).less fun y hy=> ?_,⟨τ',_,g1,at₃.1,.inr ⟨x,tx,Nat.succ_pos _,hx,rfl⟩⟩,⟨ts.set (i % 4) t1,?_,fun t' h'=> ?_,?_⟩,at₃.2.2.1,fun j hj=> ?_,?_,?_,fun l hl'=> ?_⟩ (Y.mono (aB (.head _) (aB (.tail _ (.head _)) (aB (.tail _ (.tail _ (.tail _ hrm))) (aD (.tail _ (.tail _ (.head _))))))))
 ·rcases List.mem_append.mp hy with q |q
  ·exact .inl q
  ·exact aB (Q:=fun y=>y∈[loc,ln,it,e]++rr\/s₀.heap.objs.size<=y) (.inl (.head _)) (aB (.inl (.tail _ (.head _))) (aB (.inl (List.mem_append_right _ hrm)) (aD (.inr ha₀)))) y q
 ·rw[List.length_set,List.length_set];exact c1
 ·rcases List.mem_or_eq_of_mem_set h' with h |h
  ·exact c2 t' h
  ·rw[h];exact g2
 ·rw[<-PN ls ts (i % 4) _ t1 c1];exact at₃.2.1
 ·by_cases hjk:j=i % 4
  ·rw[hjk]
   refine⟨r,row++[eC (vN x)],ep,tr++[t2],d1,List.getElem?_set_self (by rw[I.r4];exact k4),d3,?_,?_,d.two,?_,fun t' h'=> ?_,?_⟩
   ·rw[List.length_append];exact Nat.le_trans d.le (Nat.le_add_right _ _)
   ·rw[List.length_append];exact arB d.up
   ·rw[List.length_append,List.length_append,d.tl];rfl
   ·rcases List.mem_append.mp h' with h |h
    ·exact d.tk t' h
    ·exact aD (Q:=(1335<=·)) g3 t' h
   ·rw[<-PO row tr _ _ d.tl,List.length_append,show row.length+[eC (vN x)].length - ep=row.length - ep+1 from Nat.sub_add_comm d.le]
    exact at₃.2.2.2.1
  ·obtain⟨r',row',ep',tr',o1,o2,o3,o⟩:=I.hrows j hj
   have hrm':=List.mem_of_getElem? o1
   have hne:r'≠r:=fun h=>hjk (by
    rw[h] at o1;have h1:j<rr.length:=by rw[hrr];exact hj
    have h2:i % 4<rr.length:=by rw[hrr];exact k4
    rw[List.getElem?_eq_getElem h1] at o1;rw[List.getElem?_eq_getElem h2] at d1;exact(List.getElem_inj ndr).mp ((Option.some.inj o1).trans (Option.some.inj d1).symm))
   have z:=dj r' hrm'
   exact⟨r',row',ep',tr',o1,by rw[List.getElem?_set_ne (Ne.symm hjk)];exact o2,o3,o.le,arC j o.up,o.two,o.tl,o.tk,Y.frame r' _ o.obj fun q=>by
    cases q with
    |head=>exact z (.head _)
    |tail _ q=>cases q with
     |head=>exact z (.tail _ (.head _))
     |tail _ q=>cases q with
      |head=>exact hne rfl
      |tail _ q=>cases q with
       |head=>exact z (.tail _ (.tail _ (.tail _ (.head _))))
       |tail _ q=>cases q⟩
 ·rw[List.length_set];exact I.l4
 ·rw[List.length_set];exact I.r4
 ·rcases List.mem_or_eq_of_mem_set hl' with h |h
  ·exact arG (I.lsz l h)
  ·rw[h,List.length_append];exact arF (I.lsz _ (List.mem_of_getElem? hl)) (aE4 (vN x))
end
section
variable{w:World}{bl:List (Code×Pos)}{R:Result->Shared->Prop}
theorem aE5 {rr er:List Nat}{Rf:List (List Nat)}(hRe:∀x s,¬R (.error x) s)(nd:[loc,ln,rw,sl,it,e].Nodup)(ndr:rr.Nodup)(hrr:rr.length=4)(dj:∀r∈rr,r∉[loc,ln,rw,sl,it,e])(lo:∀x∈[loc,ln,rw,sl,it,e],817<=x)(lor:∀x∈rr,817<=x)(fD:xs.length<=24)(hd:frameCount bl<=380)(B₀:aT w s₀)(hR:∀s',jF w s₀ s' loc ln rw it e sc rr er xs xs.length Lf Rf->s'.heap.get? sl=some (aA (cI xs) 0)->s'.heap.get? it=some (litE xs.length)->s'.heap.get? e=some (iS .none it xs.length (tW xs xs.length))->R (.ok .next) s'):
  ∀(m i:Nat) (s:Shared) (ls rs:List (List Nat)) (old:Value) (p:Pos),old=tW xs i->xs.length - i=m->i<=xs.length->jF w s₀ s loc ln rw it e sc rr er xs i ls rs->
   s.heap.get? sl=some (aA (cI xs) 0)->s.heap.get? it=some (aO sl i)->s.heap.get? e=some (iS .none it i old)->lY i ((xs.drop i).map (·.1)) ls=Lf->jU i ((xs.drop i).map (·.1)) rs=Rf->
   wpCode (model PR w) ⟨eP loc e,none,none,bl,none⟩ R p s:=by
 have ne:∀i j,pk 0 6 [i,j]=true->[loc,ln,rw,sl,it,e].getD i 0≠[loc,ln,rw,sl,it,e].getD j 0:=iI nd
 have lom:∀a∈[loc,ln,it,e]++rr,817<=a:=fun a ha=>(List.mem_append.mp ha).elim
  (aB (Q:=(817<=·)) (lo _ (.head _)) (aB (lo _ (.tail _ (.head _))) (aB (lo _ (.tail _ (.tail _ (.tail _ (.tail _ (.head _)))))) (aD (lo _ (.tail _ (.tail _ (.tail _ (.tail _ (.tail _ (.head _)))))))))) a) (lor a)
 have lo3:∀x∈[e,it,sl],817<=x:=aB (lom _ (.tail _ (.tail _ (.tail _ (.head _))))) (aB (lom _ (.tail _ (.tail _ (.head _)))) (aD (lo _ (.tail _ (.tail _ (.tail _ (.head _)))))));have nd3:[e,it,sl].Nodup:=bO nd [5,4,3] rfl
 have n2:∀{a b y:Nat},y≠a->y≠b->y∉[a,b]:=fun h1 h2 q=>by
  cases q with
  |head=>exact h1 rfl
  |tail _ q=>cases q with
   |head=>exact h2 rfl
   |tail _ q=>cases q
 have mv:∀y∈loc::ln::rw::rr,y∉[e,it]:=aB (n2 (ne 0 5 rfl) (ne 0 4 rfl)) (aB (n2 (ne 1 5 rfl) (ne 1 4 rfl)) (aB (n2 (ne 2 5 rfl) (ne 2 4 rfl)) fun r hr=>n2 (fun h=>dj r hr (by rw[h];simp)) (fun h=>dj r hr (by rw[h];simp))));have d2:∀{s s':Shared},aJ [e,it,sl] s s'->s.heap.get? sl=some (aA (cI xs) 0)->s'.heap.get? sl=some (aA (cI xs) 0)->aJ [e,it] s s':=fun X h h'=>X.drop1 (aB (.inl (.head _)) (aB (.inl (.tail _ (.head _))) (aD (.inr (.inr ⟨_,h,h'⟩)))));intro m;induction m with
 |zero=>
  intro i s ls rs old p ho hm hi I hsl hit he hL hRr;cases vZ hm hi;rw[List.drop_length] at hL hRr;cases (show ls=Lf from hL);cases (show rs=Rf from hRr);refine tR hRe fun p'=> ?_
  refine ED (P:=fun s'=>aJ [e,it] s s'/\s'.heap.get? sl=some (aA (cI xs) 0)/\s'.heap.get? it=some (litE xs.length)/\s'.heap.get? e=some (iS .none it xs.length old)) (bL
   (fun ad tb=>aE0 w s.gens.size ad tb bl p' loc e it sl xs.length 0 .none old (cI xs)) (aD (oA (by rw[EX];simp) dT dT dT)) (B₀.ext I.ext lom) ⟨he,hit,hsl,trivial⟩ rfl nd3 lo3 hd
   fun ad tb s' Q=>⟨rfl,d2 Q.ext hsl (Q.at_ 2 2 _ rfl rfl),Q.at_ 2 2 _ rfl rfl,Q.at_ 1 1 _ rfl rfl,Q.at_ 0 0 _ rfl rfl⟩) fun p₁ s₁ F=> ?_
  have I₁:=I.move F.1 mv
  exact cT (fun ad tb=>aDy w s₁.gens.size ad tb bl p₁ loc) aE (B₀.ext I₁.ext lom) trivial rfl List.nodup_nil aE hd dT fun ad tb s₂ Q=>by
   have fr₂:∀{y:Nat} {o},s₁.heap.get? y=some o->s₂.heap.get? y=some o:=fun hy=>Q.ext.frame _ _ hy (fun q=>nomatch q);exact hR s₂ (I₁.move (Q.ext.mono fun u q=>nomatch q) mv) (fr₂ F.2.1) (fr₂ F.2.2.1) (by rw[<-ho];exact fr₂ F.2.2.2)
 |succ m ih=>
  intro i s ls rs old p ho hm hi I hsl hit he hL hRr;obtain⟨hlt,hm',hi'⟩:=vY hm;rw[List.drop_eq_getElem_cons hlt] at hL hRr;have hxi:xs[i]? =some xs[i]:=List.getElem?_eq_getElem hlt;generalize xs[i]=q at hL hRr hxi;obtain⟨x,tx⟩:=q;refine tR hRe fun p'=> ?_
  let N:Nat->Shared->Prop:=fun a s'=>s.heap.objs.size<=a/\a<s'.heap.objs.size/\aJ [e,it] s s'/\s'.heap.get? sl=some (aA (cI xs) 0)/\s'.heap.get? it=some (aO sl (i+1))/\s'.heap.get? e=some (iS (.int (Int.ofNat a) 0) it (i+1) (.int x tx))/\
   ∃t,1335<=t/\s'.heap.get? a=some (aK [.int (Int.ofNat i) t,.int x tx])
  refine EE (P:=fun zv s'=>∃a:Nat,zv= .ref a/\N a s') (bL
   (fun ad tb=>aDz w s.gens.size ad tb bl p' loc e it sl i 0 (.int x tx) old (cI xs)) (aD (kP (by rw[EX,hxi];rfl) dT dT dT)) (B₀.ext I.ext lom) ⟨he,hit,hsl,trivial⟩ rfl nd3 lo3 hd
   fun ad tb s' Q=>⟨_,rfl,ad 3+817,rfl,(Q.new 3 (by show 3<=3;decide) (by show 3<4;decide)).1,(Q.new 3 (by show 3<=3;decide) (by show 3<4;decide)).2,d2 Q.ext hsl (Q.at_ 2 2 _ rfl rfl),Q.at_ 2 2 _ rfl rfl,Q.at_ 1 1 _ rfl rfl,Q.at_ 0 0 _ rfl rfl,_,bB tb 0,Q.at_ 3 3 _ rfl rfl⟩) fun u p₁ s₁ q=> ?_
  obtain⟨a,rfl,F⟩:=q;have he₁:=F.2.2.2.2.2.1
  have hin:PySem.Ctx.In ⟨eP loc e,none,none,bl,none⟩ ⟨none,frameCount bl+(eP loc e).weight,none,none,PySem.Ctx.units ⟨eP loc e,none,none,bl,none⟩⟩:=
   ⟨rfl,Nat.le_refl _,fun u q=>(nomatch q),fun u q=>(nomatch q),Nat.le_refl _⟩
  have hf:=aE3;rw[PS] at he₁
  have lg:=wpAny_letOwnedTupleGo_enum (prog:=PR) (w:=w) (A:=⟨none,frameCount bl+(eP loc e).weight,none,none,PySem.Ctx.units ⟨eP loc e,none,none,bl,none⟩⟩) (E:=fun u u=>False) (s:=s₁) (elts:=yL (bR jS)) (x1:=KE (bR jS)) (pos:=(bR jS).pos) (e:=e) (it:=it) (a:=a)
   (i:=Int.ofNat (i+1)) (item:= .int x tx) (Q:=fun u s₂=>∃h',s₂={s₁ with heap:=h'}/\h'.get? e=some (iS .none it (i+1) (.int x tx))/\Heap.SameBut e s₁.heap h') he₁ fun h' e1 e2=>⟨h',rfl,by rw[PS];exact e1,e2⟩
  rw[<-hf] at lg;refine Sem.wp_mono _ _ _ (fun u p₂ s₂ q=> ?_) (fun u u u q=>q) _ _ (lg _ p₁ hin);obtain⟨h',rfl,he₂,hsb⟩:=q;have la:∀{y:Nat} {o},s.heap.get? y=some o->y≠a:=fun hy h=>absurd (Nat.lt_of_lt_of_le (Heap.lt_size hy) F.1) (by rw[h];exact Nat.lt_irrefl _);have X₂:aJ [e,it] s {s₁ with heap:=h'}:=jO F.2.2.1 ⟨fun y o hy hm=>(hsb.2 y fun q=>hm (by rw[q];exact .head _)).trans hy,by show _<=h'.objs.size;rw[hsb.1];exact Nat.le_refl _,Nat.le_refl _,rfl,rfl,rfl⟩;have I₂:=I.move X₂ mv;obtain⟨_,_,_,b2,_⟩:=I.hloc;obtain⟨_,_,_,c2⟩:=I.hln;obtain⟨t,ht,hta⟩:=F.2.2.2.2.2.2
  have hn:∀y∈loc::ln::rw::rr,y≠a:=aB (la b2) (aB (la c2) (aB (la I.hrw) fun r hr=>by
   obtain⟨j,hj,e⟩:=List.getElem_of_mem hr;obtain⟨r',_,_,_,d1,_,_,d⟩:=I.hrows j (by rw[<-hrr];exact hj);rw[List.getElem?_eq_getElem hj,e] at d1;cases d1;exact la d.obj))
  have nd4:[loc,ln,rw,a].Nodup:=by
   have z:=bO nd [0,1,2] rfl;have z:([loc,ln,rw]++[a]).Nodup:=List.nodup_append.mpr ⟨z,by simp,fun y hy b hb=>by rw[List.mem_singleton.mp hb];exact hn y (List.mem_append_left rr hy)⟩;exact z
  refine I₂.turn hxi hlt fD ht ((hsb.2 a (Ne.symm (la he))).trans hta) (Nat.le_trans I.ext.size F.1) nd4 ndr hrr (fun r hr q=> ?_) ?_ (B₀.ext I₂.ext lom) hd fun px s₃ I₃ Y=> ?_
  ·rcases List.mem_append.mp (show r∈[loc,ln,rw]++[a] from q) with q |q
   ·exact dj r hr (List.mem_append_left [sl,it,e] q)
   ·exact hn r (.tail _ (.tail _ (.tail _ hr))) (List.mem_singleton.mp q)
  ·exact aB (lo _ (.head _)) (aB (lo _ (.tail _ (.head _))) (aB (lo _ (.tail _ (.tail _ (.head _)))) (aB (Nat.le_trans (B₀.ext I.ext lom).sz F.1) lor)))
  ·have out:∀{y:Nat},y≠loc->y≠ln->y≠a->y∉rr->y∉loc::ln::a::rr:=fun h1 h2 h3 h4 q=>by
    cases q with
    |head=>exact h1 rfl
    |tail _ q=>cases q with
     |head=>exact h2 rfl
     |tail _ q=>cases q with
      |head=>exact h3 rfl
      |tail _ q=>exact h4 q
   refine ih (i+1) s₃ _ _ (.int x tx) px (aE2 hxi).symm hm' hi' I₃ ?_ ?_ ?_ hL hRr
   ·exact Y.frame sl _ (X₂.frame sl _ hsl (n2 (ne 3 5 rfl) (ne 3 4 rfl))) (out (ne 3 0 rfl) (ne 3 1 rfl) (la hsl) fun q=>dj sl q (.tail _ (.tail _ (.tail _ (.head _)))))
   ·exact Y.frame it _ ((hsb.2 it (ne 4 5 rfl)).trans F.2.2.2.2.1) (out (ne 4 0 rfl) (ne 4 1 rfl) (la hit) fun q=>dj it q (.tail _ (.tail _ (.tail _ (.tail _ (.head _))))))
   ·exact Y.frame e _ he₂ (out (ne 5 0 rfl) (ne 5 1 rfl) (la he) fun q=>dj e q (.tail _ (.tail _ (.tail _ (.tail _ (.tail _ (.head _)))))))
end
end
theorem aE6(l u:Value):iQ l u={cls:= .type "slice",dict:=none,data:= .fields #[l,u,.none],slots:= #[]}:=by
 unfold iQ;rw[<-SL.e4674234679698826739x5]
theorem aE7(l sl:Addr)(vs:List Value)(ep:Nat)(b:Int)(t:Tok)(n:Nat)(hb:b=(n:Int))(hsz:vs.length<=sizeLine):
  Meets (Builtin.«list.__getitem__» ⟨[.ref l,.ref sl],[]⟩) (fun u R s=>(s.heap.get? l=some (aA vs ep)/\s.heap.get? sl=some (iQ .none (.int b t)))/\R (.ok (.ret (.ref s.heap.objs.size))) {s with heap:=s.heap.push (aA (vs.take n) 0)}):=
 fun prog w A R s h=>by
 obtain⟨⟨ho,hs⟩,h⟩:=h;rw[aE6] at hs;have hTs:s.TypeIs (.ref sl) "slice":=⟨_,hs,rfl⟩;have hds:(Obj.mk (.type "slice") none (.fields #[Value.none,.int b t,.none]) #[]).data= .fields #[.none,.int b t,.none]:=rfl;have hd:(aA vs ep).data= .seq ⟨vs⟩ ep:=rfl;show wpAny _ _ (Builtin.List.listSubscript? (.ref sl)>>= _) _ _ s;refine wpAny_bind ?_;unfold Builtin.List.listSubscript?;refine wpAny_bind (wpAny_specialOf hTs slice_no_index ?_);simp only[Option.isNone_none,if_true];refine wpAny_pure ?_;show wpAny _ _ (typeOf (.ref sl)>>= _) _ _ s;refine wpAny_bind (wpAny_typeOf hTs ?_);rw[if_neg dT];rw[listSliceParts_eq];refine wpAny_bind (wpAny_bind (wpAny_field hs hds (x:= .none) rfl (wpAny_bind (wpAny_listPart .none ?_))));rw[if_neg (show ¬((rawPart none == rawInt 0)=true) from Bool.false_ne_true)];refine wpAny_bind (wpAny_field hs hds (x:= .none) rfl (wpAny_bind (wpAny_listPart .none ?_)));refine wpAny_bind (wpAny_field hs hds (x:= .int b t) rfl (wpAny_bind (wpAny_listPart (.int b t) (wpAny_pure ?_))));refine wpAny_bind (m:=Builtin.List.listItems (.ref l)) ?_;unfold Builtin.List.listItems;refine wpAny_bind (wpAny_seqItems ho hd (wpAny_pure ?_));refine wpAny_bind (wpAny_of_eq (sliceIndices_raw none (some b) none (⟨vs⟩:Array Value).size (by simp)) ?_);have e:slicePick ⟨vs⟩ none (some b) none=⟨vs.take n⟩:=by rw[hb,slicePick_upto']
 rw[show aA (vs.take n) 0={cls:= .type "list",dict:=none,data:= .seq ⟨vs.take n⟩ 0,slots:= #[]} from iZ _ _,<-e] at h;exact wpAny_bind (wpAny_newObj_type (wpAny_pure h) (Nat.le_trans (slicePick_size_le _ _ _ _) hsz))
noncomputable def EY(us:List Value)(j js:Nat)(vs:List Value)(ep:Nat)(t:TR)(m n i:Nat):HF:=fun A K=>
 ⟨.builtin zC ⟨[.ref (A j),.ref (A js)],[]⟩,[(j,aA vs ep),(js,iQ .none (.int (Int.ofNat m) (t.ev K)))],[],[aA us 0],.ok (.ret (.ref (A n))),0,n,i,900,none⟩
theorem PV {kt:KT}{js:Nat}{t:TR}{m:Nat}{us:List Value}(hus:vs.take m=us)(hsz:vs.length<=sizeLine)(hj:j<n)(hjs:js<n)(ht:t.ok i=true):aG (model prog w) kt (EY us j js vs ep t m n i):=by
 subst hus;refine EJ (B:=Builtin.«list.__getitem__») (by rw[<-DW];exact F.entry_list_getitem) (fun A K=>[.ref (A j),.ref (A js)]) (fun A K=>[(j,aA vs ep),(js,iQ .none (.int (Int.ofNat m) (t.ev K)))]) (fun u u=>aA (vs.take m) 0) n i ?_ ?_ (fun u u u u u u=>rfl) (fun u u=>rfl) fun A K=> ?_
 ·intro A K A' K' a1 a2
  show[Value.ref (A' j),.ref (A' js)]=[Value.ref (A j),.ref (A js)];rw[a1 j hj,a1 js hjs]
 ·intro A K A' K' a1 a2
  show[(j,aA vs ep),(js,iQ .none (.int _ (t.ev K')))]=[(j,aA vs ep),(js,iQ .none (.int _ (t.ev K)))];rw[TR.lcc ht a2]
 ·intro prog w A' R s h
  exact aE7 (A j) (A js) vs ep (Int.ofNat m) (t.ev K) m rfl hsz prog w A' R s ⟨⟨h.1 (j,aA vs ep) (by simp),h.1 (js,iQ .none (.int (Int.ofNat m) (t.ev K))) (by simp)⟩,h.2⟩
section
noncomputable def bH(K:Nat->Nat):Nat->List Nat->List Value
 |_,[]=>[]
 |i,n::ns=> .int (Int.ofNat n) (K i)::bH K (i+1) ns
theorem lF{K K':Nat->Nat}:∀(ns:List Nat) (i:Nat),(∀j,j<ns.length->K' (i+j)=K (i+j))->bH K' i ns=bH K i ns
 | [],_,_=>rfl
 |n::ns,i,h=>by
  unfold bH;rw[show K' i=K i from h 0 (by simp),lF ns (i+1) fun j hj=> ?_];have:=h (j+1) (by simpa using hj);rw[Nat.add_assoc,Nat.add_comm 1 j];exact this
theorem PW{K:Nat->Nat}:∀(ns ts:List Nat) (i:Nat),ts.length=ns.length->(∀j (h:j<ts.length),K (i+j)=ts[j])->bH K i ns=pJ ns ts
 | [],[],_,_,_=>rfl
 | [],_::_,_,h,_=>by simp at h
 |_::_,[],_,h,_=>by simp at h
 |w::ws,t::ts,i,h,hk=>by
  unfold bH pJ;rw[show K i=t from hk 0 (by simp),PW ws ts (i+1) (by simpa using h) fun j hj=> ?_];have:=hk (j+1) (by simpa using hj);rw[Nat.add_assoc,Nat.add_comm 1 j,this];rfl
noncomputable def LB:List (List Nat):=[[66,75],[39,66,75,39,32,39,39],[],[66,34,75,34]]
noncomputable def RB:List (List Nat):=[[26],[26,0],[],[26]]
noncomputable def AD(P:Params)(xs:List (Int×Nat))(o:Option (Int×Nat))(sc ln rw:Nat)(τ:Nat->Nat):Obj:=match o with
 |none=>nE P τ sc ln rw
 |some q=>qP P τ sc ln rw (xs.length - 1) q.1 q.2 (vN q.1)
noncomputable def AE(P:Params)(xs:List (Int×Nat))(Lf:List (List Nat))(R0 R1 R2 R3:List Nat)(o:Option (Int×Nat))(n i:Nat):HF:=
 dP (fun A u=>eP (A 1) (A 11)) [1,2,7,3,4,5,6,9,10,11]
  (fun A K=>[nE P (cO K [0,5,10]) (A 0) (A 2) (A 7),aA (cD K 1 LB) 0,aA [.ref (A 3),.ref (A 4),.ref (A 5),.ref (A 6)] 0,aA (bH K 6 [26]) 0,aA (bH K 7 [26,0]) 0,aA [] 0,aA (bH K 9 [26]) 0,aA (cI xs) 0,aO (A 9) 0,iS .none (A 10) 0 .none])
  (fun A K=>[AD P xs o (A 0) (A 2) (A 7) (fun j=>K (i+36+j)),aA (cD K i Lf) 0,aA [.ref (A 3),.ref (A 4),.ref (A 5),.ref (A 6)] 0,aA (bH K (i+4) R0) (R0.length - 1),aA (bH K (i+12) R1) (R1.length - 2),aA (bH K (i+20) R2) (R2.length - 0),aA (bH K (i+28) R3) (R3.length - 1),
   aA (cI xs) 0,litE xs.length,iS .none (A 10) xs.length (tW xs xs.length)])
  (fun u u=>[]) (fun u u=> .ok .next) 48 n i 380
section
variable (P:Params)(τ τ':Nat->Nat)(sc ln rw:Nat)
theorem aE8 (h:∀j,j<12->τ j=τ' j):nE P τ sc ln rw=nE P τ' sc ln rw:=by
 unfold nE;rw[h 0 dT,h 1 dT,h 2 dT]
theorem aE9 (pl:Nat)(x:Int)(tx v:Nat)(h:∀j,j<12->τ j=τ' j):qP P τ sc ln rw pl x tx v=qP P τ' sc ln rw pl x tx v:=by
 unfold qP tQ;rw[h 0 dT,h 1 dT,h 2 dT,h 3 dT,h 4 dT,h 5 dT,h 6 dT,h 7 dT,h 8 dT,h 9 dT,h 10 dT,h 11 dT]
end
theorem PX(P:Params)(xs:List (Int×Nat))(o:Option (Int×Nat))(τ τ':Nat->Nat)(sc ln rw:Nat)(h:∀j,j<12->τ j=τ' j):AD P xs o sc ln rw τ=AD P xs o sc ln rw τ':=by
 cases o with
 |none=>exact aE8 P τ τ' sc ln rw h
 |some q=>exact aE9 P τ τ' sc ln rw _ _ _ _ h
theorem EZ:∀(xs:List Int) (i:Nat) (ls:List (List Nat)),(lY i xs ls).length=ls.length
 | [],_,_=>rfl
 |x::xs,i,ls=>by
  unfold lY;rw[EZ xs (i+1)];simp
theorem PY:∀(xs:List Int) (i:Nat) (rs:List (List Nat)),rs.length=4->(jU i xs rs).length=4/\∀j,j<4->((jU i xs rs).getD j []).length+(i+3 - j) / 4<=(rs.getD j []).length+(i+xs.length+3 - j) / 4
 | [],i,rs,h=>⟨h,fun j hj=>Nat.le_refl _⟩
 |x::xs,i,rs,h=>by
  have k4:i % 4<4:=Nat.mod_lt _ dT;obtain⟨h1,h2⟩:=PY xs (i+1) (rs.set (i % 4) (rs.getD (i % 4) []++[eC (vN x)])) (by simpa using h);refine⟨h1,fun j hj=> ?_⟩;have z:=h2 j hj;show ((jU (i+1) xs (rs.set (i % 4) (rs.getD (i % 4) []++[eC (vN x)]))).getD j []).length+(i+3 - j) / 4<=_;have hl:(x::xs).length=xs.length+1:=rfl;rw[hl,show i+(xs.length+1)=i+1+xs.length from Nat.add_right_comm i xs.length 1]
  by_cases hjk:j=i % 4
  ·have e:(rs.set (i % 4) (rs.getD (i % 4) []++[eC (vN x)])).getD j []=rs.getD j []++[eC (vN x)]:=by
    rw[hjk,List.getD_eq_getElem?_getD,List.getElem?_set_self (by rw[h];exact k4)];rfl
   rw[e,List.length_append,hjk,PU,Nat.add_right_comm] at z;rw[hjk];exact Nat.le_of_succ_le_succ z
  ·have e:(rs.set (i % 4) (rs.getD (i % 4) []++[eC (vN x)])).getD j []=rs.getD j []:=by
    rw[List.getD_eq_getElem?_getD,List.getElem?_set_ne (Ne.symm hjk),<-List.getD_eq_getElem?_getD]
   rw[e] at z;exact Nat.le_trans (Nat.add_le_add_left (Nat.div_le_div_right (Nat.sub_le_sub_right (Nat.le_succ _) _)) _) z
theorem tX {Rf:List (List Nat)}(fD:xs.length<=24)(hR:jU 0 (xs.map (·.1)) RB=Rf)(j:Nat)(hj:j<4):(Rf.getD j []).length<=8:=by
 have h:=(PY (xs.map (·.1)) 0 RB rfl).2 j hj;rw[hR,List.length_map] at h;have h2:(RB.getD j []).length<=2:=(by decide:∀j,j<4->(RB.getD j []).length<=2) j hj;exact Nat.le_trans (Nat.le_trans (Nat.le_add_right _ _) h) (Nat.add_le_add h2 (Nat.div_le_div_right (c:=4) (show 0+xs.length+3 - j<=27 from Nat.le_trans (Nat.sub_le _ _) (Nat.add_le_add_right (by rw[Nat.zero_add];exact fD) 3))))
noncomputable def gB(ts:List Nat)(ys:Nat->List Nat)(τ:Nat->Nat)(j:Nat):Nat:=if j<4 then ts.getD j 1335 else if j<36 then(ys ((j - 4) / 8)).getD ((j - 4) % 8) 1335 else τ (j - 36)
noncomputable def yB(y0 y1 y2 y3:List Nat):Nat->List Nat
 |0=>y0
 |1=>y1
 |2=>y2
 |_=>y3
theorem PZ {l:List Nat}(h:∀t∈l,1335<=t):1335<=l.getD j 1335:=by
 rw[List.getD_eq_getElem?_getD];cases q:l[j]? with
 |none=>exact Nat.le_refl _
 |some t=>exact h t (List.mem_of_getElem? q)
theorem QA {l:List Nat}(h:j<l.length):l.getD j 1335=l[j]:=by
 rw[List.getD_eq_getElem?_getD,List.getElem?_eq_getElem h];rfl
section
variable{K:Nat->Nat}{i:Nat}{ts:List Nat}{ys:Nat->List Nat}{τ:Nat->Nat}
theorem aEa(h1:∀t∈ts,1335<=t)(h2:∀k,∀t∈ys k,1335<=t)(h3:∀j,1335<=τ j)(j:Nat):1335<=gB ts ys τ j:=by
 unfold gB;split
 ·exact PZ h1
 ·split
  ·exact PZ (h2 _)
  ·exact h3 _
theorem aEb{L:List (List Nat)}(h:ts.length=L.length)(h4:L.length=4):cD (upd K i ((List.range 48).map (gB ts ys τ))) i L=bA L ts:=zM L ts i h fun j hj=>by
 rw[rZ (by lia)];unfold gB;rw[if_pos (by lia),QA]
theorem AF(k m:Nat)(hm:4+8*k=m)(R:List Nat)(hk:k<4)(h8:R.length<=8)(h:(ys k).length=R.length):bH (upd K i ((List.range 48).map (gB ts ys τ))) (i+m) R=pJ R (ys k):=PW R (ys k) _ h fun j hj=>by
 subst hm;have h1:(4+8*k+j - 4) / 8=k:=by lia
 have h2:(4+8*k+j - 4) % 8=j:=by lia
 rw[Nat.add_assoc,rZ (by lia)];unfold gB;rw[if_neg (by lia),if_pos (by lia),h1,h2,QA hj]
theorem aEc(j:Nat)(hj:j<12):upd K i ((List.range 48).map (gB ts ys τ)) (i+36+j)=τ j:=by
 rw[Nat.add_assoc,rZ (by lia)];unfold gB;rw[if_neg (by lia),if_neg (by lia),Nat.add_sub_cancel_left]
end
section
variable{w:World}
theorem jF.row {rr er:List Nat}{ls rs:List (List Nat)}(F:jF w s₀ s loc ln rw it e sc rr er xs i ls rs){r:Nat}{row:List Nat}(hj:j<4)(h1:rr[j]? =some r)(h2:rs[j]? =some row)(h3:er[j]? =some ep):∃ts,PQ s i j r ep row ts:=by
 obtain⟨_,_,_,ts,d1,d2,d3,d⟩:=F.hrows j hj;rw[h1] at d1;rw[h2] at d2;rw[h3] at d3;cases d1;cases d2;cases d3;exact⟨ts,d⟩
theorem jF.out (F:jF w s₀ s (A 1) (A 2) (A 7) (A 10) (A 11) (A 0) [A 3,A 4,A 5,A 6] [1,2,0,1] xs xs.length Lf [R0,R1,R2,R3])(h8:∀j,j<4->([R0,R1,R2,R3].getD j []).length<=8)(h1:s.heap.get? (A 9)=some (aA (cI xs) 0))(h2:s.heap.get? (A 10)=some (litE xs.length))(h3:s.heap.get? (A 11)=some (iS .none (A 10) xs.length (tW xs xs.length))):
  ∃lk:List Nat,(∀t∈lk,1335<=t)/\At s [A 1,A 2,A 7,A 3,A 4,A 5,A 6,A 9,A 10,A 11] [AD w.params xs xs.getLast? (A 0) (A 2) (A 7) (fun j=>upd K i lk (i+36+j)),aA (cD (upd K i lk) i Lf) 0,aA [.ref (A 3),.ref (A 4),.ref (A 5),.ref (A 6)] 0,aA (bH (upd K i lk) (i+4) R0) (R0.length - 1),aA (bH (upd K i lk) (i+12) R1) (R1.length - 2),aA (bH (upd K i lk) (i+20) R2) (R2.length - 0),aA (bH (upd K i lk) (i+28) R3) (R3.length - 1),
   aA (cI xs) 0,litE xs.length,iS .none (A 10) xs.length (tW xs xs.length)]:=by
 obtain⟨τ,D,b1,b2,b3⟩:=F.hloc;obtain⟨ts,c1,c2,c3⟩:=F.hln;obtain⟨y0,g⟩:=F.row (j:=0) dT rfl rfl rfl;obtain⟨y1,h⟩:=F.row (j:=1) dT rfl rfl rfl;obtain⟨y2,k⟩:=F.row (j:=2) dT rfl rfl rfl;obtain⟨y3,l⟩:=F.row (j:=3) dT rfl rfl rfl;refine⟨(List.range 48).map (gB ts (yB y0 y1 y2 y3) τ),fun t ht=> ?_,?_,?_,F.hrw,?_,?_,?_,?_,h1,h2,h3,trivial⟩
 ·obtain⟨j,_,rfl⟩:=List.mem_map.mp ht
  refine aEa c2 (fun k'=> ?_) b1 j;unfold yB;split
  ·exact g.tk
  ·exact h.tk
  ·exact k.tk
  ·exact l.tk
 ·rw[b2,PX _ _ _ _ τ _ _ _ fun j hj=>aEc j hj]
  rcases b3 with⟨h,e⟩ |⟨x,tx,h,hx,e⟩
  ·rw[List.length_eq_zero_iff.mp h,e];rfl
  ·rw[List.getLast?_eq_getElem?,hx,e];rfl
 ·rw[aEb c1 F.l4];exact c3
 ·rw[AF (ys:=yB y0 y1 y2 y3) 0 4 rfl R0 dT (h8 0 dT) g.tl];exact g.obj
 ·rw[AF (ys:=yB y0 y1 y2 y3) 1 12 rfl R1 dT (h8 1 dT) h.tl];exact h.obj
 ·rw[AF (ys:=yB y0 y1 y2 y3) 2 20 rfl R2 dT (h8 2 dT) k.tl];exact k.obj
 ·rw[AF (ys:=yB y0 y1 y2 y3) 3 28 rfl R3 dT (h8 3 dT) l.tl];exact l.obj
theorem jF.start (hK:∀j,1335<=K j)(h:At s [A 1,A 2,A 7,A 3,A 4,A 5,A 6] [nE w.params (cO K [0,5,10]) (A 0) (A 2) (A 7),aA (cD K 1 LB) 0,aA [.ref (A 3),.ref (A 4),.ref (A 5),.ref (A 6)] 0,aA (bH K 6 [26]) 0,aA (bH K 7 [26,0]) 0,aA [] 0,aA (bH K 9 [26]) 0]):
  jF w s s (A 1) (A 2) (A 7) (A 10) (A 11) (A 0) [A 3,A 4,A 5,A 6] [1,2,0,1] xs 0 LB RB:=by
 refine⟨(aJ.refl s).mono (fun a h=>nomatch h),⟨_,_,wB hK _,h.1,.inl ⟨rfl,rfl⟩⟩,⟨[K 1,K 2,K 3,K 4],rfl,aB (hK 1) (aB (hK 2) (aB (hK 3) (aD (hK 4)))),h.2.1⟩,h.2.2.1,oY ?_ ?_ ?_ ?_,rfl,rfl,show ∀l∈LB,l.length<=10+10*0 by decide⟩
 ·exact⟨_,_,_,[K 6],rfl,rfl,rfl,by decide,by decide,by decide,rfl,aD (hK 6),h.2.2.2.1⟩
 ·exact⟨_,_,_,[K 7,K 8],rfl,rfl,rfl,by decide,by decide,by decide,rfl,aB (hK 7) (aD (hK 8)),h.2.2.2.2.1⟩
 ·exact⟨_,_,_,[],rfl,rfl,rfl,by decide,by decide,by decide,rfl,aE,h.2.2.2.2.2.1⟩
 ·exact⟨_,_,_,[K 9],rfl,rfl,rfl,by decide,by decide,by decide,rfl,aD (hK 9),h.2.2.2.2.2.2.1⟩
theorem aEd (fD:xs.length<=24)(hL:lY 0 (xs.map (·.1)) LB=Lf)(hR:jU 0 (xs.map (·.1)) RB=[R0,R1,R2,R3])(hn:12<=n)(hi:12<=i):
  aG (model PR w) (aX w.params) (AE w.params xs Lf R0 R1 R2 R3 xs.getLast? n i):=by
 have h8:=tX fD hR;have hn:∀j,j<12->j<n:=fun j hj=>Nat.lt_of_lt_of_le hj hn;refine eN 0 (fun u u=>rfl) ?_ ?_ ?_ (fun u u u u u u=>rfl) (fun u u u u u u=>rfl) (fun u u=>rfl) (fun u u=>rfl) (fun j h=>hn j ((show ∀j∈[1,2,7,3,4,5,6,9,10,11],j<12 by decide) j h)) dT fun A K bl p s hA hK hd B ha nd lo=> ?_
 ·intro A K A' K' a1 a2
  show eP (A' 1) (A' 11)=eP (A 1) (A 11);rw[a1 1 (hn _ dT),a1 11 (hn _ dT)]
 ·intro A K A' K' a1 a2
  have a1:∀j,j<12->A' j=A j:=fun j hj=>a1 j (hn j hj);have a2:∀j,j<12->K' j=K j:=fun j hj=>a2 j (Nat.lt_of_lt_of_le hj hi)
  exact cC (by rw[nY a2 [0,5,10] dT dT,a1 0 dT,a1 2 dT,a1 7 dT]) (cC (by rw[pE LB 1 fun j hj=>a2 _ (by have:LB.length=4:=rfl;lia)]) (cC (by rw[a1 3 dT,a1 4 dT,a1 5 dT,a1 6 dT])
   (cC (by rw[lF [26] 6 fun j hj=>a2 _ (by simp at hj;lia)]) (cC (by rw[lF [26,0] 7 fun j hj=>a2 _ (by simp at hj;lia)]) (cC rfl (cC (by rw[lF [26] 9 fun j hj=>a2 _ (by simp at hj;lia)]) (cC rfl (cC (by rw[a1 9 dT]) (cC (by rw[a1 10 dT]) rfl)))))))))
 ·intro A K A' K' a1 a2
  have a1:∀j,j<12->A' j=A j:=fun j hj=>a1 j (hn j hj);have a2:∀j,j<48->K' (i+j)=K (i+j):=fun j hj=>a2 _ (Nat.add_lt_add_left hj i);have b2:∀m,m<=40->∀j,j<8->K' (i+m+j)=K (i+m+j):=fun m hm j hj=>by rw[Nat.add_assoc];exact a2 _ (by lia)
  exact cC (by rw[a1 0 dT,a1 2 dT,a1 7 dT,PX _ xs _ (fun j=>K' (i+36+j)) (fun j=>K (i+36+j)) _ _ _ fun j hj=>by show K' (i+36+j)=_;rw[Nat.add_assoc];exact a2 _ (by lia)])
   (cC (by rw[pE Lf i fun j hj=>a2 _ (by rw[<-hL,EZ] at hj;have:LB.length=4:=rfl;lia)]) (cC (by rw[a1 3 dT,a1 4 dT,a1 5 dT,a1 6 dT])
   (cC (by rw[lF R0 (i+4) fun j hj=>b2 4 dT j (Nat.lt_of_lt_of_le hj (h8 0 dT))]) (cC (by rw[lF R1 (i+12) fun j hj=>b2 12 dT j (Nat.lt_of_lt_of_le hj (h8 1 dT))]) (cC (by rw[lF R2 (i+20) fun j hj=>b2 20 dT j (Nat.lt_of_lt_of_le hj (h8 2 dT))])
   (cC (by rw[lF R3 (i+28) fun j hj=>b2 28 dT j (Nat.lt_of_lt_of_le hj (h8 3 dT))]) (cC rfl (cC rfl (cC (by rw[a1 10 dT]) rfl)))))))))
 ·have ha:At s [A 1,A 2,A 7,A 3,A 4,A 5,A 6,A 9,A 10,A 11] [nE w.params (cO K [0,5,10]) (A 0) (A 2) (A 7),aA (cD K 1 LB) 0,aA [.ref (A 3),.ref (A 4),.ref (A 5),.ref (A 6)] 0,aA (bH K 6 [26]) 0,aA (bH K 7 [26,0]) 0,aA [] 0,aA (bH K 9 [26]) 0,aA (cI xs) 0,aO (A 9) 0,iS .none (A 10) 0 .none]:=ha
  refine aE5 (s₀:=s) (sl:=A 9) (rr:=[A 3,A 4,A 5,A 6]) (er:=[1,2,0,1]) (xs:=xs) (Lf:=Lf) (Rf:=[R0,R1,R2,R3]) (sc:=A 0) (ln:=A 2) (rw:=A 7) (it:=A 10) (fun x s h=> ?_) (bO nd [0,1,2,7,8,9] rfl) (bO nd [3,4,5,6] rfl) rfl (fun r hr q=> ?_) (zE hA [1,2,7,9,10,11]) (zE hA [3,4,5,6]) fD hd B (fun s' F hsl hit he=> ?_) xs.length 0 s LB RB .none p rfl rfl (Nat.zero_le _)
   (jF.start hK ⟨ha.1,ha.2.1,ha.2.2.1,ha.2.2.2.1,ha.2.2.2.2.1,ha.2.2.2.2.2.1,ha.2.2.2.2.2.2.1,trivial⟩) ha.2.2.2.2.2.2.2.1 ha.2.2.2.2.2.2.2.2.1 ha.2.2.2.2.2.2.2.2.2.1 hL hR
  ·obtain⟨_,_,_,_,_,_,_,_,_,h⟩:=h
   cases h
  ·exact(List.nodup_append.mp (show ([A 3,A 4,A 5,A 6]++[A 1,A 2,A 7,A 9,A 10,A 11]).Nodup from bO nd [3,4,5,6,0,1,2,7,8,9] rfl)).2.2 r hr r q rfl
  ·obtain⟨lk,h1,h2⟩:=F.out (K:=K) (i:=i) h8 hsl hit he
   refine⟨[],lk,rfl,List.nodup_nil,aE,h1,F.ext.mono (NG (A:=A) (l:=[1,2,10,11,3,4,5,6]) dT),?_,trivial,rfl⟩;rw[iY];exact h2
end
end
section
variable (w:World)(g₀:Nat)(ad tb:Nat->Nat)(bl:List (Code×Pos))(p:Pos)(sc ep:Nat)(vs:List Value)(xs:List (Int×Nat))(Lf:List (List Nat))(R0 R1 R2 R3:List Nat)
theorem aEe:
 aZ w g₀ [sc] ad tb [EY (cI xs) 0 8 vs ep (TR.k 11) 24 9 12,AE w.params xs Lf R0 R1 R2 R3 none 12 12] 106 IZ (.call (.ref 792) ⟨[.ref sc],[]⟩) bl p 370 [aA vs ep] [0,2,3,4,5,6,7,12] (.pure (.done (.ret (.ref (bG [sc] ad 12))))) [aA vs ep,aA (cD (aC tb) 12 Lf) 0,aA (bH (aC tb) 16 R0) (R0.length - 1),aA (bH (aC tb) 24 R1) (R1.length - 2),aA (bH (aC tb) 32 R2) (R2.length - 0),aA (bH (aC tb) 40 R3) (R3.length - 1),aA [.ref (ad 3+817),.ref (ad 4+817),.ref (ad 5+817),.ref (ad 6+817)] 0,aK [.ref (ad 2+817),.ref (ad 7+817)]] 13:=by unfold aZ;kernel_rfl
theorem aEf (x:Int)(tx:Nat):
 aZ w g₀ [sc] ad tb [EY (cI xs) 0 8 vs ep (TR.k 11) 24 9 12,AE w.params xs Lf R0 R1 R2 R3 (some (x,tx)) 12 12] 106 IZ (.call (.ref 792) ⟨[.ref sc],[]⟩) bl p 370 [aA vs ep] [0,2,3,4,5,6,7,12] (.pure (.done (.ret (.ref (bG [sc] ad 12))))) [aA vs ep,aA (cD (aC tb) 12 Lf) 0,aA (bH (aC tb) 16 R0) (R0.length - 1),aA (bH (aC tb) 24 R1) (R1.length - 2),aA (bH (aC tb) 32 R2) (R2.length - 0),aA (bH (aC tb) 40 R3) (R3.length - 1),aA [.ref (ad 3+817),.ref (ad 4+817),.ref (ad 5+817),.ref (ad 6+817)] 0,aK [.ref (ad 2+817),.ref (ad 7+817)]] 13:=by unfold aZ;kernel_rfl
end
section
noncomputable def QB(vs:List Value)(ep:Nat)(Lf:List (List Nat))(R0 R1 R2 R3:List Nat)(j n i:Nat):HF:=
 dP (fun A u=> .call (.ref 792) ⟨[.ref (A j)],[]⟩) [j] (fun u u=>[aA vs ep]) (fun u u=>[aA vs ep])
  (fun A K=>[aA (cD K i Lf) 0,aA (bH K (i+4) R0) (R0.length - 1),aA (bH K (i+12) R1) (R1.length - 2),aA (bH K (i+20) R2) (R2.length - 0),aA (bH K (i+28) R3) (R3.length - 1),
   aA [.ref (A (n+1)),.ref (A (n+2)),.ref (A (n+3)),.ref (A (n+4))] 0,aK [.ref (A n),.ref (A (n+5))]]) (fun A u=> .ok (.ret (.ref (A (n+6))))) 36 n i 360
theorem QC:∀(xs:List (Int×Nat)) (n:Nat),(cI xs).take n=cI (xs.take n)
 | [],n=>by simp[cI]
 |x::xs,0=>by simp[cI]
 |x::xs,n+1=>by simp[cI,QC xs n]
theorem QD:∀xs:List (Int×Nat),(cI xs).length=xs.length
 | []=>rfl
 |_::xs=>congrArg (·+1) (QD xs)
theorem wJ{K K':Nat->Nat}:∀(ns:List Nat) (i i':Nat),(∀j,j<ns.length->K (i+j)=K' (i'+j))->bH K i ns=bH K' i' ns
 | [],_,_,_=>rfl
 |n::ns,i,i',h=>by
  unfold bH;rw[show K i=K' i' from h 0 (by simp),wJ ns (i+1) (i'+1) fun j hj=> ?_];have:=h (j+1) (by simpa using hj);rw[Nat.add_assoc,Nat.add_comm 1 j,this,Nat.add_assoc i',Nat.add_comm 1 j]
section
variable{w:World}
theorem aEg (fD:xs.length<=1000)(hL:lY 0 ((xs.take 24).map (·.1)) LB=Lf)(hR:jU 0 ((xs.take 24).map (·.1)) RB=[R0,R1,R2,R3])(hj:j<n):
  aG (model PR w) (aX w.params) (QB (cI xs) ep Lf R0 R1 R2 R3 j n i):=by
 have h24:(xs.take 24).length<=24:=by simp;lia
 have z0:R0.length<=8:=tX h24 hR 0 dT;have z1:R1.length<=8:=tX h24 hR 1 dT;have z2:R2.length<=8:=tX h24 hR 2 dT;have z3:R3.length<=8:=tX h24 hR 3 dT;have zL:Lf.length=4:=by rw[<-hL,EZ];rfl
 refine eN 7 (fun v v=>rfl) ?_ (fun v v v v v v=>rfl) (fun v v v v v v=>rfl) ?_ ?_ (fun v v=>rfl) (fun v v=>rfl) (by simpa using hj) (by simp) fun A K bl p s hA hK hd B ha nd lo=> ?_
 ·intro A K A' K' a1 a2
  show Code.call _ ⟨[.ref (A' j)],[]⟩=Code.call _ ⟨[.ref (A j)],[]⟩;rw[a1 j hj]
 ·intro A K A' K' a1 a2
  show[aA (cD K' i Lf) 0,aA (bH K' (i+4) R0) _,aA (bH K' (i+12) R1) _,aA (bH K' (i+20) R2) _,aA (bH K' (i+28) R3) _,aA [.ref (A' (n+1)),.ref (A' (n+2)),.ref (A' (n+3)),.ref (A' (n+4))] 0,aK [.ref (A' n),.ref (A' (n+5))]]=_
  rw[a1 n (by lia),a1 (n+1) (by lia),a1 (n+2) (by lia),a1 (n+3) (by lia),a1 (n+4) (by lia),a1 (n+5) (by lia),pE Lf i (fun j hj=>a2 _ (by lia)),lF R0 (i+4) (fun j hj=>a2 _ (by lia)),
   lF R1 (i+12) (fun j hj=>a2 _ (by lia)),lF R2 (i+20) (fun j hj=>a2 _ (by lia)),lF R3 (i+28) (fun j hj=>a2 _ (by lia))]
 ·intro A K A' K' a1 a2
  show Except.ok (Flow.ret (.ref (A' (n+6))))=Except.ok (Flow.ret (.ref (A (n+6))));rw[a1 (n+6) (by lia)]
 ·have fin:∀{ad tb:Nat->Nat} {s':Shared},dX [A j] ad s s' [0,2,3,4,5,6,7,12] [some (aA (cI xs) ep),some (aA (cD (aC tb) 12 Lf) 0),some (aA (bH (aC tb) 16 R0) (R0.length - 1)),some (aA (bH (aC tb) 24 R1) (R1.length - 2)),some (aA (bH (aC tb) 32 R2) (R2.length - 0)),
     some (aA (bH (aC tb) 40 R3) (R3.length - 1)),some (aA [.ref (ad 3+817),.ref (ad 4+817),.ref (ad 5+817),.ref (ad 6+817)] 0),some (aK [.ref (ad 2+817),.ref (ad 7+817)])] 13->
    ∃la lk:List Nat,la.length=7/\la.Nodup/\(∀a∈la,s.heap.objs.size<=a)/\(∀t∈lk,1335<=t)/\aJ (bM A [j]) s s'/\At s' (bM A [j]) [aA (cI xs) ep]/\
    At s' la [aA (cD (upd K i lk) i Lf) 0,aA (bH (upd K i lk) (i+4) R0) (R0.length - 1),aA (bH (upd K i lk) (i+12) R1) (R1.length - 2),aA (bH (upd K i lk) (i+20) R2) (R2.length - 0),aA (bH (upd K i lk) (i+28) R3) (R3.length - 1),
     aA [.ref (upd A n la (n+1)),.ref (upd A n la (n+2)),.ref (upd A n la (n+3)),.ref (upd A n la (n+4))] 0,aK [.ref (upd A n la n),.ref (upd A n la (n+5))]]/\
    (Except.ok (Flow.ret (.ref (ad 12+817))):Result)=Except.ok (Flow.ret (.ref (upd A n la (n+6)))):=by
   intro ad tb s' Q;have u:∀j,j<36->upd K i ((List.range 36).map fun j=>aC tb (12+j)) (i+j)=aC tb (12+j):=fun j hj=>rZ hj;have ua:∀j (h:j<7),upd A n [ad 2+817,ad 3+817,ad 4+817,ad 5+817,ad 6+817,ad 7+817,ad 12+817] (n+j)=[ad 2+817,ad 3+817,ad 4+817,ad 5+817,ad 6+817,ad 7+817,ad 12+817][j]'h:=fun j h=>iP h;refine⟨[ad 2+817,ad 3+817,ad 4+817,ad 5+817,ad 6+817,ad 7+817,ad 12+817],(List.range 36).map fun j=>aC tb (12+j),rfl,?_,?_,?_,Q.ext,⟨Q.at_ 0 0 _ rfl rfl,trivial⟩,?_,?_⟩
   ·have h13:∀k∈[2,3,4,5,6,7,12],k<13:=by decide
    have:=rY (A:=bG [A j] ad) (sl:=[2,3,4,5,6,7,12]) dT fun a ha b hb e=>Q.inj a b (h13 a ha) (h13 b hb) e;exact this
   ·intro a ha
    have ha:a∈bM (bG [A j] ad) [2,3,4,5,6,7,12]:=ha;obtain⟨k,hk,rfl⟩:=lW ha;have h13:∀k∈[2,3,4,5,6,7,12],1<=k/\k<13:=by decide
    exact(Q.new k (h13 k hk).1 (h13 k hk).2).1
   ·intro t ht
    obtain⟨k,_,rfl⟩:=List.mem_map.mp ht;exact bB _ _
   ·rw[show upd A n _ n=ad 2+817 from ua 0 dT,ua 1 dT,ua 2 dT,ua 3 dT,ua 4 dT,ua 5 dT]
    have eL:cD (upd K i ((List.range 36).map fun j=>aC tb (12+j))) i Lf=cD (aC tb) 12 Lf:=EF Lf i 12 fun j hj=>u j (by lia);have e0:bH (upd K i ((List.range 36).map fun j=>aC tb (12+j))) (i+4) R0=bH (aC tb) 16 R0:=wJ R0 (i+4) 16 fun j hj=>by rw[Nat.add_assoc,u (4+j) (by lia),<-Nat.add_assoc]
    have e1:bH (upd K i ((List.range 36).map fun j=>aC tb (12+j))) (i+12) R1=bH (aC tb) 24 R1:=wJ R1 (i+12) 24 fun j hj=>by rw[Nat.add_assoc,u (12+j) (by lia),<-Nat.add_assoc]
    have e2:bH (upd K i ((List.range 36).map fun j=>aC tb (12+j))) (i+20) R2=bH (aC tb) 32 R2:=wJ R2 (i+20) 32 fun j hj=>by rw[Nat.add_assoc,u (20+j) (by lia),<-Nat.add_assoc]
    have e3:bH (upd K i ((List.range 36).map fun j=>aC tb (12+j))) (i+28) R3=bH (aC tb) 40 R3:=wJ R3 (i+28) 40 fun j hj=>by rw[Nat.add_assoc,u (28+j) (by lia),<-Nat.add_assoc]
    rw[eL,e0,e1,e2,e3];exact(Q.ats [1,2,3,4,5,6,7])
   ·rw[ua 6 dT];rfl
  have hu:(cI xs).take 24=cI (xs.take 24):=QC xs 24;have hsz:(cI xs).length<=sizeLine:=by rw[QD];exact Nat.le_trans fD dT
  have hf:aG (model PR w) (aX w.params) (AE w.params (xs.take 24) Lf R0 R1 R2 R3 (xs.take 24).getLast? 12 12):=aEd h24 hL hR dT dT;cases ho:(xs.take 24).getLast? with
  |none=>
   rw[ho] at hf;exact cT (fun ad tb=>aEe w _ ad tb bl p (A j) ep (cI xs) (xs.take 24) Lf R0 R1 R2 R3) (aB (PV hu hsz dT dT rfl) (aD hf)) B ha rfl nd lo (Nat.le_trans hd dT) dT fun ad tb s' Q=>fin Q
  |some q=>
   rw[ho] at hf;obtain⟨x,tx⟩:=q;exact cT (fun ad tb=>aEf w _ ad tb bl p (A j) ep (cI xs) (xs.take 24) Lf R0 R1 R2 R3 x tx) (aB (PV hu hsz dT dT rfl) (aD hf)) B ha rfl nd lo (Nat.le_trans hd dT) dT fun ad tb s' Q=>fin Q
end
end
noncomputable def QE:Stmt:=cM 37
noncomputable def FA(loc:Nat):Env:=nV QE [95,108,97,119,95,112,108,97,105,110,46,60,108,111,99,97,108,115,62,46] 797 796 loc
noncomputable def lG:Stmt:=dK (bF QE) 1
noncomputable def lZ(loc it:Nat):Code:= .forLoop (bR lG) (.ref it) (bF lG) (fV lG) (FA loc)
noncomputable def FB(loc it:Nat)(v:Value):Sem Fin:=tP (bR lG) (.ref it) (bF lG) (fV lG) (FA loc) v
noncomputable def oB(P:Params)(τ:Nat->Nat)(nu wd:Nat):Obj:=⟨fI,none,.dict ⟨[de P [110,117,109,98,101,114,115] (τ 0) (.ref nu),de P CD (τ 1) (.ref wd)]⟩ 2,⟨[]⟩⟩
noncomputable def pK(P:Params)(τ:Nat->Nat)(nu wd:Nat)(v:Value):Obj:=⟨fI,none,.dict ⟨[de P [110,117,109,98,101,114,115] (τ 0) (.ref nu),de P CD (τ 1) (.ref wd),de P [110,117,109,98,101,114] (τ 2) v]⟩ 3,⟨[]⟩⟩
noncomputable def mC(d:Nat):Nat:=match Nat.blt d 10 with
 |true=>d+48
 |false=>d+87
noncomputable def QF(P:Params)(τ:Nat->Nat)(nu wd:Nat)(o:Option Value):Obj:=match o with
 |none=>oB P τ nu wd
 |some v=>pK P τ nu wd v
noncomputable def QG(o:Option Value)(τ tb:Nat->Nat):Nat->Nat:=match o with
 |none=>bX τ 2 (aC tb 0)
 |some _=>τ
noncomputable def FC(hx:Nat->Nat):List Nat->Nat->List HF
 | [],_=>[]
 |d::ks,i=>aI DM (Int.ofNat d) [AV.str ⟨⟨sQ⟩⟩ (TR.k (i+3)),AV.str ⟨⟨[hx d]⟩⟩ (TR.k i)] 6 (i+4)::
   aS yT ⟨⟨[d+65]⟩⟩ [AV.str ⟨⟨sS⟩⟩ (TR.k (i+2)),AV.int (Int.ofNat d) (TR.k (i+4))] 6 (i+5)::FC hx ks (i+6)
noncomputable def AG:List Nat->Nat
 | []=>2
 | [_]=>11
 |ks=>6*ks.length+6
noncomputable def plK:List Nat->List Nat
 | []=>[39,39]
 |d::ds=>bD (d::ds)
noncomputable def aEh(hx:Nat->Nat)(ks:List Nat)(x tx ep:Nat)(cD:List Value):List HF:=
 aV vQ (Value.bool ks.isEmpty) [AV.int (Int.ofNat x) (TR.l tx),AV.int (Int.ofNat 0) (TR.k 1)] 2 2::match ks with
 | []=>[qN 1 cD ep (AV.str ⟨⟨[39,39]⟩⟩ (TR.k 2)) 2 3]
 |ks=>aS DN ⟨⟨48::120::ks.map hx⟩⟩ [AV.int (Int.ofNat x) (TR.l tx)] 2 3::EK ⟨⟨ks.map hx⟩⟩ (TR.k 5) 3 6::(FC hx ks 6++[qN 1 cD ep (AV.str ⟨⟨bD ks⟩⟩ (TR.k (AG ks))) 8 (AG ks+1)])
theorem aEi(w:World)(g₀:Nat)(bl:List (Code×Pos))(p:Pos)(b:Bool)(hq:w.params.followText "comprehension-iter-twice"=b)(o:Option Value)(ks:List Nat)(hk:ks.length<=3)(τ hx:Nat->Nat)(loc nu wd it x tx ep:Nat)(cD:List Value):∃f_ h_,∀ad tb:Nat->Nat,
 fY w g₀ [loc,wd] ad tb (aEh hx ks x tx ep cD) f_ h_ (lZ loc it) (FB loc it (.int (Int.ofNat x) tx)) bl p 380 [QF w.params τ nu wd o,aA cD ep] [0,1] (lZ loc it) [pK w.params (QG o τ tb) nu wd (.int (Int.ofNat x) tx),aA (cD++[sv (plK ks) (aC tb (AG ks))]) (ep+1)] (match ks with | []=>2 |_=>8):=by
 rcases ks with _ |⟨a,_ |⟨b',_ |⟨c,_ |⟨d,ks⟩⟩⟩⟩
 ·cases o <;> cases b <;> exact⟨30,0x2004002002002002001a002002002,fun ad tb=>by unfold fY;rw[nB hq];kernel_rfl⟩
 ·cases b <;> cases o
  iterate 2 exact⟨141,(aQ 0x1002002802800c00c00c01000 [18,gu,55,gH,49,gt]),fun ad tb=>by unfold fY;rw[nB hq];kernel_rfl⟩
  iterate 2 exact⟨131,(aQ 0x200400500500180180180200 [42,gE,12,gk,7,33558528,49,gt]),fun ad tb=>by unfold fY;rw[nB hq];kernel_rfl⟩
 ·cases b <;> cases o
  iterate 2 exact⟨180,(aQ 0x400800a00a00300300300400 [12,gZ,18,0x10008005005005002a,12,vE,18,gu,55,gH,49,gt]),fun ad tb=>by unfold fY;rw[nB hq];kernel_rfl⟩
  iterate 2 exact⟨170,(aQ 0x801001401400600600600800 [12,gk,29,0x2001000a00a00a005500300300300,42,gE,12,gk,7,33558528,49,gt]),fun ad tb=>by unfold fY;rw[nB hq];kernel_rfl⟩
 ·cases b <;> cases o
  iterate 2 exact⟨219,(aQ 0x1002002802800c00c00c01000 [18,gu,23,0x1401401400aa00600600600,12,gZ,18,0x10008005005005002a,12,vE,18,gu,55,gH,49,gt]),fun ad tb=>by unfold fY;rw[nB hq];kernel_rfl⟩
  iterate 2 exact⟨209,(aQ 0x200400500500180180180200 [42,gE,12,gk,29,0x2001000a00a00a005500300300300,42,gE,12,gk,7,33558528,49,gt]),fun ad tb=>by unfold fY;rw[nB hq];kernel_rfl⟩
 ·exact absurd hk (by simp)
section
noncomputable def fD:List Nat->List Nat
 | []=>[]
 |d::ds=>mC d::fD ds
theorem aEj:∀x<300,baseText "0x" 16 (Int.ofNat (x+1))=⟨⟨48::120::fD (cY (x+1))⟩⟩:=by decide+kernel
theorem aEk:∀d<16,(match Builtin.Str.occurrences ⟨⟨sQ⟩⟩ ⟨⟨[mC d]⟩⟩ 0 (Str.length ⟨⟨sQ⟩⟩) 1 with |i::_=>(i:Int) | []=> -1)=Int.ofNat d:=by decide+kernel
theorem aEl:∀d<16,(seqIndex? (Int.ofNat d) (Str.length ⟨⟨sS⟩⟩)).bind ((Str.mk ⟨sS⟩).cps[·]?)=some (d+65):=by decide+kernel
theorem aEm:∀d<16,(decide (Int.ofNat d< -(2 ^ 63:Int)) || decide (Int.ofNat d>=2 ^ 63))=false:=by decide+kernel
theorem aEn:∀d<16,mC d<128:=by decide
section
variable{prog:Program}{w:World}{kt:KT}
theorem aEo {a:Int}{x:Str}{t:TR}(h:baseText "0x" 16 a=x)(hz:x.length<=sizeLine)(hl:bQ n i [AV.int a t]=true):aG (model prog w) kt (aS DN x [AV.int a t] n i):=
 yW _ aAv (entryFor_of_fast (by kernel_rfl)) hz hl fun A K=>by subst h;exact gives_hex a (t.ev K)
theorem aEp {x y:Str}{z:Int}{t u:TR}(h:(match Builtin.Str.occurrences x y 0 x.length 1 with |i::_=>(i:Int) | []=> -1)=z)(hl:bQ n i [AV.str x t,AV.str y u]=true):aG (model prog w) kt (aI DM z [AV.str x t,AV.str y u] n i):=
 qK _ aAu (entryFor_of_fast (by kernel_rfl)) hl fun A K=>by subst h;exact gives_str_find x y (t.ev K) (u.ev K)
theorem aEq {x:Str}{a:Int}{y:Str}{t u:TR}(hr:(decide (a< -(2 ^ 63:Int)) || decide (a>=2 ^ 63))=false)(h:(seqIndex? a x.length).bind (x.cps[·]?)=some c)(e:(⟨#[c]⟩:Str)=y)(hl:bQ n i [AV.str x t,AV.int a u]=true):
  aG (model prog w) kt (aS yT y [AV.str x t,AV.int a u] n i):=
 yW _ LA F.entry_str_getitem (by subst e;show 1<=sizeLine;decide) hl fun A K=>by subst e;exact gives_str_getitem x a (t.ev K) (u.ev K) c hr h
noncomputable def AH(J sep:Str)(t:TR)(j:Nat)(ws:List (List Nat))(a ep n i:Nat):HF:=fun A K=>
 ⟨.builtin oV ⟨[.str sep (t.ev K),.ref (A j)],[]⟩,[(j,aA (cD K a ws) ep)],[],[],.ok (.ret (.str J (K i))),1,n,i,900,none⟩
noncomputable def wK(K:Nat->Nat):Nat->List (List Nat)->List (Str×Nat)
 |_,[]=>[]
 |a,w::ws=>(⟨⟨w⟩⟩,K a)::wK K (a+1) ws
theorem QH{K:Nat->Nat}:∀(ws:List (List Nat)) (a:Nat),strValues (wK K a ws)=cD K a ws
 | [],_=>rfl
 |w::ws,a=>congrArg (Value.str ⟨⟨w⟩⟩ (K a)::·) (QH ws (a+1))
theorem FD{K:Nat->Nat}:∀(ws:List (List Nat)) (a:Nat),(wK K a ws).map (·.1)=ws.map fun w=>(⟨⟨w⟩⟩:Str)
 | [],_=>rfl
 |w::ws,a=>congrArg ((⟨⟨w⟩⟩:Str)::·) (FD ws (a+1))
theorem aEr {J sep:Str}{t:TR}(hJ:Builtin.Str.glued sep (ws.map fun w=>(⟨⟨w⟩⟩:Str))=J)(hz:J.length<=sizeLine)(hl:Builtin.Str.tooLong ((ws.map fun w=>(⟨⟨w⟩⟩:Str)).toArray.foldl (·+·.length+sep.length) 0)=false)(hj:j<n)(ht:t.ok i=true)(ha:a+ws.length<=i):aG (model prog w) kt (AH J sep t j ws a ep n i) where
 loc A K A' K' h1 h2:=by
  show HS.mk _ _ _ _ _ _ _ _ _ _=HS.mk _ _ _ _ _ _ _ _ _ _;have h2':∀j,j<i->K' j=K j:=fun j hj=>h2 j (Nat.lt_succ_of_lt hj);rw[h1 j hj,TR.lcc ht h2',pE ws a (fun k hk=>h2' _ (by lia)),h2 i (Nat.lt_succ_self _)]
 ok A K Γ p s R hA hK hc hd h1 h2 h3 hT hs hk hp hi hl' _ _ hR:=by
  have ho:s.heap.get? (A j)=some (aA (cD K a ws) ep):=hp _ (.head _);rw[iZ] at ho;refine lA (meets_str_join_list sep (t.ev K) (A j) (wK K a ws) (by rw[FD];exact hl)) (by rw[hc];exact eM (by rw[<-LN];exact entryFor_of_fast (by kernel_rfl)) _) ⟨⟨_,ho,rfl,ep,by rw[QH]⟩,?_⟩
  have fin:∀u k:Nat,1335<=u->R (.ok (.ret (.str J u))) {s with toks:=s.toks+k}:=fun u k hu=>by
   have z:=hR A (fun j=>if j=i then u else K j) {s with toks:=s.toks+k} (fun g g=>rfl) (fun j hj=>if_neg (Nat.ne_of_lt hj)) hA (fun j=>by
    show 1335<=(if j=i then u else K j);split
    ·exact hu
    ·exact hK j) (mT (Nat.le_add_right _ k))
   have z:R (.ok (.ret (.str J (if i=i then u else K i)))) _:=z;rw[if_pos rfl] at z;exact z
  rcases ws with _ |⟨w,_ |⟨v,l⟩⟩
  ·exact⟨by show (Builtin.Str.glued sep []).length<=sizeLine;rw[show Builtin.Str.glued sep []=J from hJ];exact hz,(show Builtin.Str.glued sep []=J from hJ)▸fin s.toks 1 hk⟩
  ·obtain rfl:⟨⟨w⟩⟩=J:=hJ
   exact fin (K a) 0 (hK a)
  ·show (Made.str (Builtin.Str.glued sep ((wK K a (w::v::l)).map (·.1)))).post _ s
   rw[FD,hJ];exact⟨hz,fin s.toks 1 hk⟩
end
end
section
noncomputable def bK(x:Nat):List Nat:=match cY x with
 | []=>[39,39]
 |d::ds=>bD (d::ds)
theorem aEs (h:cY x=[]):x=0:=by
 unfold cY at h;split at h
 ·assumption
 ·split at h
  ·cases h
  ·split at h <;> cases h
section
variable{w:World}{s:Shared}{bl:List (Code×Pos)}{p:Pos}{R:Result->Shared->Prop}
theorem aEt {nu wd:Nat}{ws:List Value}{D0:Obj}(hD0:D0=oB w.params τ nu wd\/∃v,D0=pK w.params τ nu wd v)(hx:x<=300)(hws:ws.length<=1000)(hτ:∀j,1335<=τ j)(B:aT w s)(ha:At s [loc,wd] [D0,aA ws ep])(nd:[loc,wd].Nodup)(lo:∀x∈[loc,wd],817<=x)(hd:frameCount bl<=380)(hR:∀px s' τ' t1,(∀j,1335<=τ' j)->1335<=t1->aJ [loc,wd] s s'->
   At s' [loc,wd] [pK w.params τ' nu wd (.int (Int.ofNat x) tx),aA (ws++[sv (bK x) t1]) (ep+1)]->wpCode (model PR w) ⟨lZ loc it,none,none,bl,none⟩ R px s'):
  ∃r s',Runs (model PR w) ⟨lZ loc it,none,none,bl,none⟩ p (FB loc it (.int (Int.ofNat x) tx)) [] s (.ret r) s'/\R r s':=by
 have at_:=PM (n:=x) (by lia);have al:=tU x;have hsz:ws.length<=sizeLine:=Nat.le_trans hws dT;have one:∀y:Nat,(Str.mk ⟨[y]⟩).length<=sizeLine:=fun y=>by show 1<=sizeLine;decide
 have hks:∃ks,cY x=ks:=⟨_,rfl⟩;obtain⟨ks,hds⟩:=hks;rw[hds] at at_ al;have hD0:∃o,D0=QF w.params τ nu wd o:=hD0.elim (fun h=>⟨none,h⟩) fun⟨v,h⟩=>⟨some v,h⟩;obtain⟨o,rfl⟩:=hD0;obtain⟨f_,h_,E⟩:=aEi w s.gens.size bl p _ rfl o ks al τ mC loc nu wd it x tx ep ws
 refine oX E (fun u u=>by unfold lZ;kernel_rfl) ?_ B ha rfl nd lo hd fun ad tb px s' Q=>hR px s' (QG o τ tb) (aC tb (AG ks)) (by cases o <;> first |exact hτ |exact fH hτ (bB _ _)) (bB _ _) Q.ext
  ⟨Q.at_ 0 0 _ rfl rfl,by have:=Q.at_ 1 1 _ rfl rfl;unfold bK;rw[hds];cases ks <;> exact this,trivial⟩
 have bl_:∀{a b:Nat},a<b->(TR.k a).ok b=true:=fun h=>Nat.blt_eq.mpr h;cases ks with
 |nil=>
  have x0:x=0:=aEs hds;exact aB (zW (by subst x0;rfl) rfl) (aD (tJ hsz dT rfl))
 |cons d0 l=>
  have xne:x≠0:=fun h=>by subst h;cases hds
  have hex:baseText "0x" 16 (Int.ofNat x)=⟨⟨48::120::(d0::l).map mC⟩⟩:=by
   obtain⟨y,rfl⟩:=Nat.exists_eq_succ_of_ne_zero xne;have:=aEj y (by lia);have hm:∀l,fD l=l.map mC:=fun l=>by induction l with |nil=>rfl |cons d l ih=>exact congrArg (mC d::·) ih
   rw[show y+1=y.succ from rfl,hds,hm] at this;exact this
  have hsx:(Str.mk ⟨48::120::(d0::l).map mC⟩).length<=sizeLine:=Nat.le_trans (show (48::120::(d0::l).map mC).length<=5 by simp at al ⊢;lia) dT
  have asc:(Str.mk ⟨(d0::l).map mC⟩).cps.all (·<128)=true:=by
   rw[Array.all_eq_true_iff_forall_mem];intro c hc;obtain⟨k,hk,rfl⟩:=List.mem_map.mp (Array.mem_def.mp hc);exact decide_eq_true (aEn k (at_ k hk))
  have dg:∀(ks:List Nat) (i:Nat),(∀k∈ks,k<16)->∀hf∈FC mC ks i,aG (model PR w) (aX w.params) hf:=fun ks=>by
   induction ks with
   |nil=>exact fun u u=>aE
   |cons d ks ih=>exact fun i h=>aB (aEp (aEk d (h d (.head _))) (by simp only[bQ,AV.ok,bl_ (show i+3<i+4 by lia),bl_ (show i<i+4 by lia)])) (aB (aEq (aEm d (h d (.head _))) (aEl d (h d (.head _))) rfl (by simp only[bQ,AV.ok,bl_ (show i+2<i+5 by lia),bl_ (show i+4<i+5 by lia)])) (ih _ fun k hk=>h k (.tail _ hk)))
  refine aB (zW (by simpa using xne) rfl) (aB (aEo hex hsx rfl) (aB (OK asc rfl) fun hf q=>(List.mem_append.mp q).elim (dg _ _ at_ hf) (aD (tJ hsz dT (by exact bl_ (Nat.lt_succ_self _))) hf)))
end
end
section
variable (w:World)(g₀:Nat)(ad tb:Nat->Nat)(bl:List (Code×Pos))(p:Pos)(loc:Nat)
theorem aEu (it l k ep:Nat)(x:Value)(vs:List Value):
 aW w g₀ [it,l] ad tb [eQ x 0 1 k vs ep 2 0] 5 33562625 (lZ loc it) (cQ (.ref it)) bl p 380 [aO l k,aA vs ep] [0,1] (.pure (.done (.ret x))) [aO l (k+1),aA vs ep] 2:=by unfold aW;kernel_rfl
theorem aEv (it l k ep:Nat)(vs:List Value):
 aW w g₀ [it,l] ad tb [iR 0 1 k vs ep 2 0] 6 301998081 (lZ loc it) (cQ (.ref it)) bl p 380 [aO l k,aA vs ep] [0,1] (.pure (.done .brk)) [litE k,aA vs ep] 4:=by unfold aW;kernel_rfl
theorem aEw:
 aZ w g₀ [] ad tb [] 1 0 (.block (fV lG) (FA loc)) bl p 380 [] [] (.pure (.done .next)) [] 0:=by unfold aZ;kernel_rfl
end
section
noncomputable def aP:List (Nat×Nat)->List Value
 | []=>[]
 |q::qs=> .int (Int.ofNat q.1) q.2::aP qs
theorem qQ:∀(ps:List (Nat×Nat)) (i:Nat),(aP ps)[i]? =(ps[i]?).map fun q=> .int (Int.ofNat q.1) q.2
 | [],i=>by simp[aP]
 |q::ps,0=>rfl
 |q::ps,i+1=>by simpa[aP] using qQ ps i
theorem FE:∀(ws:List (List Nat)) (ts:List Nat) (v:List Nat) (t:Nat),ts.length=ws.length->bA ws ts++[sv v t]=bA (ws++[v]) (ts++[t])
 | [],[],_,_,_=>rfl
 | [],_::_,_,_,h=>by simp at h
 |_::_,[],_,_,h=>by simp at h
 |a::ws,b::ts,v,t,h=>congrArg (sv a b::·) (FE ws ts v t (by simpa using h))
noncomputable def oD(P:Params)(τ:Nat->Nat)(nu wd:Nat)(o:Option (Nat×Nat)):Obj:=match o with
 |none=>oB P τ nu wd
 |some q=>pK P τ nu wd (.int (Int.ofNat q.1) q.2)
theorem aEx(it:Value)(v:Value):letOwnedTupleGo (bR lG) it v=pure ():=by
 rw[show bR lG= .Name (yM (bR lG)) (bR lG).pos by kernel_rfl];rfl
section
variable{w:World}{bl:List (Code×Pos)}{R:Result->Shared->Prop}
theorem aEy {wd l nu:Nat}{ps:List (Nat×Nat)}(hRe:∀x s,¬R (.error x) s)(nd:[loc,wd,it,l].Nodup)(lo:∀x∈[loc,wd,it,l],817<=x)(hps:ps.length<=100)(hp3:∀q∈ps,q.1<=300)(hd:frameCount bl<=380)(B₀:aT w s₀)(hR:∀s' τ ts,(∀j,1335<=τ j)->ts.length=ps.length->(∀t∈ts,1335<=t)->aJ [loc,wd,it] s₀ s'->s'.heap.get? loc=some (oD w.params τ nu wd ps.getLast?)->
   s'.heap.get? wd=some (aA (bA (ps.map fun q=>bK q.1) ts) ps.length)->s'.heap.get? it=some (litE ps.length)->s'.heap.get? l=some (aA (aP ps) ep)->R (.ok .next) s'):
  ∀(m i:Nat) (s:Shared) (τ:Nat->Nat) (ts:List Nat) (p:Pos),ps.length - i=m->i<=ps.length->(∀j,1335<=τ j)->ts.length=i->(∀t∈ts,1335<=t)->aJ [loc,wd,it] s₀ s->
   s.heap.get? loc=some (oD w.params τ nu wd (ps.take i).getLast?)->s.heap.get? wd=some (aA (bA ((ps.take i).map fun q=>bK q.1) ts) i)->s.heap.get? it=some (aO l i)->s.heap.get? l=some (aA (aP ps) ep)->
   wpCode (model PR w) ⟨lZ loc it,none,none,bl,none⟩ R p s:=by
 have lom:∀a∈[loc,wd,it],817<=a:=aB (lo _ (mI 0)) (aB (lo _ (mI 1)) (aD (lo _ (mI 2))));have lo2:∀x∈[it,l],817<=x:=aB (lo _ (mI 2)) (aD (lo _ (mI 3)));have nd2:[it,l].Nodup:=bO nd [2,3] rfl;have q2:loc∉[it]:=fun q=>iI nd 0 2 rfl (List.mem_singleton.mp q);have q4:wd∉[it]:=fun q=>iI nd 1 2 rfl (List.mem_singleton.mp q);have d1:∀{s s':Shared},aJ [it,l] s s'->s.heap.get? l=some (aA (aP ps) ep)->s'.heap.get? l=some (aA (aP ps) ep)->aJ [it] s s':=fun X h h'=>X.drop1 (aB (.inl (.head _)) (aD (.inr (.inr ⟨_,h,h'⟩))));intro m;induction m with
 |zero=>
  intro i s τ ts p hm hi hτ hts htg X hloc hwd hit hl;cases vZ hm hi;rw[List.take_length] at hloc hwd;refine tR hRe fun p'=> ?_
  refine ED (P:=fun s'=>aJ [it] s s'/\s'.heap.get? l=some (aA (aP ps) ep)/\s'.heap.get? it=some (litE ps.length)) (bL
   (fun ad tb=>aEv w s.gens.size ad tb bl p' loc it l ps.length ep (aP ps)) (aD (oA (by rw[qQ];simp) dT dT dT)) (B₀.ext X lom) ⟨hit,hl,trivial⟩ rfl nd2 lo2 hd
   fun ad tb s' Q=>⟨rfl,d1 Q.ext hl (Q.at_ 1 1 _ rfl rfl),Q.at_ 1 1 _ rfl rfl,Q.at_ 0 0 _ rfl rfl⟩) fun p₁ s₁ F=> ?_
  have X₂:aJ [loc,wd,it] s₀ s₁:=jO X (F.1.mono (aD (mI 2)))
  exact cT (fun ad tb=>aEw w s₁.gens.size ad tb bl p₁ loc) aE (B₀.ext X₂ lom) trivial rfl List.nodup_nil aE hd dT fun ad tb s₂ Q=>by
   have fr₂:∀{y:Nat} {o},s₁.heap.get? y=some o->s₂.heap.get? y=some o:=fun hy=>Q.ext.frame _ _ hy fun q=>nomatch q;exact hR s₂ τ ts hτ hts htg (jO X₂ (Q.ext.mono fun u q=>nomatch q)) (fr₂ (F.1.frame _ _ hloc q2)) (fr₂ (F.1.frame _ _ hwd q4)) (fr₂ F.2.2) (fr₂ F.2.1)
 |succ m ih=>
  intro i s τ ts p hm hi hτ hts htg X hloc hwd hit hl;obtain⟨hlt,hm',hi'⟩:=vY hm;have hxi:ps[i]? =some ps[i]:=List.getElem?_eq_getElem hlt;generalize ps[i]=q at hxi;obtain⟨x,tx⟩:=q;have htk:ps.take (i+1)=ps.take i++[(x,tx)]:=by rw[List.take_add_one,hxi];rfl
  have hln:((ps.take i).map fun q=>bK q.1).length=i:=by rw[List.length_map,List.length_take];exact Nat.min_eq_left hi
  refine tR hRe fun p'=> ?_
  refine EE (P:=fun zv s'=>zv= .int (Int.ofNat x) tx/\aJ [it] s s'/\s'.heap.get? l=some (aA (aP ps) ep)/\s'.heap.get? it=some (aO l (i+1))) (bL
   (fun ad tb=>aEu w s.gens.size ad tb bl p' loc it l i ep (.int (Int.ofNat x) tx) (aP ps)) (aD (kP (by rw[qQ,hxi];rfl) dT dT dT)) (B₀.ext X lom) ⟨hit,hl,trivial⟩ rfl nd2 lo2 hd
   fun ad tb s' Q=>⟨_,rfl,rfl,d1 Q.ext hl (Q.at_ 1 1 _ rfl rfl),Q.at_ 1 1 _ rfl rfl,Q.at_ 0 0 _ rfl rfl⟩) fun u p₁ s₁ q=> ?_
  obtain⟨rfl,F⟩:=q;have X₂:aJ [loc,wd,it] s₀ s₁:=jO X (F.1.mono (aD (mI 2)));show Sem.wp (model PR w) _ (letOwnedTupleGo (bR lG) (.ref it) (.int (Int.ofNat x) tx)) _ _ p₁ s₁;rw[aEx];show ∃r s',Runs (model PR w) _ p₁ (FB loc it (.int (Int.ofNat x) tx)) [] s₁ (.ret r) s'/\R r s';refine aEt (τ:=τ) (nu:=nu) (D0:=oD w.params τ nu wd (ps.take i).getLast?) ?_ (hp3 (x,tx) (List.mem_of_getElem? hxi)) (by rw[iK _ _ (hts.trans hln.symm),hln];exact Nat.le_trans hi (Nat.le_trans hps dT)) hτ (B₀.ext X₂ lom) ⟨F.1.frame _ _ hloc q2,F.1.frame _ _ hwd q4,trivial⟩ (bO nd [0,1] rfl) (aB (lo _ (mI 0)) (aD (lo _ (mI 1)))) hd fun px s₃ τ' t1 g1 g2 X₃ at₃=> ?_
  ·cases (ps.take i).getLast? with
   |none=>exact .inl rfl
   |some q=>exact .inr ⟨_,rfl⟩
  ·have n2:∀{y},y≠loc->y≠wd->y∉[loc,wd]:=fun h1 h2 q=>(List.mem_cons.mp q).elim h1 fun q=>h2 (List.mem_singleton.mp q)
   refine ih (i+1) s₃ τ' (ts++[t1]) px hm' hi' g1 (by rw[List.length_append,hts];rfl) (fun t' h'=> ?_) (jO X₂ (X₃.mono (aB (mI 0) (aD (mI 1))))) ?_ ?_ ?_ ?_
   ·rcases List.mem_append.mp h' with h |h
    ·exact htg t' h
    ·rw[List.mem_singleton.mp h];exact g2
   ·rw[htk,List.getLast?_append];exact at₃.1
   ·rw[at₃.2.1,FE _ _ _ _ (hts.trans hln.symm),htk,List.map_append];rfl
   ·exact X₃.frame it _ F.2.2 (n2 (iI nd 2 0 rfl) (iI nd 2 1 rfl))
   ·exact X₃.frame l _ F.2.1 (n2 (iI nd 3 0 rfl) (iI nd 3 1 rfl))
end
noncomputable def AI(P:Params)(ps:List (Nat×Nat))(ws:List (List Nat))(o:Option (Nat×Nat))(ep n i:Nat):HF:=
 dP (fun A u=>lZ (A 1) (A 3)) [1,2,3,0] (fun A K=>[oB P (cO K [0,1]) (A 0) (A 2),aA [] 0,aO (A 0) 0,aA (aP ps) ep])
  (fun A K=>[oD P (fun j=>K (i+8+j)) (A 0) (A 2) o,aA (cD K i ws) ps.length,litE ps.length,aA (aP ps) ep]) (fun u u=>[]) (fun u u=> .ok .next) 12 n i 380
theorem QI(P:Params)(τ τ':Nat->Nat)(nu wd:Nat)(o:Option (Nat×Nat))(h:∀j,j<3->τ j=τ' j):oD P τ nu wd o=oD P τ' nu wd o:=by
 cases o with
 |none=>show oB P τ nu wd=oB P τ' nu wd;unfold oB;rw[h 0 dT,h 1 dT]
 |some q=>show pK P τ nu wd _=pK P τ' nu wd _;unfold pK;rw[h 0 dT,h 1 dT,h 2 dT]
section
variable{w:World}
theorem aEz {ps:List (Nat×Nat)}{o:Option (Nat×Nat)}(hps:ps.length<=8)(hp3:∀q∈ps,q.1<=300)(hws:ps.map (fun q=>bK q.1)=ws)(ho:ps.getLast? =o)(hn:4<=n)(hi:2<=i):
  aG (model PR w) (aX w.params) (AI w.params ps ws o ep n i):=by
 have hwl:ws.length=ps.length:=by rw[<-hws];simp
 refine eN 0 (fun v v=>rfl) ?_ ?_ ?_ (fun v v v v v v=>rfl) (fun v v v v v v=>rfl) (fun v v=>rfl) (fun v v=>rfl) (fun j h=>by simp at h;lia) dT fun A K bl p s hA hK hd B ha nd lo=> ?_
 ·intro A K A' K' a1 a2
  show lZ (A' 1) (A' 3)=lZ (A 1) (A 3);rw[a1 1 (by lia),a1 3 (by lia)]
 ·intro A K A' K' a1 a2
  show[oB _ (cO K' [0,1]) (A' 0) (A' 2),_,aO (A' 0) 0,_]=_;rw[nY a2 [0,1] (by intro a h;simp at h;lia) (by lia),a1 0 (by lia),a1 2 (by lia)]
 ·intro A K A' K' a1 a2
  have a1:∀j,j<n->A' j=A j:=a1;show[oD _ (fun j=>K' (i+8+j)) (A' 0) (A' 2) o,aA (cD K' i ws) _,_,_]=_;rw[a1 0 (by lia),a1 2 (by lia),pE ws i (fun j hj=>a2 _ (by lia)),QI _ (fun j=>K' (i+8+j)) (fun j=>K (i+8+j)) _ _ _ (fun j hj=>a2 _ (by lia))]
 ·obtain⟨t1,t2,t3,t4,_⟩:At s [A 1,A 2,A 3,A 0] [oB w.params (cO K [0,1]) (A 0) (A 2),aA [] 0,aO (A 0) 0,aA (aP ps) ep]:=ha
  refine aEy (s₀:=s) (l:=A 0) (nu:=A 0) (ps:=ps) (ep:=ep) (fun x s h=> ?_) nd lo (by lia) hp3 hd B (fun s' τ ts g1 g2 g3 X e1 e2 e3 e4=> ?_) ps.length 0 s (cO K [0,1]) [] p rfl (Nat.zero_le _) (wB hK _) rfl aE ((aJ.refl s).mono (fun a h=>nomatch h)) t1 t2 t3 t4
  ·obtain⟨_,_,_,_,_,_,_,_,_,h⟩:=h
   cases h
  ·let g:Nat->Nat:=fun j=>if j<8 then ts.getD j 1335 else τ (j - 8)
   have gd:∀(l:List Nat) (j:Nat),(∀t∈l,1335<=t)->1335<=l.getD j 1335:=fun l j h=>by
    rw[List.getD_eq_getElem?_getD];cases q:l[j]? with
    |none=>exact Nat.le_refl _
    |some t=>exact h t (List.mem_of_getElem? q)
   have u:∀j,j<12->upd K i ((List.range 12).map g) (i+j)=g j:=fun j hj=>rZ hj;refine⟨[],(List.range 12).map g,rfl,List.nodup_nil,aE,fun t ht=> ?_,X.mono fun a ha=> ?_,?_,trivial,rfl⟩
   ·obtain⟨j,_,rfl⟩:=List.mem_map.mp ht
    show 1335<=(if j<8 then _ else _);split
    ·exact gd _ _ g3
    ·exact g1 _
   ·exact NG (A:=A) (l:=[1,2,3]) (l':=[1,2,3,0]) dT a ha
   ·rw[iY]
    have eL:cD (upd K i ((List.range 12).map g)) i ws=bA ws ts:=zM ws ts i (by lia) fun j hj=>by
     rw[u j (by lia)];show (if j<8 then ts.getD j 1335 else _)=_;rw[if_pos (by lia),List.getD_eq_getElem?_getD,List.getElem?_eq_getElem hj];rfl
    have eD0:oD w.params (fun j=>upd K i ((List.range 12).map g) (i+8+j)) (A 0) (A 2) o=oD w.params τ (A 0) (A 2) o:=QI _ _ _ _ _ _ fun j hj=>by
     show upd K i _ (i+8+j)=τ j;rw[Nat.add_assoc,u (8+j) (by lia)];show (if 8+j<8 then _ else τ (8+j - 8))=_;rw[if_neg (by lia),Nat.add_sub_cancel_left]
    rw[eL,eD0,<-hws,<-ho];exact⟨e1,e2,e3,e4,trivial⟩
end
end
section
variable (w:World)(g₀:Nat)(ad tb:Nat->Nat)(bl:List (Code×Pos))(p:Pos)(sc ep:Nat)(ps:List (Nat×Nat))(ws:List (List Nat))(J:Str)
theorem aF0:
 aZ w g₀ [sc] ad tb [AI w.params ps ws none ep 4 2,AH J ⟨⟨[32]⟩⟩ (TR.k 14) 2 ws 2 ps.length 4 15] 45 JE (.call (.ref 797) ⟨[.ref sc],[]⟩) bl p 370 [aA (aP ps) ep] [0] (.pure (.done (.ret (.str (J) (aC tb 15))))) [aA (aP ps) ep] 4:=by unfold aZ;kernel_rfl
theorem aF1 (x tx:Nat):
 aZ w g₀ [sc] ad tb [AI w.params ps ws (some (x,tx)) ep 4 2,AH J ⟨⟨[32]⟩⟩ (TR.k 14) 2 ws 2 ps.length 4 15] 45 JE (.call (.ref 797) ⟨[.ref sc],[]⟩) bl p 370 [aA (aP ps) ep] [0] (.pure (.done (.ret (.str (J) (aC tb 15))))) [aA (aP ps) ep] 4:=by unfold aZ;kernel_rfl
end
section
noncomputable def oE:List (List Nat)->List Nat
 | []=>[]
 |w::ws=>32::(w++oE ws)
noncomputable def eF:List (List Nat)->List Nat
 | []=>[]
 |w::ws=>w++oE ws
theorem QJ:∀(ws:List (List Nat)) (acc:Array Nat),((ws.map fun w=>(⟨⟨w⟩⟩:Str)).foldl (fun acc p=>acc++(Str.mk ⟨[32]⟩).cps++p.cps) acc)=acc++(⟨oE ws⟩:Array Nat)
 | [],acc=>by
  apply Array.ext';simp[oE]
 |w::ws,acc=>by
  show ((ws.map fun w=>(⟨⟨w⟩⟩:Str)).foldl (fun acc p=>acc++(Str.mk ⟨[32]⟩).cps++p.cps) (acc++(Str.mk ⟨[32]⟩).cps++(⟨w⟩:Array Nat)))=_;rw[QJ ws];apply Array.ext';simp[oE]
theorem QK(ws:List (List Nat)):Builtin.Str.glued ⟨⟨[32]⟩⟩ (ws.map fun w=>(⟨⟨w⟩⟩:Str))=⟨⟨eF ws⟩⟩:=by
 cases ws with
 |nil=>rfl
 |cons w ws=>
  show Str.mk ((ws.map fun w=>(⟨⟨w⟩⟩:Str)).foldl (fun acc p=>acc++(Str.mk ⟨[32]⟩).cps++p.cps) (⟨w⟩:Array Nat))=_;rw[QJ];congr 1;apply Array.ext';simp[eF]
theorem QL{c:Nat}:∀ws:List (List Nat),(∀w∈ws,w.length<=c)->(oE ws).length<=ws.length*(c+1)
 | [],_=>Nat.zero_le _
 |w::ws,h=>by
  have h1:=h w (.head _);have h2:=QL ws fun v hv=>h v (.tail _ hv);show (32::(w++oE ws)).length<=(ws.length+1)*(c+1);rw[Nat.add_mul,List.length_cons,List.length_append,Nat.one_mul,Nat.add_comm w.length];show (oE ws).length+(w.length+1)<=_;exact Nat.add_le_add h2 (Nat.succ_le_succ h1)
theorem QM (ws:List (List Nat))(h:∀w∈ws,w.length<=c):(eF ws).length<=ws.length*(c+1):=by
 cases ws with
 |nil=>exact Nat.zero_le _
 |cons w ws=>
  have h1:=h w (.head _);have h2:=QL (c:=c) ws fun v hv=>h v (.tail _ hv);show (w++oE ws).length<=(ws.length+1)*(c+1);rw[Nat.add_mul,List.length_append,Nat.one_mul,Nat.add_comm w.length];exact Nat.add_le_add h2 (Nat.le_succ_of_le h1)
theorem QN{c k:Nat}:∀(ws:List (List Nat)) (acc:Nat),(∀w∈ws,w.length<=c)->(ws.map fun w=>(⟨⟨w⟩⟩:Str)).foldl (fun a x=>a+x.length+k) acc<=acc+ws.length*(c+k)
 | [],acc,_=>by simp
 |w::ws,acc,h=>by
  have h1:(Str.mk ⟨w⟩).length<=c:=h w (.head _);have h2:=QN (c:=c) (k:=k) ws (acc+(Str.mk ⟨w⟩).length+k) fun v hv=>h v (.tail _ hv);show (ws.map fun w=>(⟨⟨w⟩⟩:Str)).foldl (fun a x=>a+x.length+k) (acc+(Str.mk ⟨w⟩).length+k)<=acc+(ws.length+1)*(c+k);rw[Nat.add_mul,Nat.one_mul,Nat.add_comm (ws.length*_),<-Nat.add_assoc,<-Nat.add_assoc];exact Nat.le_trans h2 (Nat.add_le_add_right (Nat.add_le_add_right (Nat.add_le_add_left h1 _) _) _)
theorem QO (h:∀w∈ws,w.length<=1000)(hl:ws.length<=100)(hk:k<=100):Builtin.Str.tooLong ((ws.map fun w=>(⟨⟨w⟩⟩:Str)).toArray.foldl (fun a x=>a+x.length+k) 0)=false:=by
 have:=QN (c:=1000) (k:=k) ws 0 h;rw[List.foldl_toArray];unfold Builtin.Str.tooLong;have h2:ws.length*(1000+k)<=100*1100:=Nat.mul_le_mul hl (Nat.add_le_add_left hk 1000);have h4:(ws.map fun w=>(⟨⟨w⟩⟩:Str)).foldl (fun a x=>a+x.length+k) 0<=100*1100:=Nat.le_trans this (by rw[Nat.zero_add];exact h2);exact decide_eq_false (Nat.not_lt.mpr (Nat.le_trans h4 dT))
set_option tactic.hygienic true in
theorem QP(x:Nat):(bK x).length<=3:=by
 unfold bK;have:=tU x;split
 ·decide
 ·rename_i d ds h
  rw[nF,<-h];exact this
noncomputable def wL(J:Str)(qs:List (Nat×Nat))(ep j n i:Nat):HF:=
 dP (fun A u=> .call (.ref 797) ⟨[.ref (A j)],[]⟩) [j] (fun u u=>[aA (aP qs) ep]) (fun u u=>[aA (aP qs) ep]) (fun u u=>[]) (fun u K=> .ok (.ret (.str J (K i)))) 1 n i 360
section
variable{w:World}
theorem AJ {J:Str}(hJ:J=⟨⟨eF (qs.map fun q=>bK q.1)⟩⟩)(hns:qs.length<=8)(hn3:∀q∈qs,q.1<=300)(hj:j<n):aG (model PR w) (aX w.params) (wL J qs ep j n i):=by
 refine eN 0 (fun u u=>rfl) ?_ (fun u u u u u u=>rfl) (fun u u u u u u=>rfl) (fun u u u u u u=>rfl) ?_ (fun u u=>rfl) (fun u u=>rfl) (by simpa using hj) (by simp) fun A K bl p s hA hK hd B ha nd lo=> ?_
 ·intro A K A' K' a1 a2
  show Code.call _ ⟨[.ref (A' j)],[]⟩=Code.call _ ⟨[.ref (A j)],[]⟩;rw[a1 j hj]
 ·intro A K A' K' a1 a2
  show Except.ok (Flow.ret (.str J (K' i)))=Except.ok (Flow.ret (.str J (K i)));rw[a2 i (Nat.lt_succ_self i)]
 ·have hw3:∀w∈qs.map (fun q=>bK q.1),w.length<=3:=fun w hw=>by
   obtain⟨x,_,rfl⟩:=List.mem_map.mp hw;exact QP x.1
  have hJl:J.length<=sizeLine:=by
   have:=QM (c:=3) (qs.map fun q=>bK q.1) hw3;rw[hJ];show (eF (qs.map fun q=>bK q.1)).length<=sizeLine;refine Nat.le_trans (Nat.le_trans this (?_:_<=100)) dT;simp;lia
  have hlong:=QO (ws:=qs.map fun q=>bK q.1) (k:=(Str.mk ⟨[32]⟩).length) (fun w hw=>Nat.le_trans (hw3 w hw) dT) (by simp;lia) dT
  have fin:∀{ad tb:Nat->Nat} {s':Shared},dX [A j] ad s s' [0] [some (aA (aP qs) ep)] 4->
    ∃la lk:List Nat,la.length=0/\la.Nodup/\(∀a∈la,s.heap.objs.size<=a)/\(∀t∈lk,1335<=t)/\aJ (bM A [j]) s s'/\At s' (bM A [j]) [aA (aP qs) ep]/\At s' la []/\
    (Except.ok (Flow.ret (.str J (aC tb 15))):Result)=Except.ok (Flow.ret (.str J (upd K i lk i))):=fun {ad tb s'} Q=>
   ⟨[],[aC tb 15],rfl,List.nodup_nil,aE,aD (bB _ _),Q.ext,⟨Q.at_ 0 0 _ rfl rfl,trivial⟩,trivial,by rw[iG]⟩
  have hP:aG (model PR w) (aX w.params) (AI w.params qs (qs.map fun q=>bK q.1) qs.getLast? ep 4 2):=aEz hns hn3 rfl rfl dT dT;have hQ:aG (model PR w) (aX w.params) (AH J ⟨⟨[32]⟩⟩ (TR.k 14) 2 (qs.map fun q=>bK q.1) 2 qs.length 4 15):=aEr (by rw[QK,hJ]) hJl hlong dT rfl (by simp;lia);cases ho:qs.getLast? with
  |none=>
   rw[ho] at hP;exact cT (fun ad tb=>aF0 w _ ad tb bl p (A j) ep qs _ J) (aB hP (aD hQ)) B ha rfl nd lo (Nat.le_trans hd dT) dT fun ad tb s' Q=>fin Q
  |some q=>
   rw[ho] at hP;obtain⟨x,tx⟩:=q;exact cT (fun ad tb=>aF1 w _ ad tb bl p (A j) ep qs _ J x tx) (aB hP (aD hQ)) B ha rfl nd lo (Nat.le_trans hd dT) dT fun ad tb s' Q=>fin Q
end
end
noncomputable def aF2:List Nat:=[114,101,46,80,97,116,116,101,114,110,46,115,101,97,114,99,104]
noncomputable def FF:String:=sE aF2 rfl
noncomputable def qR:Stmt:=cM 30
noncomputable def aF3:PySem.Expr:=bR (dK (bF qR) 0)
noncomputable def QQ:List Nat:=[112,114,111,116,111,46,99,111,108,108,101,99,116]
noncomputable def QR:String:=sE QQ rfl
theorem aF4:"proto.collect"=QR:=cA QQ rfl
noncomputable def QS:List Nat:=[108,105,115,116,46,95,95,105,97,100,100,95,95]
noncomputable def QT:String:=sE QS rfl
theorem aF5:"list.__iadd__"=QT:=cA QS rfl
noncomputable def QU:List Nat:=[99,108,97,105,109,46,99,97,108,108,101,114]
noncomputable def pL:String:=sE QU rfl
theorem aF6:"claim.caller"=pL:=cA QU rfl
noncomputable def QV:PySem.Expr:=fW aF3
noncomputable def aF7(c loc:Nat):Env:={scope:=rU QV,locals:=loc,globals:=3,cells:=[],qual:=⟨⟨[106,111,105,110,46,60,108,111,99,97,108,115,62,46,60,103,101,110,101,120,112,114,62,46]⟩⟩,func:=none,code:= .ref c,frame:=some loc,builtins:=0}
noncomputable def wM(c loc it:Nat):Code:= .compStart QV 0 (.ref it) .none (aF7 c loc)
noncomputable def eH(g:Nat)(τ:Nat->Nat):Obj:=⟨.type SL.s7929333955151719606x9,none,.fields ⟨[.int (Int.ofNat g) 0,sv [60,103,101,110,101,120,112,114,62] (τ 0),sv [106,111,105,110,46,60,108,111,99,97,108,115,62,46,60,103,101,110,101,120,112,114,62] (τ 1)]⟩,⟨[]⟩⟩
noncomputable def wN(P:Params)(τ:Nat->Nat)(it:Nat):Obj:=⟨fI,none,.dict ⟨[de P [46,48] (τ 0) (.ref it)]⟩ 1,⟨[]⟩⟩
noncomputable def AK(P:Params)(τ:Nat->Nat)(it:Nat)(v:Value):Obj:=⟨fI,none,.dict ⟨[de P [46,48] (τ 0) (.ref it),de P [97,114,103] (τ 1) v]⟩ 2,⟨[]⟩⟩
noncomputable def eT(ls gn:Nat):Code:= .builtin kJ ⟨[.ref ls,.ref gn,.ref ls],[]⟩
noncomputable def fJ(sj:List Value)(jb:List Stmt)(je:Env)(x1:PySem.Expr)(x2:List Comprehension)(x3:Scope)(x4:Pos)(dd:Nat)(ci ca:Value)(ce:Env)(lb:List Stmt)(le:Env)(p1 p2 p3 p4 p5:Pos):List (Code×Pos):=
 [(.builtin oV ⟨sj,[]⟩,p1),(.func jb je,p2),(.compLoop (.ListComp x1 x2 x3 x4) dd ci ca ce,p3),(.func lb le,p4),(.builtin pL ⟨[],[]⟩,p5)]
noncomputable def AL(w:World)(c loc it:Nat):List GenState:=(EO w true 0 [.fresh (wM c loc it)] [] [0,loc,it,0] (fun u=>0) (fun u=>0) [eQ (.str ⟨⟨[]⟩⟩ 0) 2 3 0 [] 0 4 0] 60 JC (eT 0 0) (cQ (.ref 0)) (fJ [] [] default default [] default default 0 .none .none default [] default default default default default default) default 380 [eH 0 (fun u=>0),wN w.params (fun u=>0) it,aO 0 0,aA [] 0]).G
noncomputable def QW(ks:List Nat)(t:TR)(n i:Nat):HF:=dP (fun u K=> .builtin FF ⟨[.ref 72,.str ⟨⟨bD ks⟩⟩ (t.ev K)],[]⟩) [] (fun u u=>[]) (fun u u=>[]) (fun u u=>[]) (fun u u=> .ok (.ret .none)) 0 n i 900
section
def jQ(w:World)(m:Nat):Prop:=m≠2->w.params.followText "comprehension-iter-twice"=Nat.beq m 0
noncomputable def jG(w:World)(c loc it m:Nat):List GenState:=match m with
 |2=>AL w c loc it
 |_=>[.fresh (wM c loc it)]
noncomputable def jD(P:Params)(ρ:Nat->Nat)(it m:Nat)(x:Value):Obj:=match m with
 |2=>AK P ρ it x
 |_=>wN P ρ it
noncomputable def jR(ρ K:Nat->Nat)(m:Nat):Nat->Nat:=match m with
 |2=>ρ
 |_=>bX ρ 1 (K 0)
section
variable(w:World)(g₀:Nat)(p:Pos)(sj:List Value)(jb:List Stmt)(je:Env)(x1:PySem.Expr)(x2:List Comprehension)(x3:Scope)(x4:Pos)(dd:Nat)(ci ca:Value)(ce:Env)(lb:List Stmt)(le:Env)(p1 p2 p3 p4 p5:Pos){m:Nat}(hm:m<3)(hq:jQ w m)(ls gn c loc it l k ep t:Nat)(τ ρ:Nat->Nat)(vs:List Value)(x:Value)
include hm hq
theorem aF8:∃f_ h_,∀ad tb:Nat->Nat,
 let r:=dC w g₀ (jG w c loc it m) [] [gn,loc,it,l] ad tb [eQ (Value.str ⟨⟨[]⟩⟩ t) 2 3 k vs ep 4 0] f_ h_
  (eT ls gn) (cQ (.ref gn)) (fJ sj jb je x1 x2 x3 x4 dd ci ca ce lb le p1 p2 p3 p4 p5) p 380 [eH g₀ τ,jD w.params ρ it m x,aO l k,aA vs ep]
 tL r [0,1,2,3]=tM r [] ⟨eT ls gn,none,none,(fJ sj jb je x1 x2 x3 x4 dd ci ca ce lb le p1 p2 p3 p4 p5),none⟩ (.pure (.done (.ret (sv [39,39] (aC tb 4))))) [some (eH g₀ τ),some (AK w.params (jR ρ (aC tb) m) it (.str ⟨⟨[]⟩⟩ t)),some (aO l (k+1)),some (aA vs ep)] 5 []/\r.G=AL w c loc it:=by
 match m,hm,hq with
 |0,_,hq=>exact⟨60,JC,fun ad tb=>by rw[tK (hq dT)];intro r;exact⟨by kernel_rfl,by kernel_rfl⟩⟩
 |1,_,hq=>exact⟨70,(aQ gV [9,51546423680,20,rL]),fun ad tb=>by rw[tK (hq dT)];intro r;exact⟨by kernel_rfl,by kernel_rfl⟩⟩
 |2,_,hq=>exact⟨59,(aQ gV [16,67117057]),fun ad tb=>by intro r;exact⟨by kernel_rfl,by kernel_rfl⟩⟩
theorem aF9(d0:Nat)(ks:List Nat)(hk:ks.length<=2):∃f_ h_,∀ad tb:Nat->Nat,
 let r:=dC w g₀ (jG w c loc it m) [] [gn,loc,it,l] ad tb [eQ (Value.str ⟨⟨bD (d0::ks)⟩⟩ t) 2 3 k vs ep 4 0,QW (d0::ks) (TR.l t) 5 4] f_ h_
  (eT ls gn) (cQ (.ref gn)) (fJ sj jb je x1 x2 x3 x4 dd ci ca ce lb le p1 p2 p3 p4 p5) p 380 [eH g₀ τ,jD w.params ρ it m x,aO l k,aA vs ep]
 tL r [0,1,2,3]=tM r [] ⟨eT ls gn,none,none,(fJ sj jb je x1 x2 x3 x4 dd ci ca ce lb le p1 p2 p3 p4 p5),none⟩ (.pure (.done (.ret (sv (bD (d0::ks)) t)))) [some (eH g₀ τ),some (AK w.params (jR ρ (aC tb) m) it (.str ⟨⟨bD (d0::ks)⟩⟩ t)),some (aO l (k+1)),some (aA vs ep)] 5 []/\r.G=AL w c loc it:=by
 rcases ks with _ |⟨d1,_ |⟨d2,_ |⟨d3,ks⟩⟩⟩
 rotate_left 3
 ·exact absurd hk (by simp)
 all_goals match m,hm,hq with
  |0,_,hq=>exact⟨76,(aQ 22 [18,5,7,10,9,20485,13,8,6,8,8,9437952,20,rL]),fun ad tb=>by rw[tK (hq dT)];intro r;exact⟨by kernel_rfl,by kernel_rfl⟩⟩
  |1,_,hq=>exact⟨86,(aQ 11 [19,40,46,gV,9,51546423680,20,rL]),fun ad tb=>by rw[tK (hq dT)];intro r;exact⟨by kernel_rfl,by kernel_rfl⟩⟩
  |2,_,hq=>exact⟨75,(aQ 11 [19,40,46,gV,16,67117057]),fun ad tb=>by intro r;exact⟨by kernel_rfl,by kernel_rfl⟩⟩
theorem aFa:∃f_ h_,∀ad tb:Nat->Nat,
 let r:=dC w g₀ (jG w c loc it m) [] [gn,loc,it,l] ad tb [iR 2 3 k vs ep 4 0] f_ h_
  (eT ls gn) (cQ (.ref gn)) (fJ sj jb je x1 x2 x3 x4 dd ci ca ce lb le p1 p2 p3 p4 p5) p 380 [eH g₀ τ,jD w.params ρ it m x,aO l k,aA vs ep]
 tL r [0,1,2,3]=tM r [] ⟨eT ls gn,none,none,(fJ sj jb je x1 x2 x3 x4 dd ci ca ce lb le p1 p2 p3 p4 p5),none⟩ (.pure (.done .brk)) [some (eH g₀ τ),some (jD w.params ρ it m x),some (litE k),some (aA vs ep)] 8 []/\r.G=[GenState.finished]:=by
 match m,hm,hq with
 |0,_,hq=>exact⟨24,(aQ 65549 [5,768,20,rL]),fun ad tb=>by rw[tK (hq dT)];intro r;exact⟨by kernel_rfl,by kernel_rfl⟩⟩
 |1,_,hq=>exact⟨34,(aQ 0x8006801800c00c00680180 [20,rL]),fun ad tb=>by rw[tK (hq dT)];intro r;exact⟨by kernel_rfl,by kernel_rfl⟩⟩
 |2,_,hq=>exact⟨23,0x8006801800c000000000004002001,fun ad tb=>by intro r;exact⟨by kernel_rfl,by kernel_rfl⟩⟩
end
end
section
structure cU(m:List Nat)(s s':Shared):Prop where
 frame:∀(b:Nat) x,s.heap.get? b=some x->b∉m->s'.heap.get? b=some x
 size:s.heap.objs.size<=s'.heap.objs.size
 toks:s.toks<=s'.toks
 drawn:s'.drawn=s.drawn
 os:s'.os=s.os
theorem cU.trans (h:cU m s s')(h':cU m s' s''):cU m s s'':=
 ⟨fun b x q1 q2=>h'.frame b x (h.frame b x q1 q2) q2,Nat.le_trans h.size h'.size,Nat.le_trans h.toks h'.toks,h'.drawn.trans h.drawn,h'.os.trans h.os⟩
theorem cU.mono (h:cU m s s')(hm:∀a∈m,a∈m'):cU m' s s':=⟨fun b x q1 q2=>h.frame b x q1 fun z=>q2 (hm b z),h.size,h.toks,h.drawn,h.os⟩
theorem aT.extN (b:aT w s)(e:cU m s s')(hm:∀a∈m,817<=a):aT w s':=
 ⟨fun a o ha ht=>e.frame a o (b.top a o ha ht) fun z=>absurd ha (Nat.not_lt.mpr (hm a z)),Nat.le_trans b.sz e.size,Nat.le_trans b.tk e.toks⟩
theorem wG.extN {os:List (Option Obj)}(P:wG olds gs₀ ad s s' js os nn [] G):cU olds s s':=
 ⟨fun b x q1 q2=>P.frame b x q1 q2 rfl,P.size,P.toks,P.drawn,P.os⟩
noncomputable def bE(n:Nat):List Nat:=bD (cY n)
noncomputable def QX(w:World)(g₀:Nat)(ad tb:Nat->Nat)(bl:List (Code×Pos))(p:Pos)(t n:Nat):St:=cN w g₀ [] ad tb [] 8 0 (.builtin FF ⟨[.ref 72,.str ⟨⟨bD (cY n)⟩⟩ t],[]⟩) bl p 900 []
theorem aFb(w:World)(g₀:Nat)(ad tb:Nat->Nat)(bl:List (Code×Pos))(p:Pos)(t:Nat):(List.range 299).map (fun n=>dI (QX w g₀ ad tb bl p t (n+1)) [])=
  (List.range 299).map (fun n=>dJ (QX w g₀ ad tb bl p t (n+1)) [] ⟨.builtin FF ⟨[.ref 72,.str ⟨⟨bD (cY (n+1))⟩⟩ t],[]⟩,none,none,bl,none⟩ (.pure (.done (.ret .none))) [] [] 0):=by kernel_rfl
theorem aFc (hx:x<300)(h:cY x=ks)(hne:ks≠[]):aG (model PR w) (aX w.params) (QW ks (.l t) n i):=by
 subst h;obtain _ |x:=x
 ·exact absurd rfl hne
 refine eN 0 (fun u u=>rfl) (fun u u u u u u=>rfl) (fun u u u u u u=>rfl) (fun u u u u u u=>rfl) (fun u u u u u u=>rfl) (fun u u u u u u=>rfl) (fun u u=>rfl) (fun u u=>rfl) (by simp) (by simp) fun A K bl p s hA hK hd B ha nd lo=> ?_;have z:=fun ad tb=>congrArg (·[x]?) (aFb w s.gens.size ad tb bl p t);simp only[List.getElem?_map,List.getElem?_range (show x<299 by lia),Option.map_some,Option.some.injEq] at z;exact cT (olds:=[]) (objs:=[]) (js:=[]) z aE B trivial rfl List.nodup_nil aE hd dT fun ad tb s' Q=>⟨[],[],rfl,List.nodup_nil,aE,aE,Q.ext,trivial,trivial,rfl⟩
section
variable{w:World}{s:Shared}{p:Pos}{R:Result->Shared->Prop}
variable{sj:List Value}{jb:List Stmt}{je:Env}{x1:PySem.Expr}{x2:List Comprehension}{x3:Scope}{x4:Pos}{dd:Nat}{ci ca:Value}{ce:Env}{lb:List Stmt}{le:Env}{p1 p2 p3 p4 p5:Pos}
def oF(w:World)(s:Shared)(gs₀:Array GenState)(gn loc it c:Nat):Prop:=
 ∃τ ρ:Nat->Nat,(∀j,1335<=ρ j)/\s.heap.get? gn=some (eH gs₀.size τ)/\((s.gens=gs₀++[GenState.fresh (wM c loc it)].toArray/\s.heap.get? loc=some (wN w.params ρ it))\/
  (s.gens=gs₀++(AL w c loc it).toArray/\∃x,s.heap.get? loc=some (AK w.params ρ it x)))
theorem QY (g:oF w s gs₀ gn loc it c):∃m,m<3/\jQ w m/\∃τ ρ x,(∀j,1335<=ρ j)/\s.heap.get? gn=some (eH gs₀.size τ)/\s.gens=gs₀++(jG w c loc it m).toArray/\s.heap.get? loc=some (jD w.params ρ it m x):=by
 obtain⟨τ,ρ,hρ,hg,⟨h1,h2⟩ |⟨h1,x,h2⟩⟩:=g
 ·cases hq:w.params.followText "comprehension-iter-twice" with
  |true=>exact⟨0,by decide,fun u=>hq,τ,ρ,.none,hρ,hg,h1,h2⟩
  |false=>exact⟨1,by decide,fun u=>hq,τ,ρ,.none,hρ,hg,h1,h2⟩
 ·exact⟨2,by decide,fun h=>absurd rfl h,τ,ρ,x,hρ,hg,h1,h2⟩
theorem QZ {m:Nat}(h:∀j,1335<=ρ j)(hK:∀j,1335<=K j):∀j,1335<=jR ρ K m j:=by
 unfold jR;split
 ·exact h
 ·exact fH h (hK _)
theorem aFd {l:Nat}(hn:n<300)(hv:vs[k]? =some (sv (bE n) t))(ht:1335<=t)(B:aT w s)(g:oF w s gs₀ gn loc it c)(hit:s.heap.get? it=some (aO l k))(hl:s.heap.get? l=some (aA vs ep))(nd:[gn,loc,it,l].Nodup)(lo:∀x∈[gn,loc,it,l],817<=x)(hd:frameCount (fJ sj jb je x1 x2 x3 x4 dd ci ca ce lb le p1 p2 p3 p4 p5)<=380):
  ∃r s',Runs (model PR w) ⟨eT ls gn,none,none,fJ sj jb je x1 x2 x3 x4 dd ci ca ce lb le p1 p2 p3 p4 p5,none⟩ p (cQ (.ref gn)) [] s (.ret r) s'/\∃fl,r= .ok fl/\∃u,1335<=u/\fl= .ret (sv (bK n) u)/\
   cU [gn,loc,it,l] s s'/\oF w s' gs₀ gn loc it c/\s'.heap.get? it=some (aO l (k+1))/\s'.heap.get? l=some (aA vs ep):=by
 obtain⟨m,hm,hq,τ,ρ,x,hρ,hg,h1,h2⟩:=QY g;have hch:∀(a:Nat) vs,chLook [] a=some vs->a∈fG/\∃c,s.heap.TableAt c a vs:=fun v v h=>nomatch h;cases hds:cY n with
 |nil=>
  have hv:vs[k]? =some (.str ⟨⟨bD []⟩⟩ t):=by rw[hv];unfold bE;rw[hds];rfl
  have epl:bK n=[39,39]:=by unfold bK;rw[hds]
  rw[epl];obtain⟨f_,h_,E⟩:=aF8 w gs₀.size p sj jb je x1 x2 x3 x4 dd ci ca ce lb le p1 p2 p3 p4 p5 hm hq ls gn c loc it l k ep t τ ρ vs x;exact zV (fun ad tb=>(E ad tb).1) h1 hch (aD (kP hv dT dT dT)) B ⟨hg,h2,hit,hl,trivial⟩ rfl nd lo hd fun ad tb px s' Q=>qI ⟨_,rfl,_,bB tb 4,rfl,Q.extN,⟨τ,_,QZ hρ (bB _),Q.at_ 0 0 _ rfl rfl,.inr ⟨by rw[Q.gens,(E ad tb).2],_,Q.at_ 1 1 _ rfl rfl⟩⟩,Q.at_ 2 2 _ rfl rfl,Q.at_ 3 3 _ rfl rfl⟩
 |cons d0 ks=>
  have hv:vs[k]? =some (.str ⟨⟨bD (d0::ks)⟩⟩ t):=by rw[hv];unfold bE;rw[hds];rfl
  have epl:bK n=bD (d0::ks):=by unfold bK;rw[hds]
  rw[epl];obtain⟨f_,h_,E⟩:=aF9 w gs₀.size p sj jb je x1 x2 x3 x4 dd ci ca ce lb le p1 p2 p3 p4 p5 hm hq ls gn c loc it l k ep t τ ρ vs x d0 ks (by have:=tU n;rw[hds] at this;simpa using this);exact zV (fun ad tb=>(E ad tb).1) h1 hch (aB (kP hv dT dT dT) (aD (aFc hn hds (by simp)))) B ⟨hg,h2,hit,hl,trivial⟩ rfl nd lo hd fun ad tb px s' Q=>qI ⟨_,rfl,_,ht,rfl,Q.extN,⟨τ,_,QZ hρ (bB _),Q.at_ 0 0 _ rfl rfl,.inr ⟨by rw[Q.gens,(E ad tb).2],_,Q.at_ 1 1 _ rfl rfl⟩⟩,Q.at_ 2 2 _ rfl rfl,Q.at_ 3 3 _ rfl rfl⟩
theorem aFe {l:Nat}(hv:vs[k]? =none)(B:aT w s)(g:oF w s gs₀ gn loc it c)(hit:s.heap.get? it=some (aO l k))(hl:s.heap.get? l=some (aA vs ep))(nd:[gn,loc,it,l].Nodup)(lo:∀x∈[gn,loc,it,l],817<=x)(hd:frameCount (fJ sj jb je x1 x2 x3 x4 dd ci ca ce lb le p1 p2 p3 p4 p5)<=380):
  ∃r s',Runs (model PR w) ⟨eT ls gn,none,none,fJ sj jb je x1 x2 x3 x4 dd ci ca ce lb le p1 p2 p3 p4 p5,none⟩ p (cQ (.ref gn)) [] s (.ret r) s'/\∃fl,r= .ok fl/\fl= .brk/\
   cU [gn,loc,it,l] s s'/\s'.gens=gs₀++[GenState.finished].toArray/\s'.heap.get? l=some (aA vs ep):=by
 obtain⟨m,hm,hq,τ,ρ,x,hρ,hg,h1,h2⟩:=QY g;obtain⟨f_,h_,E⟩:=aFa w gs₀.size p sj jb je x1 x2 x3 x4 dd ci ca ce lb le p1 p2 p3 p4 p5 hm hq ls gn c loc it l k ep τ ρ vs x;exact zV (fun ad tb=>(E ad tb).1) h1 (fun u u h=>nomatch h) (aD (oA hv dT dT dT)) B ⟨hg,h2,hit,hl,trivial⟩ rfl nd lo hd fun ad tb px s' Q=>qI ⟨_,rfl,rfl,Q.extN,by rw[Q.gens,(E ad tb).2],Q.at_ 3 3 _ rfl rfl⟩
end
end
section
section
variable{w:World}{s:Shared}{bl:List (Code×Pos)}{p:Pos}{R:Result->Shared->Prop}
theorem RA {N:Flow->Shared->Prop}(h:∃r s',Runs (model PR w) ⟨eT g a,none,none,bl,none⟩ p (cQ (.ref a)) [] s (.ret r) s'/\∃fl,r= .ok fl/\N fl s')(hend:∀s',N .brk s'->R (.ok (.ret (.ref g))) s')(hstep:∀v s',N (.ret v) s'->∃o xs n,s'.heap.get? g=some o/\o.data= .seq xs n/\xs.size<=sizeLine/\
   ∀px,wpCode (model PR w) ⟨eT g a,none,none,bl,none⟩ R px {s' with heap:=s'.heap.update g (Obj.mapSeq (·.push v))}):
  wpCode (model PR w) ⟨eT g a,none,none,bl,none⟩ R p s:=by
 rw[zH] at h;have z:=iX (R:=fun r s'=>∃fl,r= .ok fl/\N fl s') h;rw[wpCode_iff_wp]
 have hden:(model PR w).den (eT g a)=Builtin.«list.extend.loop» ⟨[.ref g,.ref a,.ref g],[]⟩:=by
  unfold eT;exact eM (by rw[<-nT];exact entryFor_of_fast (by kernel_rfl)) _
 show Sem.wp (model PR w) _ ((model PR w).den (eT g a)) _ _ p s;rw[hden]
 show Sem.wp (model PR w) _ (pyNext (.ref a)>>= fun r=>match r with
  |none=>ret (.ref g)
  |some x=>do Builtin.List.listUpdate (.ref g) (·.push x);again (.builtin "list.extend.loop" ⟨[.ref g,.ref a,.ref g],[]⟩)) _ _ p s
 rw[Sem.wp_bind'];refine Sem.wp_mono _ _ _ (fun x p' s' q=> ?_) (fun e p' s' q=> ?_) _ _ z
 ·obtain⟨v,hv,q⟩:=q
  cases x with
  |none=>
   injection hv with hv
   subst hv;exact hend s' q
  |some x=>
   injection hv with hv
   subst hv;obtain⟨o,xs,n,ho,hd,hz,hw⟩:=hstep x s' q;show Sem.wp (model PR w) _ (updateSeq g (·.push x)>>= fun k=>again (.builtin "list.extend.loop" ⟨[.ref g,.ref a,.ref g],[]⟩)) _ _ p' s';rw[Sem.wp_bind']
   have hin:PySem.Ctx.In ⟨eT g a,none,none,bl,none⟩ ⟨none,frameCount bl+(eT g a).weight,none,none,PySem.Ctx.units ⟨eT g a,none,none,bl,none⟩⟩:=
    ⟨rfl,Nat.le_refl _,fun k q=>(nomatch q),fun k q=>(nomatch q),Nat.le_refl _⟩
   have hz':(xs.push x).size<=sizeLine+1:=by rw[Array.size_push];lia
   have u:=wpAny_updateSeq (M:=model PR w) (A:=⟨none,frameCount bl+(eT g a).weight,none,none,PySem.Ctx.units ⟨eT g a,none,none,bl,none⟩⟩) (f:=(·.push x)) (E:=fun e s'=>R (.error e) s')
    (Q:=fun k s''=>s''={s' with heap:=s'.heap.update g (Obj.mapSeq (·.push x))}) ho hd rfl hz hz' ⟨eT g a,none,none,bl,none⟩ p' hin
   refine Sem.wp_mono _ _ _ (fun k p'' s'' q=> ?_) (fun e p'' s'' q=>q) _ _ u;subst q;refine⟨?_,?_⟩
   ·rw[<-qE];unfold qD;rw[nT];kernel_rfl
   ·rw[nT];exact hw p''
 ·obtain⟨v,hv,_⟩:=q
  cases hv
end
section
variable{w:World}{R:Result->Shared->Prop}
variable{sj:List Value}{jb:List Stmt}{je:Env}{x1:PySem.Expr}{x2:List Comprehension}{x3:Scope}{x4:Pos}{dd:Nat}{ci ca:Value}{ce:Env}{lb:List Stmt}{le:Env}{p1 p2 p3 p4 p5:Pos}
theorem aFf {l:Nat}(hns:∀n∈ns,n<300)(hts:ts.length=ns.length)(htg:∀t∈ts,1335<=t)(hlen:ns.length<=100)(nd:[gn,loc,it,l,ls].Nodup)(lo:∀x∈[gn,loc,it,l,ls],817<=x)(hd:frameCount (fJ sj jb je x1 x2 x3 x4 dd ci ca ce lb le p1 p2 p3 p4 p5)<=380)(B₀:aT w s₀)(hR:∀s' us,us.length=ns.length->(∀t∈us,1335<=t)->cU [gn,loc,it,l,ls] s₀ s'->s'.gens=gs₀++[GenState.finished].toArray->s'.heap.get? ls=some (aA (bA (ns.map bK) us) (e0+ns.length))->
   s'.heap.get? l=some (aA (bA (ns.map bE) ts) ep)->R (.ok (.ret (.ref ls))) s'):
  ∀(m k:Nat) (s:Shared) (us:List Nat) (p:Pos),ns.length - k=m->k<=ns.length->us.length=k->(∀t∈us,1335<=t)->cU [gn,loc,it,l,ls] s₀ s->oF w s gs₀ gn loc it c->s.heap.get? it=some (aO l k)->
   s.heap.get? l=some (aA (bA (ns.map bE) ts) ep)->s.heap.get? ls=some (aA (bA ((ns.take k).map bK) us) (e0+k))->
   wpCode (model PR w) ⟨eT ls gn,none,none,fJ sj jb je x1 x2 x3 x4 dd ci ca ce lb le p1 p2 p3 p4 p5,none⟩ R p s:=by
 have ndA:([gn,loc,it,l]++[ls]).Nodup:=nd;obtain⟨nd4,_,nd41⟩:=List.nodup_append.mp ndA;have lo4:∀x∈[gn,loc,it,l],817<=x:=eE lo [0,1,2,3] rfl;have nls:ls∉[gn,loc,it,l]:=fun h=>nd41 ls h ls (.head _) rfl;have sub4:∀y∈[gn,loc,it,l],y∈[gn,loc,it,l,ls]:=tE (L:=[gn,loc,it,l,ls]) [0,1,2,3] rfl;intro m;induction m with
 |zero=>
  intro k s us p hm hk hus hug X g hit hl hls;have hk:k=ns.length:=vZ hm hk;subst hk
  have hnone:(bA (ns.map bE) ts)[ns.length]? =none:=by
   rw[List.getElem?_eq_none];rw[iK _ _ (by simpa using hts)];simp
  refine RA (N:=fun fl s'=>fl= .brk/\cU [gn,loc,it,l] s s'/\s'.gens=gs₀++[GenState.finished].toArray/\s'.heap.get? l=some (aA (bA (ns.map bE) ts) ep)) (aFe hnone (B₀.extN X lo) g hit hl nd4 lo4 hd) (fun s' h=> ?_) (fun v s' h=>nomatch h.1);obtain⟨_,X',hg,hl'⟩:=h;refine hR s' us hus hug (X.trans (X'.mono sub4)) hg ?_ hl';have:=X'.frame ls _ hls nls;rw[List.take_length] at this;exact this
 |succ m ih=>
  intro k s us p hm hk hus hug X g hit hl hls;have ar:=vY hm;have hlt:=ar.1;have hnk:ns[k]? =some ns[k]:=List.getElem?_eq_getElem hlt;have lk:us.length=((ns.take k).map bK).length:=by rw[List.length_map,List.length_take,Nat.min_eq_left hk,hus]
  obtain⟨t,ht1,ht2⟩:=tV (ns.map bE) ts k (bE ns[k]) (by simpa using hts) (by simp[hnk]);have htk:ns.take (k+1)=ns.take k++[ns[k]]:=by rw[List.take_add_one,hnk];rfl
  refine RA (N:=fun fl s'=>∃u,1335<=u/\fl= .ret (sv (bK ns[k]) u)/\cU [gn,loc,it,l] s s'/\oF w s' gs₀ gn loc it c/\s'.heap.get? it=some (aO l (k+1))/\s'.heap.get? l=some (aA (bA (ns.map bE) ts) ep))
   (aFd (hns _ (List.getElem_mem hlt)) ht2 (htg t (List.mem_of_getElem? ht1)) (B₀.extN X lo) g hit hl nd4 lo4 hd) (fun s' h=> ?_) (fun v s₁ h=> ?_)
  ·obtain⟨_,_,q,_⟩:=h
   cases q
  ·obtain⟨u,hu,q,X₁,g₁,hit₁,hl₁⟩:=h
   injection q with q
   subst q;have hls₁:=X₁.frame ls _ hls nls;refine⟨_,_,_,hls₁,rfl,?_,fun px=> ?_⟩
   ·show (bA ((ns.take k).map bK) us).length<=sizeLine
    rw[iK _ _ lk,List.length_map,List.length_take,Nat.min_eq_left hk];exact Nat.le_trans (Nat.le_trans hk hlen) dT
   ·have gx:∀y,y≠ls->(s₁.heap.update ls (Obj.mapSeq (·.push (sv (bK ns[k]) u)))).get? y=s₁.heap.get? y:=fun y hy=>Heap.get?_update_other _ _ (Ne.symm hy)
    have X₂:cU [gn,loc,it,l,ls] s {s₁ with heap:=s₁.heap.update ls (Obj.mapSeq (·.push (sv (bK ns[k]) u)))}:=
     ⟨fun y o hy hm=>by
      rw[show (Shared.heap {s₁ with heap:=s₁.heap.update ls (Obj.mapSeq (·.push (sv (bK ns[k]) u)))}).get? y=s₁.heap.get? y from gx y fun q=>hm (q▸mI 4)];exact X₁.frame y o hy fun q=>hm (sub4 y q),
      by show _<=(s₁.heap.update ls _).objs.size;rw[Heap.size_after_update];exact X₁.size,X₁.toks,X₁.drawn,X₁.os⟩
    have ne:∀y∈[gn,loc,it,l],y≠ls:=fun y hy q=>nls (q▸hy);refine ih (k+1) _ (us++[u]) px ar.2.1 ar.2.2 (by rw[List.length_append,hus];rfl) (fun t' h'=> ?_) (X.trans X₂) ?_ ((gx it (ne it (mI 2))).trans hit₁) ((gx l (ne l (mI 3))).trans hl₁) ?_
    ·rcases List.mem_append.mp h' with h |h
     ·exact hug t' h
     ·exact List.mem_singleton.mp h▸hu
    ·obtain⟨τ,ρ,h1,h2,h3⟩:=g₁
     refine⟨τ,ρ,h1,(gx gn (ne gn (mI 0))).trans h2,?_⟩;rcases h3 with⟨h3,h4⟩ |⟨h3,x,h4⟩
     ·exact .inl ⟨h3,(gx loc (ne loc (mI 1))).trans h4⟩
     ·exact .inr ⟨h3,x,(gx loc (ne loc (mI 1))).trans h4⟩
    ·have:=Heap.get?_update_self (h:=s₁.heap) (Obj.mapSeq (·.push (sv (bK ns[k]) u))) hls₁ rfl
     rw[zJ,FE _ _ _ _ lk] at this;rw[htk,List.map_append];exact this
end
end
noncomputable def AM(ls gn:Nat):Sem Fin:=
 bindR (Fast.tw8711993805878244202 (.ref gn)) fun it=>bindR (Fast.tw15112759502256325868 (.ref gn)) fun room=>match room with
  |true=>bindR (Fast.tw922294955767894045 (.ref ls)) fun u=> .pure (.again (.builtin kJ ⟨[.ref ls,it,.ref ls],[]⟩))
  |false=> .pure (.again (.builtin kJ ⟨[.ref ls,it,.ref ls],[]⟩))
noncomputable def oG(ls gn:Nat):Code:= .builtin QT ⟨[.ref ls,.ref gn],[]⟩
noncomputable def nG(gn:Nat):Code:= .builtin QR ⟨[.ref gn],[]⟩
noncomputable def qS(sep:Str)(t gn:Nat):Code:= .builtin oV ⟨[.str sep t,.ref gn],[]⟩
noncomputable def RC(gn:Nat):Sem Fin:=bindR (Fast.tw8711993805878244202 (.ref gn)) fun it=> .pure (.done (.ret it))
section
variable (w:World)(g₀:Nat)(ad tb:Nat->Nat)(bl:List (Code×Pos))(p:Pos)
theorem aFg (g ls gn:Nat)(τ:Nat->Nat):
 fY w g₀ [gn,ls] ad tb [] 16 JG (oG ls gn) (AM ls gn) bl p 380 [eH g τ,aA [] 0] [0,1] (eT ls gn) [eH g τ,aA [] 2] 2:=by unfold fY;kernel_rfl
theorem aFh (g gn:Nat)(τ:Nat->Nat):
 eZ w g₀ [gn] ad tb [] 1 0 (nG gn) bl p 380 [eH g τ] [0,1] (oG (ad 1+817) gn) [eH g τ,aA [] 0] 2:=by unfold eZ;kernel_rfl
theorem aFi (sep:Str)(t g gn:Nat)(τ:Nat->Nat):
 aW w g₀ [gn] ad tb [] 9 549839704065 (qS sep t gn) (RC gn) bl p 380 [eH g τ] [0] (.pure (.done (.ret (.ref gn)))) [eH g τ] 1:=by unfold aW;kernel_rfl
end
section
theorem RD (h:s.heap.get? gn=some (eH g τ)):s.TypeIs (.ref gn) "generator":=
 ⟨_,h,by show Value.type _=_;rw[<-SL.e7929333955151719606x9]⟩
section
variable{w:World}{s:Shared}{bl:List (Code×Pos)}{p:Pos}{R:Result->Shared->Prop}
theorem tY(c:Code)(bl:List (Code×Pos)):PySem.Ctx.In ⟨c,none,none,bl,none⟩ ⟨none,frameCount bl+c.weight,none,none,PySem.Ctx.units ⟨c,none,none,bl,none⟩⟩:=
 ⟨rfl,Nat.le_refl _,fun u q=>(nomatch q),fun u q=>(nomatch q),Nat.le_refl _⟩
theorem aFj (hne:ls≠gn)(hgn:s.heap.get? gn=some (eH g τ))(h:∀p,∃r s',Runs (model PR w) ⟨oG ls gn,none,none,bl,none⟩ p (AM ls gn) [] s (.ret r) s'/\R r s'):
  wpCode (model PR w) ⟨oG ls gn,none,none,bl,none⟩ R p s:=by
 rw[wpCode_iff_wp]
 have hden:(model PR w).den (oG ls gn)=Builtin.«list.__iadd__» ⟨[.ref ls,.ref gn],[]⟩:=by
  unfold oG;exact eM (by rw[<-aF5];exact entryFor_of_fast (by kernel_rfl)) _
 show Sem.wp (model PR w) _ ((model PR w).den (oG ls gn)) _ _ p s;rw[hden];show Sem.wp (model PR w) _ (Builtin.List.listExtendWith (.ref ls) (.ref gn) (.ref ls)) _ _ p s;unfold Builtin.List.listExtendWith;refine pI (tY _ _) (wpAny_typeOf (RD hgn) ⟨rfl,rfl⟩) fun p=> ?_;have z:=(Sem.wp_iff_runs (model PR w) ⟨oG ls gn,none,none,bl,none⟩ (AM ls gn) R p s).mpr (h p);unfold AM at z;rw[<-Fast.te8711993805878244202,<-Fast.te15112759502256325868,<-Fast.te922294955767894045,eR] at z
 have hs:Builtin.List.listSameRef (.ref ls) (.ref gn)=false:=by
  show (ls == gn)=false;exact beq_false_of_ne hne
 rw[hs,if_neg (show ¬((false || Value.type "generator" == Value.type "list" || Value.type "generator" == Value.type "tuple")=true) from by decide)];rw[Sem.wp_bind'];refine Sem.wp_mono _ _ _ (fun iter p₅ s₅ z=> ?_) (fun u u u z=>z) _ _ z;rw[eR] at z;rw[Sem.wp_bind',holding_eq_keep,Sem.wp_keep];refine Sem.wp_mono _ _ _ (fun room p₆ s₆ z=> ?_) (fun u u u z=>z) _ _ z;rw[nT];cases room with
 |true=>
  show Sem.wp (model PR w) _ (Builtin.List.listTouch (.ref ls)>>= fun u=>_) _ _ p₆ s₆;have z:Sem.wp (model PR w) _ (bindR (Builtin.List.listTouch (.ref ls)) _) _ _ p₆ s₆:=z;rw[eR] at z;rw[Sem.wp_bind'];exact z
 |false=>
  have hr:(false || ["set","frozenset","dict","dict_keys","dict_values","dict_items"].any (Value.type "generator" == Value.type ·))=false:=by decide
  show Sem.wp (model PR w) _ (if(false || ["set","frozenset","dict","dict_keys","dict_values","dict_items"].any (Value.type "generator" == Value.type ·))=true then _ else _) _ _ p₆ s₆;rw[hr];exact z
end
section
variable{w:World}{s:Shared}{p:Pos}{R:Result->Shared->Prop}
variable{jb:List Stmt}{je:Env}{x1:PySem.Expr}{x2:List Comprehension}{x3:Scope}{x4:Pos}{dd:Nat}{ci ca:Value}{ce:Env}{lb:List Stmt}{le:Env}{p2 p3 p4 p5:Pos}
noncomputable def pM(jb:List Stmt)(je:Env)(x1:PySem.Expr)(x2:List Comprehension)(x3:Scope)(x4:Pos)(dd:Nat)(ci ca:Value)(ce:Env)(lb:List Stmt)(le:Env)(p2 p3 p4 p5:Pos):List (Code×Pos):=
 [(.func jb je,p2),(.compLoop (.ListComp x1 x2 x3 x4) dd ci ca ce,p3),(.func lb le,p4),(.builtin pL ⟨[],[]⟩,p5)]
theorem aFk {sj:List Value}{p1:Pos}{l:Nat}(hns:∀n∈ns,n<300)(hts:ts.length=ns.length)(htg:∀t∈ts,1335<=t)(hlen:ns.length<=100)(nd:[gn,loc,it,l].Nodup)(lo:∀x∈[gn,loc,it,l],817<=x)(hd:frameCount (fJ sj jb je x1 x2 x3 x4 dd ci ca ce lb le p1 p2 p3 p4 p5)<=380)(B:aT w s)(g:oF w s gs₀ gn loc it c)(hit:s.heap.get? it=some (aO l 0))(hl:s.heap.get? l=some (aA (bA (ns.map bE) ts) ep))(hR:∀s' ls us,us.length=ns.length->(∀t∈us,1335<=t)->cU [gn,loc,it,l] s s'->s'.gens=gs₀++[GenState.finished].toArray->s'.heap.get? ls=some (aA (bA (ns.map bK) us) (2+ns.length))->
   s'.heap.get? l=some (aA (bA (ns.map bE) ts) ep)->s.heap.objs.size<=ls->R (.ok (.ret (.ref ls))) s'):
  wpCode (model PR w) ⟨nG gn,none,none,fJ sj jb je x1 x2 x3 x4 dd ci ca ce lb le p1 p2 p3 p4 p5,none⟩ R p s:=by
 obtain⟨τ,ρ,h1,h2,h3⟩:=g;have l1:817<=gn:=lo _ (by simp);refine kK (fun ad tb=>aFh w s.gens.size ad tb _ p gs₀.size gn τ) (fun u u=>by unfold oG;kernel_rfl) aE B ⟨h2,trivial⟩ rfl (by simp) (aD l1) hd dT fun ad tb px s₁ Q=> ?_;have hls:s.heap.objs.size<=ad 1+817/\ad 1+817<s₁.heap.objs.size:=Q.new 1 (by show 1<=1;decide) (by show 1<2;decide);generalize hLS:ad 1+817=ls at hls;have hls₁:s₁.heap.get? ls=some (aA [] 0):=by have:=Q.at_ 1 1 _ rfl rfl;rw[<-hLS];exact this
 have lt:∀y o,s.heap.get? y=some o->y≠ls:=fun y o hy h=>absurd (Nat.lt_of_lt_of_le (Heap.lt_size hy) hls.1) (by rw[h];exact Nat.lt_irrefl _);have hgn₁:s₁.heap.get? gn=some (eH gs₀.size τ):=Q.at_ 0 0 _ rfl rfl;have X₁:aJ [gn] s s₁:=Q.ext
 have fr₁:∀y o,s.heap.get? y=some o->s₁.heap.get? y=some o:=fun y o hy=>by
  by_cases q:y=gn
  ·subst q;rw[h2] at hy;rw[hgn₁];exact hy
  ·exact X₁.frame y o hy (by simpa using q)
 have ngn:ls≠gn:=fun q=>lt gn _ h2 q.symm;refine aFj ngn hgn₁ fun p=> ?_;refine oX (fun ad tb=>aFg w s₁.gens.size ad tb _ p gs₀.size ls gn τ) (fun u u=>by unfold eT;kernel_rfl) aE (B.ext X₁ (aD l1)) ⟨hgn₁,hls₁,trivial⟩ rfl (by simp;exact Ne.symm ngn) (aB l1 (aD (Nat.le_trans B.sz hls.1))) hd fun ad' tb' px' s₂ Q₂=> ?_;have X₂:aJ [gn,ls] s₁ s₂:=Q₂.ext;have hgn₂:s₂.heap.get? gn=some (eH gs₀.size τ):=Q₂.at_ 0 0 _ rfl rfl;have hls₂:s₂.heap.get? ls=some (aA [] 2):=Q₂.at_ 1 1 _ rfl rfl
 have fr₂:∀y o,s.heap.get? y=some o->s₂.heap.get? y=some o:=fun y o hy=>by
  by_cases q:y=gn
  ·subst q;rw[h2] at hy;rw[hgn₂];exact hy
  ·exact X₂.frame y o (fr₁ y o hy) (by simp[q,lt y o hy])
 have XN:cU [gn,loc,it,l,ls] s s₂:=⟨fun y o hy u=>fr₂ y o hy,Nat.le_trans X₁.size X₂.size,Nat.le_trans X₁.toks X₂.toks,X₂.drawn.trans X₁.drawn,X₂.os.trans X₁.os⟩;have hlocs:∃o,s.heap.get? loc=some o:=by rcases h3 with⟨_,h⟩ |⟨_,x,h⟩ <;> exact⟨_,h⟩
 have nd5:([gn,loc,it,l]++[ls]).Nodup:=List.nodup_append.mpr ⟨nd,by simp,fun y hy z hz=>by
  simp at hz;subst hz;simp only[List.mem_cons,List.not_mem_nil,or_false] at hy;obtain⟨o,ho⟩:=hlocs;rcases hy with h |h |h |h <;> subst h
  ·exact lt _ _ h2
  ·exact lt _ _ ho
  ·exact lt _ _ hit
  ·exact lt _ _ hl⟩
 refine aFf (s₀:=s) (gs₀:=gs₀) (c:=c) (e0:=2) (ep:=ep) (ns:=ns) (ts:=ts) hns hts htg hlen nd5 (fun x hx=> ?_) hd B (fun s' us u1 u2 u3 u4 u5 u6=>hR s' ls us u1 u2 ?_ u4 u5 u6 hls.1) ns.length 0 s₂ [] px' rfl (Nat.zero_le _) rfl aE XN ⟨τ,ρ,h1,hgn₂,?_⟩ (fr₂ _ _ hit) (fr₂ _ _ hl) hls₂
 ·have hx:x∈[gn,loc,it,l]++[ls]:=hx
  rcases List.mem_append.mp hx with h |h
  ·exact lo x h
  ·simp at h;subst h;exact Nat.le_trans B.sz hls.1
 ·exact⟨fun y o hy hm=>u3.frame y o hy fun q=>by
   have q:y∈[gn,loc,it,l]++[ls]:=q;rcases List.mem_append.mp q with h |h
   ·exact hm h
   ·simp at h;exact lt y o hy h,u3.size,u3.toks,u3.drawn,u3.os⟩
 ·rcases h3 with⟨a,b⟩ |⟨a,x,b⟩
  ·exact .inl ⟨by rw[X₂.gens,X₁.gens];exact a,fr₂ _ _ b⟩
  ·exact .inr ⟨by rw[X₂.gens,X₁.gens];exact a,x,fr₂ _ _ b⟩
end
end
section
theorem aFl {c:Code}{t:Sem Fin}{m:Made}(g:Gives t m)(h:m.post (fun v s'=>R (.ok (.ret v)) s') s):
  Sem.wp (model PR w) ⟨c,none,none,bl,none⟩ t (Sem.finPost (model PR w) ⟨c,none,none,bl,none⟩ R) (fun e u s'=>R (.error e) s') p s:=by
 have hin:PySem.Ctx.In ⟨c,none,none,bl,none⟩ (Around.in1 ⟨none,frameCount bl+c.weight,none,none,PySem.Ctx.units ⟨c,none,none,bl,none⟩⟩):=
  ⟨rfl,Nat.le_refl _,fun u q=>(nomatch q),fun u q=>(nomatch q),Nat.le_succ _⟩
 refine Sem.wp_mono _ _ _ (fun fin p' s' q=> ?_) (fun u u u q=>q) _ _ (g PR w _ R s h _ p hin);cases fin with
 |done f=>exact q
 |again c'=>
  refine⟨q.1,q.2 _ p' rfl ⟨rfl,Nat.le_add_right _ _,fun u q=>(nomatch q),fun u q=>(nomatch q),?_⟩⟩;show unitsOf bl<=PySem.Ctx.units ⟨c,none,none,bl,none⟩;exact Nat.le_add_left _ _
noncomputable def wO:List (List Nat)->List Nat->List (Str×Nat)
 |w::ws,t::ts=>(⟨⟨w⟩⟩,t)::wO ws ts
 |_,_=>[]
theorem RE:∀(ws:List (List Nat)) (ts:List Nat),strValues (wO ws ts)=bA ws ts
 | [],[]=>rfl
 | [],_::_=>rfl
 |_::_,[]=>rfl
 |w::ws,t::ts=>congrArg (Value.str ⟨⟨w⟩⟩ t::·) (RE ws ts)
theorem RG:∀(ws:List (List Nat)) (ts:List Nat),ts.length=ws.length->(wO ws ts).map (·.1)=ws.map fun w=>(⟨⟨w⟩⟩:Str)
 | [],[],_=>rfl
 | [],_::_,h=>by simp at h
 |_::_,[],h=>by simp at h
 |w::ws,t::ts,h=>congrArg ((⟨⟨w⟩⟩:Str)::·) (RG ws ts (by simpa using h))
section
variable{w:World}{s:Shared}{p:Pos}{R:Result->Shared->Prop}
variable{jb:List Stmt}{je:Env}{x1:PySem.Expr}{x2:List Comprehension}{x3:Scope}{x4:Pos}{dd:Nat}{ci ca:Value}{ce:Env}{lb:List Stmt}{le:Env}{p2 p3 p4 p5:Pos}
theorem aFm {l:Nat}(hns:∀n∈ns,n<300)(hts:ts.length=ns.length)(htg:∀t∈ts,1335<=t)(hlen:ns.length<=100)(nd:[gn,loc,it,l].Nodup)(lo:∀x∈[gn,loc,it,l],817<=x)(hd:∀p1,frameCount (fJ [.str ⟨⟨[32]⟩⟩ tk,.ref gn] jb je x1 x2 x3 x4 dd ci ca ce lb le p1 p2 p3 p4 p5)<=380)(B:aT w s)(g:oF w s gs₀ gn loc it c)(hit:s.heap.get? it=some (aO l 0))(hl:s.heap.get? l=some (aA (bA (ns.map bE) ts) ep))(hR:∀s' u,1335<=u->cU [gn,loc,it,l] s s'->s'.gens=gs₀++[GenState.finished].toArray->s'.heap.get? l=some (aA (bA (ns.map bE) ts) ep)->R (.ok (.ret (sv (eF (ns.map bK)) u))) s'):
  wpCode (model PR w) ⟨qS ⟨⟨[32]⟩⟩ tk gn,none,none,pM jb je x1 x2 x3 x4 dd ci ca ce lb le p2 p3 p4 p5,none⟩ R p s:=by
 obtain⟨τ,ρ,h1,h2,h3⟩:=id g;have l1:817<=gn:=lo _ (by simp)
 have hdS:frameCount (pM jb je x1 x2 x3 x4 dd ci ca ce lb le p2 p3 p4 p5)<=380:=by
  have:=hd p;unfold fJ at this;rw[frameCount_cons] at this;unfold pM
  lia
 rw[wpCode_iff_wp]
 have hden:(model PR w).den (qS ⟨⟨[32]⟩⟩ tk gn)=Builtin.«str.join» ⟨[.str ⟨⟨[32]⟩⟩ tk,.ref gn],[]⟩:=by
  unfold qS;exact eM (by rw[<-LN];exact entryFor_of_fast (by kernel_rfl)) _
 show Sem.wp (model PR w) _ ((model PR w).den (qS ⟨⟨[32]⟩⟩ tk gn)) _ _ p s;rw[hden];show Sem.wp (model PR w) _ (typeOf (.ref gn)>>= _) _ _ p s;refine pI (tY _ _) (wpAny_typeOf (RD h2) ⟨rfl,rfl⟩) fun p=> ?_;rw[if_neg (show ¬((Value.type "generator" == Value.type "list" || Value.type "generator" == Value.type "tuple")=true) from by decide)];show Sem.wp (model PR w) _ (((pyIter (.ref gn)).tryCatch _)>>= fun v=>collect v>>= fun items=>joinTail ⟨⟨[32]⟩⟩ items) _ _ p s;rw[Sem.wp_bind',Sem.wp_tryCatch]
 have hpi:=bL (R:=fun r s'=>∃fl,r= .ok fl/\fl= .ret (.ref gn)/\aJ [gn] s s'/\s'.heap.get? gn=some (eH gs₀.size τ)) (fun ad tb=>aFi w s.gens.size ad tb (pM jb je x1 x2 x3 x4 dd ci ca ce lb le p2 p3 p4 p5) p ⟨⟨[32]⟩⟩ tk gs₀.size gn τ) aE B ⟨h2,trivial⟩ rfl (by simp) (aD l1)
  hdS fun ad tb s' Q=>⟨_,rfl,rfl,Q.ext,Q.at_ 0 0 _ rfl rfl⟩
 unfold RC at hpi;rw[<-Fast.te8711993805878244202] at hpi;have z:=iX (enc:=fun v=>Flow.ret v) (R:=fun r s'=>∃fl,r= .ok fl/\fl= .ret (.ref gn)/\aJ [gn] s s'/\s'.heap.get? gn=some (eH gs₀.size τ)) hpi;refine Sem.wp_mono _ _ _ (fun v pa s₁ q=> ?_) (fun j j j q=>by obtain⟨_,q,_⟩:=q;cases q) _ _ z;obtain⟨fl,q1,q2,X₁,hgn₁⟩:=q;injection q1 with q1
 rw[<-q1] at q2;injection q2 with q2
 subst q2
 have fr₁:∀y o,s.heap.get? y=some o->s₁.heap.get? y=some o:=fun y o hy=>by
  by_cases q:y=gn
  ·subst q;rw[h2] at hy;rw[hgn₁];exact hy
  ·exact X₁.frame y o hy (by simpa using q)
 have g₁:oF w s₁ gs₀ gn loc it c:=by
  refine⟨τ,ρ,h1,hgn₁,?_⟩;rcases h3 with⟨a,b⟩ |⟨a,x,b⟩
  ·exact .inl ⟨by rw[X₁.gens];exact a,fr₁ _ _ b⟩
  ·exact .inr ⟨by rw[X₁.gens];exact a,x,fr₁ _ _ b⟩
 show Sem.wp (model PR w) _ (collect (.ref gn)>>= fun items=>joinTail ⟨⟨[32]⟩⟩ items) _ _ pa s₁;rw[Sem.wp_bind']
 show Sem.wp (model PR w) _ (runValue (.builtin "proto.collect" ⟨[.ref gn],[]⟩)>>= fun v=>match v with
  | .ref a=>load a>>= fun o=>match o.data with
   | .seq xs _=>pure xs.toList
   |_=>unsupported "internal:collect"
  |_=>unsupported "internal:collect") _ _ pa s₁
 rw[Sem.wp_bind'];unfold runValue;rw[Sem.wp_bind'];unfold PySem.run;rw[Sem.wp_call,aF4];show wpCode (model PR w) ⟨nG gn,none,none,fJ [.str ⟨⟨[32]⟩⟩ tk,.ref gn] jb je x1 x2 x3 x4 dd ci ca ce lb le pa p2 p3 p4 p5,none⟩ _ pa s₁;refine aFk (gs₀:=gs₀) (c:=c) (ns:=ns) (ts:=ts) (ep:=ep) hns hts htg hlen nd lo (hd pa) (B.ext X₁ (aD l1)) g₁ (fr₁ _ _ hit) (fr₁ _ _ hl) fun s' ls us u1 u2 u3 u4 u5 u6 u7=> ?_
 show Sem.wp (model PR w) _ (load ls>>= fun o=>match o.data with
   | .seq xs _=>pure xs.toList
   |_=>unsupported "internal:collect") _ _ pa s'
 rw[Sem.wp_bind'];refine⟨_,u5,?_⟩;show Sem.wp (model PR w) _ (joinTail ⟨⟨[32]⟩⟩ (bA (ns.map bK) us)) _ _ pa s';have hf:=RG (ns.map bK) us (by simpa using u1)
 have hw3:∀w∈ns.map bK,w.length<=3:=fun w hw=>by
  obtain⟨x,_,rfl⟩:=List.mem_map.mp hw;exact QP x
 have hlong:=QO (ws:=ns.map bK) (k:=(Str.mk ⟨[32]⟩).length) (fun w hw=>Nat.le_trans (hw3 w hw) dT) (by simp;lia) dT
 have hJl:(eF (ns.map bK)).length<=sizeLine:=by
  refine Nat.le_trans (Nat.le_trans (QM (c:=3) (ns.map bK) hw3) (?_:_<=1000)) dT;simp;lia
 have gv:=gives_joinTail ⟨⟨[32]⟩⟩ (wO (ns.map bK) us) (by rw[hf];exact hlong);rw[RE] at gv;have X:cU [gn,loc,it,l] s s':=(⟨fun y o hy j=>fr₁ y o hy,X₁.size,X₁.toks,X₁.drawn,X₁.os⟩:cU [gn,loc,it,l] s s₁).trans u3;refine aFl gv ?_;have eJ:=QK (ns.map bK);rw[<-hf] at eJ
 match hq:wO (ns.map bK) us,eJ,hf with
 | [],eJ,_=>
  refine⟨by show (Builtin.Str.glued ⟨⟨[32]⟩⟩ []).length<=sizeLine;rw[show Builtin.Str.glued ⟨⟨[32]⟩⟩ []=⟨⟨eF (ns.map bK)⟩⟩ from eJ];exact hJl,?_⟩;show R (.ok (.ret (.str (Builtin.Str.glued ⟨⟨[32]⟩⟩ []) s'.toks))) _;rw[show Builtin.Str.glued ⟨⟨[32]⟩⟩ []=⟨⟨eF (ns.map bK)⟩⟩ from eJ];exact hR _ s'.toks (Nat.le_trans B.tk X.toks) ⟨X.frame,X.size,Nat.le_succ_of_le X.toks,X.drawn,X.os⟩ u4 u6
 | [q],eJ,_=>
  have e:q.1=⟨⟨eF (ns.map bK)⟩⟩:=eJ;show R (.ok (.ret (.str q.1 q.2))) s';rw[e]
  have hq2:q.2∈us:=by
   cases hn:ns.map bK with
   |nil=>rw[hn] at hq;cases us <;> cases hq
   |cons a as=>
    cases us with
    |nil=>rw[hn] at hq;cases hq
    |cons b bs=>
     rw[hn] at hq;injection hq with hq _
     subst hq;exact .head _
  exact hR s' q.2 (u2 _ hq2) X u4 u6
 |q::q'::r,eJ,_=>
  refine⟨by show (Builtin.Str.glued ⟨⟨[32]⟩⟩ ((q::q'::r).map (·.1))).length<=sizeLine;rw[eJ];exact hJl,?_⟩;show R (.ok (.ret (.str (Builtin.Str.glued ⟨⟨[32]⟩⟩ ((q::q'::r).map (·.1))) s'.toks))) _;rw[eJ];exact hR _ s'.toks (Nat.le_trans B.tk X.toks) ⟨X.frame,X.size,Nat.le_succ_of_le X.toks,X.drawn,X.os⟩ u4 u6
end
end
noncomputable def kQ(x1:PySem.Expr)(x2:List Comprehension)(x3:Scope)(x4:Pos)(dd:Nat)(ci ca:Value)(ce:Env)(lb:List Stmt)(le:Env)(p3 p4 p5:Pos):List (Code×Pos):=
 [(.compLoop (.ListComp x1 x2 x3 x4) dd ci ca ce,p3),(.func lb le,p4),(.builtin pL ⟨[],[]⟩,p5)]
noncomputable def wP(loc:Nat):Env:=nV qR [106,111,105,110,46,60,108,111,99,97,108,115,62,46] 774 773 loc
noncomputable def cJ(l:Nat):Code:= .call (.ref 774) ⟨[.ref l],[]⟩
noncomputable def FG(loc:Nat):Code:= .func (bF qR) (wP loc)
noncomputable def RH(c:Nat)(a b:Int):Ch:=[(769,⟨[.int a 0,.int b 0,.ref c]⟩)]
section
structure RI where
 L:List bP
 κ:List Fr
 Γ:PySem.Ctx
 c:Option (Code×Option Value)
 os:List (Option Obj)
 n:Nat
 ch:Ch
noncomputable def FH(o:St)(js:List Nat):RI:=⟨o.L,o.κ,o.Γ,zB o.t,oU o.T js,o.n,o.ch⟩
noncomputable def FI(o:St)(κ:List Fr)(Γ:PySem.Ctx)(c:Option (Code×Option Value))(os:List (Option Obj))(n:Nat)(ch:Ch):RI:=⟨o.R,κ,Γ,c,os,n,ch⟩
section
variable{w:World}{s:Shared}{bl:List (Code×Pos)}{p:Pos}{c:Code}{t:Sem Fin}{R:Result->Shared->Prop}
theorem aFn {ch₀:Ch}{hs:List HF}{c₁ cx:(Nat->Nat)->(Nat->Nat)->Code}{os:(Nat->Nat)->(Nat->Nat)->List (Option Obj)}{ch:(Nat->Nat)->(Nat->Nat)->Ch}(hE:∀ad tb,FH (dC w gs₀.size G₀ ch₀ olds ad tb hs f h c t bl p d objs) js=FI (dC w gs₀.size G₀ ch₀ olds ad tb hs f h c t bl p d objs) [bZ ⟨c,none,none,bl,none⟩ p d] ⟨c₁ ad tb,none,none,bl,none⟩ (some (cx ad tb,none)) (os ad tb) nn (ch ad tb))(hg:s.gens=gs₀++G₀.toArray)(hch:∀(a:Nat) vs,chLook ch₀ a=some vs->a∈fG/\∃c,s.heap.TableAt c a vs)(hhs:∀hf∈hs,aG (model PR w) (aX w.params) hf)(B:aT w s)(ha:At s olds objs)(hlen:objs.length=olds.length)(hnd:olds.Nodup)(hlo:∀a∈olds,817<=a)(hd:frameCount bl<=d)(hR:∀ad tb px s',wG olds gs₀ ad s s' js (os ad tb) nn (ch ad tb) (dC w gs₀.size G₀ ch₀ olds ad tb hs f h c t bl p d objs).G->wpCode (model PR w) ⟨cx ad tb,none,none,(c₁ ad tb,px)::bl,none⟩ (fun r s₁=>
   ∃r' s₂,Runs (model PR w) ⟨c₁ ad tb,none,none,bl,none⟩ px (dY (dC w gs₀.size G₀ ch₀ olds ad tb hs f h c t bl p d objs).t r) [] s₁ (.ret r') s₂/\R r' s₂) px s'):
  ∃r s',Runs (model PR w) ⟨c,none,none,bl,none⟩ p t [] s (.ret r) s'/\R r s':=by
 refine DE (nU _) t olds objs d f h hs gs₀ G₀ ch₀ hlen (fun j a x e1 e2=>ha.get j a x e1 e2) hnd hlo B.top B.sz B.tk hd hhs hg hch fun ad tb=> ?_;have e:=hE ad tb;unfold FH FI at e;injection e with e1 e2 e3 e4 e5 e6 e7
 refine⟨e1,fun s' F=> ?_⟩;show cR _ _ (dC w gs₀.size G₀ ch₀ olds ad tb hs f h c t bl p d objs).κ (dC w gs₀.size G₀ ch₀ olds ad tb hs f h c t bl p d objs).Γ (dC w gs₀.size G₀ ch₀ olds ad tb hs f h c t bl p d objs).p (dC w gs₀.size G₀ ch₀ olds ad tb hs f h c t bl p d objs).t s';obtain⟨g,l,et⟩:=DV e4;have hchx:∀b,chLook (ch ad tb) b=chLook (dC w gs₀.size G₀ ch₀ olds ad tb hs f h c t bl p d objs).ch b:=fun b=>by rw[e7]
 have z:=hR ad tb (dC w gs₀.size G₀ ch₀ olds ad tb hs f h c t bl p d objs).p s' ⟨fun b x q1 q2 q3=>F.frame b x q1 q2 (by rw[<-q3];exact(hchx b).symm),F.size,F.toks,F.drawn,F.os,F.gens,fun m j o q1 q2=>F.own j o (oW e5 m j o q1 q2),
  fun j h1 h2=>F.new j h1 (by show j<(dC w gs₀.size G₀ ch₀ olds ad tb hs f h c t bl p d objs).n;rw[e6];exact h2),fun j j' h1 h2 q=>F.inj j j' (by show j<(dC w gs₀.size G₀ ch₀ olds ad tb hs f h c t bl p d objs).n;rw[e6];exact h1) (by show j'<(dC w gs₀.size G₀ ch₀ olds ad tb hs f h c t bl p d objs).n;rw[e6];exact h2) q,
  fun a vs q=>F.tabs a vs (by rw[<-q];exact(hchx a).symm)⟩
 generalize hk:dY (dC w gs₀.size G₀ ch₀ olds ad tb hs f h c t bl p d objs).t=k at z et;rw[e2,e3,et];obtain⟨r,s₁,hr,r',s₂,hr',hRr⟩:=z;refine cR.call (r:=r) (s₁:=s₁) hr ?_;exact⟨_,s₂,hr',r',rfl,vL hRr⟩
end
end
section
noncomputable def jA(m:Option Nat):Nat:=match m with |none=>6 |some _=>3
noncomputable def jB(m:Option Nat):Nat:=match m with |none=>7 |some _=>4
noncomputable def jT(m:Option Nat):Nat:=match m with |none=>7 |some _=>2
noncomputable def jN(m:Option Nat):Nat:=match m with |none=>8 |some _=>5
noncomputable def jC(m:Option Nat)(ad:Nat->Nat):Nat:=match m with |none=>ad 5+817 |some cc=>cc
noncomputable def jV(m:Option Nat):Array Value:=match m with |none=>⟨[]⟩ |some cc=>⟨[.int 782 0,.int 20 0,.ref cc]⟩
noncomputable def RJ(m:Option Nat):Ch:=match m with |none=>[(769,⟨[]⟩)] |some cc=>RH cc 782 20
section
variable(w:World)(g₀:Nat)(p:Pos)(x1:PySem.Expr)(x2:List Comprehension)(x3:Scope)(x4:Pos)(dd:Nat)(ci ca:Value)(ce:Env)(lb:List Stmt)(le:Env)(p3 p4 p5:Pos)(l ep:Nat)(vs:List Value)(m:Option Nat)
theorem e_j:∃f_ h_,(∀ad tb:Nat->Nat,
 let r:=dC w g₀ [] (RJ m) [l] ad tb [] f_ h_ (cJ l) (kY (cJ l)) (kQ x1 x2 x3 x4 dd ci ca ce lb le p3 p4 p5) p 375 [aA vs ep]
 FH r [0,2,jA m,jB m]=FI r [bZ ⟨cJ l,none,none,(kQ x1 x2 x3 x4 dd ci ca ce lb le p3 p4 p5),none⟩ p 375] ⟨FG (ad 1+817),none,none,(kQ x1 x2 x3 x4 dd ci ca ce lb le p3 p4 p5),none⟩ (some (.call (.builtin oV) ⟨[.str ⟨⟨[32]⟩⟩ (aC tb 1),.ref (ad (jB m)+817)],[]⟩,none))
  [some (aA vs ep),some (aO l 0),some (wN w.params (fun v=>aC tb (jT m)) (ad 2+817)),some (eH g₀ (fun j=>aC tb (jT m+1+j)))] (jN m) (RH (jC m ad) 782 20)/\r.G=[.fresh (wM (jC m ad) (ad (jA m)+817) (ad 2+817))])/\
 ∀(ad tb:Nat->Nat) (g₁:Nat) (ad' tb':Nat->Nat) (p':Pos) (u:Nat) (J:Str),
 let r:=aY w g₁ [] ad' tb' [] 2 0 (FG (ad 1+817)) (dY (dC w g₀ [] (RJ m) [l] ad tb [] f_ h_ (cJ l) (kY (cJ l)) (kQ x1 x2 x3 x4 dd ci ca ce lb le p3 p4 p5) p 375 [aA vs ep]).t (.ok (.ret (.str J u)))) (kQ x1 x2 x3 x4 dd ci ca ce lb le p3 p4 p5) p' 375 []
 dI r []=dJ r [] ⟨FG (ad 1+817),none,none,(kQ x1 x2 x3 x4 dd ci ca ce lb le p3 p4 p5),none⟩ (.pure (.done (.ret (.str J u)))) [] [] 0:=by
 cases m
 ·exact⟨53,(aQ 114716 [39,0x6001400400400,12,gY,4,0]),fun ad tb=>by intro r;exact⟨by kernel_rfl,by kernel_rfl⟩,fun ad tb g₁ ad' tb' p' u J=>by intro r;kernel_rfl⟩
 ·exact⟨42,(aQ 4097 [31,0x6001400400400,12,gY,4,0]),fun ad tb=>by intro r;exact⟨by kernel_rfl,by kernel_rfl⟩,fun ad tb g₁ ad' tb' p' u J=>by intro r;kernel_rfl⟩
end
end
theorem aFo(w:World)(g₀:Nat)(ad tb:Nat->Nat)(bl:List (Code×Pos))(p:Pos)(sep:Str)(t g gn:Nat)(τ:Nat->Nat):
 eZ w g₀ [gn] ad tb [] 0 0 (.call (.builtin oV) ⟨[.str sep t,.ref gn],[]⟩) bl p 380 [eH g τ] [0] (qS sep t gn) [eH g τ] 1:=by unfold eZ;kernel_rfl
section
structure FJ(s s':Shared)(c cc:Nat):Prop where
 frame:∀(b:Nat) x,s.heap.get? b=some x->b≠769->s'.heap.get? b=some x
 size:s.heap.objs.size<=s'.heap.objs.size
 toks:s.toks<=s'.toks
 drawn:s'.drawn=s.drawn
 os:s'.os=s.os
 gens:s'.gens=s.gens++[GenState.finished].toArray
 tab:s'.heap.TableAt c 769 ⟨[.int 782 0,.int 20 0,.ref cc]⟩
theorem FK {l:List Nat}(h:∀x∈l,a≠x)(h':l.Nodup):(a::l).Nodup:=List.nodup_cons.mpr ⟨fun q=>h a q rfl,h'⟩
section
variable{w:World}{s:Shared}{p:Pos}{R:Result->Shared->Prop}
variable{x1:PySem.Expr}{x2:List Comprehension}{x3:Scope}{x4:Pos}{dd:Nat}{ci ca:Value}{ce:Env}{lb:List Stmt}{le:Env}{p3 p4 p5:Pos}
theorem aFp {P:Nat}{ps:Array Value}(h:s.heap.TableAt c P ps):c≠P:=by
 intro q;subst q;obtain⟨⟨o,vs,h1,h2,h3,h4⟩,h5⟩:=h;rw[h1] at h5;injection h5 with h5
 subst h5;cases h2
set_option tactic.hygienic true in
theorem RK {m:Option Nat}{l:Nat}(hns:∀n∈ns,n<300)(hts:ts.length=ns.length)(htg:∀t∈ts,1335<=t)(hlen:ns.length<=100)(hd:frameCount (kQ x1 x2 x3 x4 dd ci ca ce lb le p3 p4 p5)<=365)(B:aT w s)(hl:s.heap.get? l=some (aA (bA (ns.map bE) ts) ep))(hl8:817<=l)(hT:s.heap.TableAt c₀ 769 (jV m))(hR:∀s' u cc',1335<=u->FJ s s' c₀ cc'->R (.ok (.ret (sv (eF (ns.map bK)) u))) s'):
  wpCode (model PR w) ⟨cJ l,none,none,kQ x1 x2 x3 x4 dd ci ca ce lb le p3 p4 p5,none⟩ R p s:=by
 refine OV (Nat.lt_of_le_of_lt hd dT) ?_;obtain⟨f_,h_,E1,E2⟩:=e_j w s.gens.size p x1 x2 x3 x4 dd ci ca ce lb le p3 p4 p5 l ep (bA (ns.map bE) ts) m;refine aFn (gs₀:=s.gens) (G₀:=[]) (fun ad tb=>(E1 ad tb).1) (by apply Array.ext';simp) (fun a vs h=> ?_) aE B ⟨hl,trivial⟩ rfl (by simp) (aD hl8) (Nat.le_trans hd dT) fun ad tb px s₁ Q=> ?_
 ·have h:(match Nat.beq 769 a with |true=>some (jV m) |false=>none)=some vs:=by cases m <;> exact h
  cases hb:Nat.beq 769 a with
  |true=>
   rw[hb] at h;obtain rfl:=Option.some.inj h;have q:=Nat.eq_of_beq_eq_true hb;subst q;exact⟨by decide,c₀,hT⟩
  |false=>
   rw[hb] at h;cases h
 ·have hG:=Q.gens
  have eG:=(E1 ad tb).2;have hG:s₁.gens=s.gens++[GenState.fresh (wM (jC m ad) (ad (jA m)+817) (ad 2+817))].toArray:=eG▸hG;have jm:2<jA m/\jA m<jB m/\jB m<jN m:=by cases m <;> simp[jA,jB,jN]
  have eA:bG [l] ad (jA m)=ad (jA m)+817:=by cases m <;> rfl
  have eB:bG [l] ad (jB m)=ad (jB m)+817:=by cases m <;> rfl
  have hl₁:s₁.heap.get? l=some (aA (bA (ns.map bE) ts) ep):=Q.at_ 0 0 _ rfl rfl;have hit₁:s₁.heap.get? (ad 2+817)=some (aO l 0):=Q.at_ 1 2 _ rfl rfl;have hlo₁:s₁.heap.get? (ad (jA m)+817)=some (wN w.params (fun _=>aC tb (jT m)) (ad 2+817)):=eA▸Q.at_ 2 (jA m) _ rfl rfl;have hgn₁:s₁.heap.get? (ad (jB m)+817)=some (eH s.gens.size (fun j=>aC tb (jT m+1+j))):=eB▸Q.at_ 3 (jB m) _ rfl rfl;have B₁:aT w s₁:=B.extG Q (aD hl8)
  have nw:∀j,1<=j->j<jN m->s.heap.objs.size<=ad j+817:=fun j a b=>by
   have:=(Q.new j a b).1
   match j,a with
   |j+1,_=>exact this
  have nl:∀{a:Nat},s.heap.objs.size<=a->a≠l:=fun h e=>absurd (Heap.lt_size hl) (Nat.not_lt.mpr (e▸h));have j2:=Nat.lt_trans jm.1 jm.2.1;have j3:=Nat.lt_trans jm.2.1 jm.2.2;have j4:=Nat.lt_trans j2 jm.2.2;have ja:1<=jA m:=Nat.le_trans dT (Nat.le_of_lt jm.1);have jb:1<=jB m:=Nat.le_trans dT (Nat.le_of_lt j2)
  have inj:∀j j',1<=j->1<=j'->j<jN m->j'<jN m->ad j+817=ad j'+817->j=j':=fun j j' a a' b b' e=>by
   match j,a,j',a' with
   |j+1,_,j'+1,_=>exact Q.inj (j+1) (j'+1) b b' e
  have n1:=nw (jA m) ja j3;have n2:=nw 2 dT j4;have n3:=nw (jB m) jb jm.2.2;have i1:(ad (jB m)+817)≠(ad (jA m)+817):=fun e=>absurd (inj _ _ jb ja jm.2.2 j3 e) (Nat.ne_of_gt jm.2.1);have i2:(ad (jB m)+817)≠(ad 2+817):=fun e=>absurd (inj _ _ jb dT jm.2.2 j4 e) (Nat.ne_of_gt j2);have i3:(ad (jA m)+817)≠(ad 2+817):=fun e=>absurd (inj _ _ ja dT j3 j4 e) (Nat.ne_of_gt jm.1);have nd:[(ad (jB m)+817),(ad (jA m)+817),(ad 2+817),l].Nodup:=FK (aB i1 (aB i2 (aD (nl n3)))) (FK (aB i3 (aD (nl n1))) (FK (aD (nl n2)) (by simp)));have lo:∀x∈[(ad (jB m)+817),(ad (jA m)+817),(ad 2+817),l],817<=x:=aB (Nat.le_add_left _ _) (aB (Nat.le_add_left _ _) (aB (Nat.le_add_left _ _) (aD hl8)))
  have hdS:frameCount (pM (bF qR) (wP (ad 1+817)) x1 x2 x3 x4 dd ci ca ce lb le px p3 p4 p5)<=366:=by
   unfold pM;unfold kQ at hd;rw[frameCount_cons];have:(Code.func (bF qR) (wP (ad 1+817))).weight<=1:=vH _
   lia
  have hdJ:∀p1,frameCount (fJ [.str ⟨⟨[32]⟩⟩ (aC tb 1),.ref (ad (jB m)+817)] (bF qR) (wP (ad 1+817)) x1 x2 x3 x4 dd ci ca ce lb le p1 px p3 p4 p5)<=380:=fun p1=>by
   unfold fJ;unfold pM at hdS;rw[frameCount_cons];have h6:(Code.builtin oV ⟨[.str ⟨⟨[32]⟩⟩ (aC tb 1),.ref (ad (jB m)+817)],[]⟩).weight<=6:=vI (by kernel_rfl)
   lia
  show wpCode (model PR w) ⟨.call (.builtin oV) ⟨[.str ⟨⟨[32]⟩⟩ (aC tb 1),.ref (ad (jB m)+817)],[]⟩,none,none,pM (bF qR) (wP (ad 1+817)) x1 x2 x3 x4 dd ci ca ce lb le px p3 p4 p5,none⟩ _ px s₁;refine kK (fun ad' tb'=>aFo w s₁.gens.size ad' tb' _ px ⟨⟨[32]⟩⟩ (aC tb 1) s.gens.size (ad (jB m)+817) (fun j=>aC tb (jT m+1+j))) (fun _ _=>by unfold qS;kernel_rfl) aE B₁ ⟨hgn₁,trivial⟩ rfl (by simp) (aD (lo _ (mI 0))) (Nat.le_trans hdS dT) dT fun ad' tb' px' s₂ Q₂=> ?_;have hgn₂:=Q₂.at_ 0 0 _ rfl rfl;have fr₂:∀y o,s₁.heap.get? y=some o->s₂.heap.get? y=some o:=fun y o hy=>(Q₂.ext.all (os:=[eH s.gens.size fun j=>aC tb (jT m+1+j)]) ⟨hgn₁,trivial⟩ ⟨hgn₂,trivial⟩).frame y o hy fun q=>nomatch q;refine aFm (gs₀:=s.gens) (c:=(jC m ad)) (ns:=ns) (ts:=ts) (ep:=ep) hns hts htg hlen nd lo hdJ (B₁.ext Q₂.ext (aD (lo _ (mI 0)))) ⟨_,_,fun _=>bB _ _,hgn₂,.inl ⟨by rw[Q₂.ext.gens];exact hG,fr₂ _ _ hlo₁⟩⟩ (fr₂ _ _ hit₁) (fr₂ _ _ hl₁) fun s₃ u hu X₃ hg₃ hl₃=> ?_;refine bL (fun ad'' tb''=>E2 ad tb s₃.gens.size ad'' tb'' px u ⟨⟨eF (ns.map bK)⟩⟩) aE (B₁.ext Q₂.ext (aD (lo _ (mI 0))) |>.extN X₃ lo) trivial rfl List.nodup_nil aE (Nat.le_trans hd dT) fun ad'' tb'' s₄ Q₄=> ?_;have tb769:=Q.tabs 769 _ rfl;have old:∀y o,s.heap.get? y=some o->y∉[(ad (jB m)+817),(ad (jA m)+817),(ad 2+817)]:=fun y o hy q=>absurd (Heap.lt_size hy) (Nat.not_lt.mpr (aB n3 (aB n1 (aD n2)) y q))
  have keep:∀y o,s₁.heap.get? y=some o->(y=l->o=aA (bA (ns.map bE) ts) ep)->y∉[(ad (jB m)+817),(ad (jA m)+817),(ad 2+817)]->s₄.heap.get? y=some o:=fun y o hy ho hm=>by
   refine Q₄.ext.frame y o ?_ fun q=>nomatch q
   by_cases q:y=l
   ·subst q;rw[ho rfl];exact hl₃
   ·exact X₃.frame y o (fr₂ y o hy) (fun z=>(List.mem_append.mp (show y∈[(ad (jB m)+817),(ad (jA m)+817),(ad 2+817)]++[l] from z)).elim hm fun z=>q (List.mem_singleton.mp z))
  have keepS:∀y o,s.heap.get? y=some o->y≠769->s₄.heap.get? y=some o:=fun y o hy h769=>by
   by_cases q:y=l
   ·subst q
    rw[hl] at hy;refine Q₄.ext.frame y o ?_ fun q=>nomatch q;rw[<-hy];exact hl₃
   ·refine keep y o (Q.frame y o hy (by simpa using q) ?_) (fun h=>absurd h q) (old y o hy)
    show (match Nat.beq 769 y with |true=>some _ |false=>none)=none;split
    ·rename_i h
     exact absurd (Nat.eq_of_beq_eq_true h).symm h769
    ·rfl
  have l769:(769:Nat)∉[(ad (jB m)+817),(ad (jA m)+817),(ad 2+817)]:=fun q=>absurd (aB (Q:=(817<=·)) (Nat.le_add_left _ _) (aB (Nat.le_add_left _ _) (aD (Nat.le_add_left _ _))) 769 q) dT;refine hR s₄ u (jC m ad) hu ⟨keepS,?_,?_,?_,?_,?_,?_⟩
  ·exact Nat.le_trans Q.size (Nat.le_trans Q₂.ext.size (Nat.le_trans X₃.size Q₄.ext.size))
  ·exact Nat.le_trans Q.toks (Nat.le_trans Q₂.ext.toks (Nat.le_trans X₃.toks Q₄.ext.toks))
  ·exact Q₄.ext.drawn.trans (X₃.drawn.trans (Q₂.ext.drawn.trans Q.drawn))
  ·exact Q₄.ext.os.trans (X₃.os.trans (Q₂.ext.os.trans Q.os))
  ·rw[Q₄.ext.gens];exact hg₃
  ·obtain⟨⟨o,vs,a1,a2,a3,a4⟩,a5⟩:=id hT
   refine⟨⟨o,vs,keepS _ _ a1 (aFp hT),a2,a3,a4⟩,?_⟩;exact keep 769 _ tb769.2.1 (fun h=>absurd (h▸hl8:817<=769) dT) l769
end
end
noncomputable def RM(lb:List Stmt)(le:Env)(p4 p5:Pos):List (Code×Pos):=
 [(.func lb le,p4),(.builtin pL ⟨[],[]⟩,p5)]
noncomputable def tZ(vs:(Nat->Nat)->List Value)(ep ji n i:Nat):HF:=
 dP (fun A u=>nG (A ji)) [ji] (fun u K=>[aA (vs K) ep]) (fun u K=>[aA (vs K) ep]) (fun u K=>[aA (vs K) 1]) (fun A u=> .ok (.ret (.ref (A n)))) 0 n i 900
noncomputable def uA:Stmt:=match bF (cM 4) with
 |s::_=>s
 | []=> .Pass default
noncomputable def uB(nm qn:List Nat)(st:Stmt)(cl:List (Str×Addr))(cd:Nat)(ct:Value):Obj:=
 ⟨.type SL.s7174869446012820540x8,none,.func {name:=⟨⟨nm⟩⟩,qualname:=⟨⟨qn⟩⟩,params:=DF st,body:= .stmts (bF st),scope:=kI st,globals:=3,closure:=cl,defaults:= .none,kwdefaults:= .none,doc:= .none,pyModule:=sv sf 1291,annotations:=none,code:= .ref cd,closureTuple:=ct,builtins:=0},⟨[]⟩⟩
noncomputable def iM(cd:Nat):Obj:=uB sa s7 (fK uA 2) [] cd .none
noncomputable def pN(mc cd ct:Nat):Obj:=uB rF sx (fK uA 3) [(⟨⟨uY⟩⟩,mc)] cd (.ref ct)
noncomputable def pO(mc cd ct:Nat):Obj:=uB rG sy (fK uA 4) [(⟨⟨uY⟩⟩,mc)] cd (.ref ct)
noncomputable def pP(mc cd ct:Nat):Obj:=uB rH sA (fK uA 5) [(⟨⟨uY⟩⟩,mc)] cd (.ref ct)
noncomputable def pQ(mc cd ct:Nat):Obj:=uB rI sB (fK uA 6) [(⟨⟨uY⟩⟩,mc)] cd (.ref ct)
noncomputable def pR(mc cd ct:Nat):Obj:=uB rJ sC (fK uA 7) [(⟨⟨uY⟩⟩,mc)] cd (.ref ct)
noncomputable def bY(c ns bt t0 t1:Nat):Obj:=
 ⟨.type SL.s17162191345867700912x4,none,.cls {name:=⟨⟨[75]⟩⟩,bases:=[.type SL.s2742458400755230247x6],mro:=[.ref c,.type SL.s2742458400755230247x6],ns:=ns,qualname:=⟨⟨s9⟩⟩,hasDict:=false,slotNames:=[⟨⟨[111,98,106]⟩⟩],subclasses:=[],abstract:=false,collection:=none,hasDel:=false},⟨[some (.ref bt),none,some (sv [75] t0),some (sv s9 t1),some (.builtin SL.s11443829558043349243x14),some (.bool false)]⟩⟩
noncomputable def dE(c t:Nat):Obj:=
 ⟨.type SL.s5699418376593618685x17,none,.fields ⟨[sv [111,98,106] t,.ref c,.builtin SL.s6779124196712981104x10,.builtin SL.s2924395122027826103x14,.int (Int.ofNat 0) 0]⟩,⟨[]⟩⟩
noncomputable def iT(P:Params)(τ:Nat->Nat)(sl fi fl fg fe fle fge st md:Nat):Obj:=
 ⟨.type SL.s14018661285674007319x4,none,.dict ⟨[de P si (τ 0) (sv sh (τ 1)),de P sd (τ 2) (.int (Int.ofNat 9) (τ 3)),de P sX (τ 4) (.ref sl),de P sa (τ 5) (.ref fi),de P rF (τ 6) (.ref fl),de P rG (τ 7) (.ref fg),de P rH (τ 8) (.ref fe),de P rI (τ 9) (.ref fle),de P rJ (τ 10) (.ref fge),de P xQ (τ 11) .none,de P s8 (τ 12) (.ref st),de P [111,98,106] (τ 13) (.ref md),de P sO (τ 14) .none]⟩ 3,⟨[]⟩⟩
noncomputable def jW(nm qn:List Nat)(ln:Nat)(τ:Nat->Nat)(a b c d e:Nat):Obj:=
 ⟨.type SL.s5856160107412720595x4,none,.fields ⟨[sv nm (τ 0),sv qn (τ 1),sv s6 (τ 2),.int (Int.ofNat ln) 0,.int (Int.ofNat 2) 0,.int (Int.ofNat 0) 0,.int (Int.ofNat 0) 0,.int (Int.ofNat 19) 0,.ref a,.bool true,.int (Int.ofNat 318) 0,.ref b,.none,.ref c,.ref d,.ref e,.int (Int.ofNat (τ 3)) 0,.int (Int.ofNat ln) 0,sv s6 (τ 4)]⟩,⟨[]⟩⟩
noncomputable def fU(f:Value)(b:Bool)(its own:Nat):Obj:=⟨.type SL.s14339709457334898076x3,none,.fields ⟨[f,.bool b,.bool false,.ref its,.ref own]⟩,⟨[]⟩⟩
noncomputable def mD(a its own:Nat)(b:Bool):Obj:=fU (.int (Int.ofNat a) 0) b its own
section
variable (w:World)(g₀:Nat)(ad tb:Nat->Nat)(bl:List (Code×Pos))(p:Pos)(z its own it1 l1 it2 l2:Nat)
theorem aFq (ls k ep1 ep2:Nat)(vs1 vs2:List Value)(x:List Nat)(tx:Nat)(y:List Nat)(ty:Nat):
 aW w g₀ [z,its,own,it1,l1,it2,l2] ad tb [eQ (sv x tx) 3 4 k vs1 ep1 7 0,eQ (sv y ty) 5 6 k vs2 ep2 7 0] 38 (aQ gk [40,0xc00c00c00c00e00c006003003003003802001000,12,gk,12,gI,1,1]) (cK z ls) (cQ (.ref z)) bl p 380 [fU .none false its own,aK [.ref it1,.ref it2],aK [.none,.none],aO l1 k,aA vs1 ep1,aO l2 k,aA vs2 ep2] [0,1,2,3,4,5,6,7] (.pure (.done (.ret (.ref (bG [z,its,own,it1,l1,it2,l2] ad 7))))) [mD (bG [z,its,own,it1,l1,it2,l2] ad 7) its own false,aK [.ref it1,.ref it2],aK [sv x tx,sv y ty],aO l1 (k+1),aA vs1 ep1,aO l2 (k+1),aA vs2 ep2,aK [sv x tx,sv y ty]] 8:=by unfold aW;kernel_rfl
theorem aFr (ls k ep1 ep2:Nat)(vs1 vs2:List Value):
 aW w g₀ [z,its,own,it1,l1,it2,l2] ad tb [iR 3 4 k vs1 ep1 7 0] 21 0x90010018020010004004004004008004004002001 (cK z ls) (cQ (.ref z)) bl p 380 [fU .none false its own,aK [.ref it1,.ref it2],aK [.none,.none],aO l1 k,aA vs1 ep1,aO l2 k,aA vs2 ep2] [0,1,2,3,4,5,6] (.pure (.done .brk)) [⟨.type SL.s14339709457334898076x3,none,.fields ⟨[.none,.bool (false),.bool (false),.ref its,.ref own]⟩,⟨[]⟩⟩,aK [.ref it1,.ref it2],aK [.none,.none],litE k,aA vs1 ep1,aO l2 k,aA vs2 ep2] 9:=by unfold aW;kernel_rfl
theorem aFs (ls k ep1 ep2:Nat)(vs1 vs2:List Value)(x:List Nat)(tx:Nat):
 aW w g₀ [z,its,own,it1,l1,it2,l2] ad tb [eQ (sv x tx) 3 4 k vs1 ep1 7 0,iR 5 6 k vs2 ep2 7 0] 30 0x2400400600c0060030030030038020010004004004004008004004002001 (cK z ls) (cQ (.ref z)) bl p 380 [fU .none false its own,aK [.ref it1,.ref it2],aK [.none,.none],aO l1 k,aA vs1 ep1,aO l2 k,aA vs2 ep2] [0,1,2,3,4,5,6] (.pure (.done .brk)) [⟨.type SL.s14339709457334898076x3,none,.fields ⟨[.none,.bool (false),.bool (false),.ref its,.ref own]⟩,⟨[]⟩⟩,aK [.ref it1,.ref it2],aK [sv x tx,.none],aO l1 (k+1),aA vs1 ep1,litE k,aA vs2 ep2] 9:=by unfold aW;kernel_rfl
theorem aFt (a0 ls k ep1 ep2:Nat)(vs1 vs2:List Value)(u v:Value)(x:List Nat)(tx:Nat)(y:List Nat)(ty:Nat):
 aW w g₀ [z,its,own,it1,l1,it2,l2,a0] ad tb [eQ (sv x tx) 3 4 k vs1 ep1 8 0,eQ (sv y ty) 5 6 k vs2 ep2 8 0] 23 (aQ 33603590 [24,CF,12,gI,1,1]) (cK z ls) (cQ (.ref z)) bl p 380 [mD a0 its own false,aK [.ref it1,.ref it2],aK [u,v],aO l1 k,aA vs1 ep1,aO l2 k,aA vs2 ep2,aK [u,v]] [0,1,2,3,4,5,6,7,8] (.pure (.done (.ret (.ref (bG [z,its,own,it1,l1,it2,l2,a0] ad 8))))) [mD a0 its own true,aK [.ref it1,.ref it2],aK [u,v],aO l1 (k+1),aA vs1 ep1,aO l2 (k+1),aA vs2 ep2,aK [u,v],aK [sv x tx,sv y ty]] 9:=by unfold aW;kernel_rfl
theorem aFu (a0 ls k ep1 ep2:Nat)(vs1 vs2:List Value)(u v:Value):
 aW w g₀ [z,its,own,it1,l1,it2,l2,a0] ad tb [iR 3 4 k vs1 ep1 8 0] 19 (aQ 10 [24,CF,12,gI,1,1]) (cK z ls) (cQ (.ref z)) bl p 380 [mD a0 its own false,aK [.ref it1,.ref it2],aK [u,v],aO l1 k,aA vs1 ep1,aO l2 k,aA vs2 ep2,aK [u,v]] [0,1,2,3,4,5,6,7] (.pure (.done .brk)) [⟨.type SL.s14339709457334898076x3,none,.fields ⟨[.int (Int.ofNat a0) 0,.bool (true),.bool (false),.ref its,.ref own]⟩,⟨[]⟩⟩,aK [.ref it1,.ref it2],aK [u,v],litE k,aA vs1 ep1,aO l2 k,aA vs2 ep2,aK [u,v]] 10:=by unfold aW;kernel_rfl
theorem aFv (a0 ls k ep1 ep2:Nat)(vs1 vs2:List Value)(u v:Value)(x:List Nat)(tx:Nat):
 aW w g₀ [z,its,own,it1,l1,it2,l2,a0] ad tb [eQ (sv x tx) 3 4 k vs1 ep1 8 0,iR 5 6 k vs2 ep2 8 0] 23 (aQ 704692230 [24,CF,12,gI,1,1]) (cK z ls) (cQ (.ref z)) bl p 380 [mD a0 its own false,aK [.ref it1,.ref it2],aK [u,v],aO l1 k,aA vs1 ep1,aO l2 k,aA vs2 ep2,aK [u,v]] [0,1,2,3,4,5,6,7] (.pure (.done .brk)) [⟨.type SL.s14339709457334898076x3,none,.fields ⟨[.int (Int.ofNat a0) 0,.bool (true),.bool (false),.ref its,.ref own]⟩,⟨[]⟩⟩,aK [.ref it1,.ref it2],aK [u,v],aO l1 (k+1),aA vs1 ep1,litE k,aA vs2 ep2,aK [u,v]] 10:=by unfold aW;kernel_rfl
theorem aFw (a0 ls k ep1 ep2:Nat)(vs1 vs2:List Value)(u v:Value)(x:List Nat)(tx:Nat)(y:List Nat)(ty:Nat):
 aW w g₀ [z,its,own,it1,l1,it2,l2,a0] ad tb [eQ (sv x tx) 3 4 k vs1 ep1 8 0,eQ (sv y ty) 5 6 k vs2 ep2 8 0] 21 0x200c0068020010004020004008004004002001 (cK z ls) (cQ (.ref z)) bl p 380 [mD a0 its own true,aK [.ref it1,.ref it2],aK [u,v],aO l1 k,aA vs1 ep1,aO l2 k,aA vs2 ep2,aK [u,v]] [0,1,2,3,4,5,6,7,8] (.pure (.done (.ret (.ref (bG [z,its,own,it1,l1,it2,l2,a0] ad 8))))) [mD a0 its own true,aK [.ref it1,.ref it2],aK [u,v],aO l1 (k+1),aA vs1 ep1,aO l2 (k+1),aA vs2 ep2,aK [u,v],aK [sv x tx,sv y ty]] 9:=by unfold aW;kernel_rfl
theorem aFx (a0 ls k ep1 ep2:Nat)(vs1 vs2:List Value)(u v:Value):
 aW w g₀ [z,its,own,it1,l1,it2,l2,a0] ad tb [iR 3 4 k vs1 ep1 8 0] 17 0xa8020010004020004008004004002001 (cK z ls) (cQ (.ref z)) bl p 380 [mD a0 its own true,aK [.ref it1,.ref it2],aK [u,v],aO l1 k,aA vs1 ep1,aO l2 k,aA vs2 ep2,aK [u,v]] [0,1,2,3,4,5,6,7] (.pure (.done .brk)) [⟨.type SL.s14339709457334898076x3,none,.fields ⟨[.int (Int.ofNat a0) 0,.bool (true),.bool (false),.ref its,.ref own]⟩,⟨[]⟩⟩,aK [.ref it1,.ref it2],aK [u,v],litE k,aA vs1 ep1,aO l2 k,aA vs2 ep2,aK [u,v]] 10:=by unfold aW;kernel_rfl
theorem aFy (a0 ls k ep1 ep2:Nat)(vs1 vs2:List Value)(u v:Value)(x:List Nat)(tx:Nat):
 aW w g₀ [z,its,own,it1,l1,it2,l2,a0] ad tb [eQ (sv x tx) 3 4 k vs1 ep1 8 0,iR 5 6 k vs2 ep2 8 0] 21 0x2a00c0068020010004020004008004004002001 (cK z ls) (cQ (.ref z)) bl p 380 [mD a0 its own true,aK [.ref it1,.ref it2],aK [u,v],aO l1 k,aA vs1 ep1,aO l2 k,aA vs2 ep2,aK [u,v]] [0,1,2,3,4,5,6,7] (.pure (.done .brk)) [⟨.type SL.s14339709457334898076x3,none,.fields ⟨[.int (Int.ofNat a0) 0,.bool (true),.bool (false),.ref its,.ref own]⟩,⟨[]⟩⟩,aK [.ref it1,.ref it2],aK [u,v],aO l1 (k+1),aA vs1 ep1,litE k,aA vs2 ep2,aK [u,v]] 10:=by unfold aW;kernel_rfl
end
section
theorem aJ.drop (X:aJ olds s s')(h:∀y∈olds,y∈m\/∃o,s.heap.get? y=some o/\s'.heap.get? y=some o):cU m s s':=
 ⟨fun b o ho hb=>by
  by_cases q:b∈olds
  ·rcases h b q with h |⟨o',h1,h2⟩
   ·exact absurd h hb
   ·rw[h1] at ho;rw[h2];exact ho
  ·exact X.frame b o ho q,X.size,X.toks,X.drawn,X.os⟩
structure uC(s:Shared)(z its own it1 l1 it2 l2:Nat)(vs1 vs2:List Value)(ep1 ep2 k:Nat):Prop where
 ht:s.heap.get? its=some (aK [.ref it1,.ref it2])
 i1:s.heap.get? it1=some (aO l1 k)
 h1:s.heap.get? l1=some (aA vs1 ep1)
 i2:s.heap.get? it2=some (aO l2 k)
 h2:s.heap.get? l2=some (aA vs2 ep2)
 st:(s.heap.get? z=some (fU .none false its own)/\s.heap.get? own=some (aK [.none,.none]))\/
  ∃a0 u v b,817<=a0/\a0∉[z,its,own,it1,l1,it2,l2]/\s.heap.get? z=some (mD a0 its own b)/\s.heap.get? own=some (aK [u,v])/\s.heap.get? a0=some (aK [u,v])
section
variable{w:World}{s:Shared}{bl:List (Code×Pos)}{p:Pos}{R:Result->Shared->Prop}
theorem wQ {l:List Nat}(h:l.Nodup)(ha:a∉l):(l++[a]).Nodup:=
 List.nodup_append.mpr ⟨h,by simp,fun y hy z hz=>by simp at hz;subst hz;exact fun q=>ha (q▸hy)⟩
theorem FL {Q:Nat->Prop}{l:List Nat}(h:∀x∈l,Q x)(ha:Q a):∀x∈l++[a],Q x:=fun x hx=>by
 rcases List.mem_append.mp hx with q |q
 ·exact h x q
 ·rw[List.mem_singleton.mp q];exact ha
theorem pS {l:List Nat}(h:∀x∈l,817<=x)(ha:817<=a):∀x∈l++[a],817<=x:=FL h ha
theorem AN {z own:Nat}{a b c:Obj}(h1:s.heap.get? its=some a)(h2:s.heap.get? l1=some b)(h3:s.heap.get? l2=some c)(g1:s'.heap.get? its=some a)(g2:s'.heap.get? l1=some b)(g3:s'.heap.get? l2=some c):
  ∀y∈[z,its,own,it1,l1,it2,l2],y∈[z,own,it1,it2]\/∃o,s.heap.get? y=some o/\s'.heap.get? y=some o:=
 aB (.inl (mI 0)) (aB (.inr ⟨_,h1,g1⟩) (aB (.inl (mI 1)) (aB (.inl (mI 2)) (aB (.inr ⟨_,h2,g2⟩) (aB (.inl (mI 3)) (aD (.inr ⟨_,h3,g3⟩)))))))
theorem aFz {z own:Nat}{x y:List Nat}(hx:vs1[k]? =some (sv x tx))(hy:vs2[k]? =some (sv y ty))(nd:[z,its,own,it1,l1,it2,l2].Nodup)(lo:∀a∈[z,its,own,it1,l1,it2,l2],817<=a)(B:aT w s)(Z:uC s z its own it1 l1 it2 l2 vs1 vs2 ep1 ep2 k)(hd:frameCount bl<=380):
  ∃r s',Runs (model PR w) ⟨cK z ls,none,none,bl,none⟩ p (cQ (.ref z)) [] s (.ret r) s'/\∃fl,r= .ok fl/\∃t,fl= .ret (.ref t)/\cU [z,own,it1,it2] s s'/\s'.gens=s.gens/\s.heap.objs.size<=t/\
   s'.heap.get? t=some (aK [sv x tx,sv y ty])/\uC s' z its own it1 l1 it2 l2 vs1 vs2 ep1 ep2 (k+1):=by
 have hk:∀n,7<=n->∀hf∈[eQ (sv x tx) 3 4 k vs1 ep1 n 0,eQ (sv y ty) 5 6 k vs2 ep2 n 0],aG (model PR w) (aX w.params) hf:=fun n hn=>
  aB (kP hx (by lia) (by lia) dT) (aD (kP hy (by lia) (by lia) dT))
 rcases Z.st with⟨hz,ho⟩ |⟨a0,u,v,b,la,na,hz,ho,h0⟩
 ·refine bL (fun ad tb=>aFq w s.gens.size ad tb bl p z its own it1 l1 it2 l2 ls k ep1 ep2 vs1 vs2 x tx y ty) (hk 7 dT) B ⟨hz,Z.ht,ho,Z.i1,Z.h1,Z.i2,Z.h2,trivial⟩ rfl nd lo hd fun ad tb s' Q=> ?_
  have n7:=Q.new 7 (by show 7<=7;decide) (by show 7<8;decide);have lt:∀y o,s.heap.get? y=some o->ad 7+817≠y:=fun y o hy q=>absurd (Nat.lt_of_lt_of_le (Heap.lt_size hy) n7.1) (by rw[<-q];exact Nat.lt_irrefl _);refine⟨_,rfl,ad 7+817,rfl,Q.ext.drop ?_,Q.ext.gens,n7.1,Q.at_ 7 7 _ rfl rfl,Q.at_ 1 1 _ rfl rfl,Q.at_ 3 3 _ rfl rfl,Q.at_ 4 4 _ rfl rfl,Q.at_ 5 5 _ rfl rfl,Q.at_ 6 6 _ rfl rfl,.inr ⟨ad 7+817,_,_,_,?_,?_,Q.at_ 0 0 _ rfl rfl,Q.at_ 2 2 _ rfl rfl,Q.at_ 7 7 _ rfl rfl⟩⟩
  ·exact AN Z.ht Z.h1 Z.h2 (Q.at_ 1 1 _ rfl rfl) (Q.at_ 4 4 _ rfl rfl) (Q.at_ 6 6 _ rfl rfl)
  ·exact Nat.le_add_left _ _
  ·simp only[List.mem_cons,List.not_mem_nil,or_false,not_or]
   exact⟨lt _ _ hz,lt _ _ Z.ht,lt _ _ ho,lt _ _ Z.i1,lt _ _ Z.h1,lt _ _ Z.i2,lt _ _ Z.h2⟩
 ·have nd8:=wQ nd na
  have pS:=pS lo la
  have fin:∀ad s',dX ([z,its,own,it1,l1,it2,l2]++[a0]) ad s s' [0,1,2,3,4,5,6,7,8] [some (mD a0 its own true),some (aK [.ref it1,.ref it2]),some (aK [u,v]),some (aO l1 (k+1)),some (aA vs1 ep1),some (aO l2 (k+1)),some (aA vs2 ep2),some (aK [u,v]),some (aK [sv x tx,sv y ty])] 9->
    ∃fl,(Except.ok (.ret (.ref (ad 8+817))):Result)= .ok fl/\∃t,fl= .ret (.ref t)/\cU [z,own,it1,it2] s s'/\s'.gens=s.gens/\s.heap.objs.size<=t/\
   s'.heap.get? t=some (aK [sv x tx,sv y ty])/\uC s' z its own it1 l1 it2 l2 vs1 vs2 ep1 ep2 (k+1):=fun ad s' Q=>by
   have n7:=Q.new 8 (by show 8<=8;decide) (by show 8<9;decide);refine⟨_,rfl,ad 8+817,rfl,Q.ext.drop ?_,Q.ext.gens,n7.1,Q.at_ 8 8 _ rfl rfl,Q.at_ 1 1 _ rfl rfl,Q.at_ 3 3 _ rfl rfl,Q.at_ 4 4 _ rfl rfl,Q.at_ 5 5 _ rfl rfl,Q.at_ 6 6 _ rfl rfl,.inr ⟨a0,_,_,_,la,na,Q.at_ 0 0 _ rfl rfl,Q.at_ 2 2 _ rfl rfl,Q.at_ 7 7 _ rfl rfl⟩⟩;exact FL (AN Z.ht Z.h1 Z.h2 (Q.at_ 1 1 _ rfl rfl) (Q.at_ 4 4 _ rfl rfl) (Q.at_ 6 6 _ rfl rfl)) (.inr ⟨_,h0,Q.at_ 7 7 _ rfl rfl⟩)
  cases b with
  |false=>exact bL (fun ad tb=>aFt w s.gens.size ad tb bl p z its own it1 l1 it2 l2 a0 ls k ep1 ep2 vs1 vs2 u v x tx y ty) (hk 8 dT) B ⟨hz,Z.ht,ho,Z.i1,Z.h1,Z.i2,Z.h2,h0,trivial⟩ rfl nd8 pS hd fun ad tb s' Q=>fin ad s' Q
  |true=>exact bL (fun ad tb=>aFw w s.gens.size ad tb bl p z its own it1 l1 it2 l2 a0 ls k ep1 ep2 vs1 vs2 u v x tx y ty) (hk 8 dT) B ⟨hz,Z.ht,ho,Z.i1,Z.h1,Z.i2,Z.h2,h0,trivial⟩ rfl nd8 pS hd fun ad tb s' Q=>fin ad s' Q
theorem aG0 {z own:Nat}(hx:vs1[k]? =none\/∃x tx,vs1[k]? =some (sv x tx)/\vs2[k]? =none)(nd:[z,its,own,it1,l1,it2,l2].Nodup)(lo:∀a∈[z,its,own,it1,l1,it2,l2],817<=a)(B:aT w s)(Z:uC s z its own it1 l1 it2 l2 vs1 vs2 ep1 ep2 k)(hd:frameCount bl<=380):
  ∃r s',Runs (model PR w) ⟨cK z ls,none,none,bl,none⟩ p (cQ (.ref z)) [] s (.ret r) s'/\∃fl,r= .ok fl/\fl= .brk/\cU [z,own,it1,it2] s s'/\s'.gens=s.gens:=by
 have fin:∀ad s' zo oo i1 i2 nn,dX [z,its,own,it1,l1,it2,l2] ad s s' [0,1,2,3,4,5,6] [some zo,some (aK [.ref it1,.ref it2]),some oo,some i1,some (aA vs1 ep1),some i2,some (aA vs2 ep2)] nn->
    ∃fl,(Except.ok .brk:Result)= .ok fl/\fl= .brk/\cU [z,own,it1,it2] s s'/\s'.gens=s.gens:=fun ad s' zo oo i1 i2 nn Q=>by
   refine⟨_,rfl,rfl,Q.ext.drop ?_,Q.ext.gens⟩;exact AN Z.ht Z.h1 Z.h2 (Q.at_ 1 1 _ rfl rfl) (Q.at_ 4 4 _ rfl rfl) (Q.at_ 6 6 _ rfl rfl)
 have fin8:∀a0 u v ad s' zo oo i1 i2 nn,s.heap.get? a0=some (aK [u,v])->dX ([z,its,own,it1,l1,it2,l2]++[a0]) ad s s' [0,1,2,3,4,5,6,7] [some zo,some (aK [.ref it1,.ref it2]),some oo,some i1,some (aA vs1 ep1),some i2,some (aA vs2 ep2),some (aK [u,v])] nn->
    ∃fl,(Except.ok .brk:Result)= .ok fl/\fl= .brk/\cU [z,own,it1,it2] s s'/\s'.gens=s.gens:=fun a0 u v ad s' zo oo i1 i2 nn h0 Q=>by
   refine⟨_,rfl,rfl,Q.ext.drop ?_,Q.ext.gens⟩;exact FL (AN Z.ht Z.h1 Z.h2 (Q.at_ 1 1 _ rfl rfl) (Q.at_ 4 4 _ rfl rfl) (Q.at_ 6 6 _ rfl rfl)) (.inr ⟨_,h0,Q.at_ 7 7 _ rfl rfl⟩)
 rcases hx with hx |⟨x,tx,hx,hy⟩
 ·have hk:∀n,7<=n->∀hf∈[iR 3 4 k vs1 ep1 n 0],aG (model PR w) (aX w.params) hf:=fun n hn=>aD (oA hx (by lia) (by lia) dT)
  rcases Z.st with⟨hz,ho⟩ |⟨a0,u,v,b,la,na,hz,ho,h0⟩
  ·exact bL (fun ad tb=>aFr w s.gens.size ad tb bl p z its own it1 l1 it2 l2 ls k ep1 ep2 vs1 vs2) (hk 7 dT) B ⟨hz,Z.ht,ho,Z.i1,Z.h1,Z.i2,Z.h2,trivial⟩ rfl nd lo hd fun ad tb s' Q=>fin _ _ _ _ _ _ _ Q
  ·cases b with
   |false=>exact bL (fun ad tb=>aFu w s.gens.size ad tb bl p z its own it1 l1 it2 l2 a0 ls k ep1 ep2 vs1 vs2 u v) (hk 8 dT) B ⟨hz,Z.ht,ho,Z.i1,Z.h1,Z.i2,Z.h2,h0,trivial⟩ rfl (wQ nd na) (pS lo la) hd fun ad tb s' Q=>fin8 _ _ _ _ _ _ _ _ _ _ h0 Q
   |true=>exact bL (fun ad tb=>aFx w s.gens.size ad tb bl p z its own it1 l1 it2 l2 a0 ls k ep1 ep2 vs1 vs2 u v) (hk 8 dT) B ⟨hz,Z.ht,ho,Z.i1,Z.h1,Z.i2,Z.h2,h0,trivial⟩ rfl (wQ nd na) (pS lo la) hd fun ad tb s' Q=>fin8 _ _ _ _ _ _ _ _ _ _ h0 Q
 ·have hk:∀n,7<=n->∀hf∈[eQ (sv x tx) 3 4 k vs1 ep1 n 0,iR 5 6 k vs2 ep2 n 0],aG (model PR w) (aX w.params) hf:=fun n hn=>aB (kP hx (by lia) (by lia) dT) (aD (oA hy (by lia) (by lia) dT))
  rcases Z.st with⟨hz,ho⟩ |⟨a0,u,v,b,la,na,hz,ho,h0⟩
  ·exact bL (fun ad tb=>aFs w s.gens.size ad tb bl p z its own it1 l1 it2 l2 ls k ep1 ep2 vs1 vs2 x tx) (hk 7 dT) B ⟨hz,Z.ht,ho,Z.i1,Z.h1,Z.i2,Z.h2,trivial⟩ rfl nd lo hd fun ad tb s' Q=>fin _ _ _ _ _ _ _ Q
  ·cases b with
   |false=>exact bL (fun ad tb=>aFv w s.gens.size ad tb bl p z its own it1 l1 it2 l2 a0 ls k ep1 ep2 vs1 vs2 u v x tx) (hk 8 dT) B ⟨hz,Z.ht,ho,Z.i1,Z.h1,Z.i2,Z.h2,h0,trivial⟩ rfl (wQ nd na) (pS lo la) hd fun ad tb s' Q=>fin8 _ _ _ _ _ _ _ _ _ _ h0 Q
   |true=>exact bL (fun ad tb=>aFy w s.gens.size ad tb bl p z its own it1 l1 it2 l2 a0 ls k ep1 ep2 vs1 vs2 u v x tx) (hk 8 dT) B ⟨hz,Z.ht,ho,Z.i1,Z.h1,Z.i2,Z.h2,h0,trivial⟩ rfl (wQ nd na) (pS lo la) hd fun ad tb s' Q=>fin8 _ _ _ _ _ _ _ _ _ _ h0 Q
end
end
noncomputable def RN:List Nat:=[116,121,112,101,46,95,95,99,97,108,108,95,95]
noncomputable def pT:String:=sE RN rfl
theorem aG1:"type.__call__"=pT:=cA RN rfl
noncomputable def RO:List Nat:=[116,121,112,101,46,95,95,110,101,119,95,95]
noncomputable def RQ:String:=sE RO rfl
theorem aG2:"type.__new__"=RQ:=cA RO rfl
noncomputable def RS:List Nat:=[109,101,109,98,101,114,95,100,101,115,99,114,105,112,116,111,114,46,95,95,103,101,116,95,95]
noncomputable def RT:String:=sE RS rfl
theorem aG3:"member_descriptor.__get__"=RT:=cA RS rfl
noncomputable def RU:List Nat:=[108,105,115,116,46,95,95,110,101,95,95]
noncomputable def FM:String:=sE RU rfl
theorem RV:"list.__ne__"=FM:=cA RU rfl
noncomputable def RX:List Nat:=[108,105,115,116,46,95,95,103,116,95,95]
noncomputable def RY:String:=sE RX rfl
theorem aG4:"list.__gt__"=RY:=cA RX rfl
noncomputable def RZ:List Nat:=[108,105,115,116,46,95,95,103,101,95,95]
noncomputable def SA:String:=sE RZ rfl
theorem aG5:"list.__ge__"=SA:=cA RZ rfl
noncomputable def SB:List Nat:=[108,105,115,116,46,115,111,114,116]
noncomputable def AO:String:=sE SB rfl
theorem aG6:"list.sort"=AO:=cA SB rfl
noncomputable def SD:List Nat:=[115,111,114,116,101,100]
noncomputable def AP:String:=sE SD rfl
theorem aG7:"sorted"=AP:=cA SD rfl
noncomputable def aG8:List Nat:=[112,114,111,116,111,46,103,101,116,97,116,116,114,95,104,111,111,107,101,100]
noncomputable def aG9:String:=sE aG8 rfl
noncomputable def AQ(g a:Nat):Sem Fin:=
 bindR (Fast.tw8711993805878244202 (.ref a)) fun it=>bindR (Fast.tw15112759502256325868 (.ref a)) fun room=>match room with
   |true=>bindR (Fast.tw922294955767894045 (.ref g)) fun u=> .pure (.again (.builtin kJ ⟨[.ref g,it,.none],[]⟩))
   |false=> .pure (.again (.builtin kJ ⟨[.ref g,it,.none],[]⟩))
noncomputable def wR(z:Nat):Code:= .call (.type SL.s9222952809800978799x4) ⟨[.ref z],[]⟩
noncomputable def FN(a g:Nat):Code:= .call (.builtin DL) ⟨[.ref g,.ref a],[]⟩
theorem aGa(w:World)(g₀:Nat)(ad tb:Nat->Nat)(bl:List (Code×Pos))(p:Pos)(z its own ls:Nat):
 fY w g₀ [z,ls] ad tb [] 16 JG (dM z ls) (AQ ls z) bl p 380 [fU .none false its own,aA [] 0] [0,1] (cK z ls) [fU .none false its own,⟨.type SL.s9222952809800978799x4,none,.seq ⟨[]⟩ (2),⟨[]⟩⟩] 2:=by unfold fY;kernel_rfl
theorem aGb(w:World)(g₀:Nat)(ad tb:Nat->Nat)(bl:List (Code×Pos))(p:Pos)(z its own:Nat):
 let r:=cN w g₀ [z] ad tb [] 8 65552
  (wR z) bl p 370 [fU .none false its own]
 fZ r [0,1]=iA r [bZ ⟨wR z,none,none,bl,none⟩ p 370] ⟨.builtin pT ⟨[.type SL.s9222952809800978799x4,.ref z],[]⟩,none,none,bl,none⟩ (some (FN z (ad 1+817),none)) [some (fU .none false its own),some (aA [] 0)] [] 2:=by intro r;kernel_rfl
section
variable (w:World)(g₀:Nat)(ad tb:Nat->Nat)(bl:List (Code×Pos))(p:Pos)
theorem aGc (z its own ls:Nat):
 eZ w g₀ [z,ls] ad tb [] 1 2 (FN z ls) bl p 376 [fU .none false its own,aA [] 0] [0,1] (dM z ls) [fU .none false its own,aA [] 0] 2:=by unfold eZ;kernel_rfl
theorem aGd (g1:Nat)(ad1 tb1:Nat->Nat)(p1:Pos)(z its own:Nat):
 aW w g₀ [] ad tb [] 1 0 (.builtin pT ⟨[.type SL.s9222952809800978799x4,.ref z],[]⟩) (dY (cN w g1 [z] ad1 tb1 [] 8 65552 (wR z) bl p1 370 [fU .none false its own]).t (.ok (.ret .none))) bl p 370 [] [] (.pure (.done (.ret (.ref (ad1 1+817))))) [] 0:=by unfold aW;kernel_rfl
end
section
def wS(vs:List Value):Prop:=∀(k:Nat) v,vs[k]? =some v->∃x t,v=sv x t
noncomputable def iU:List Value->List Value->List Obj
 |a::vs,b::us=>aK [a,b]::iU vs us
 |_,_=>[]
theorem AR:∀(vs us:List Value) (k:Nat) (a b:Value),vs[k]? =some a->us[k]? =some b->(iU vs us)[k]? =some (aK [a,b])
 | [],_,_,_,_,h,_=>by simp at h
 |_::_,[],_,_,_,_,h=>by simp at h
 |_::_,_::_,0,_,_,h1,h2=>by cases h1;cases h2;rfl
 |_::vs,_::us,k+1,a,b,h1,h2=>AR vs us k a b (by simpa using h1) (by simpa using h2)
theorem wT:∀(vs us:List Value),(iU vs us).length=min vs.length us.length
 | [],_=>by simp[iU]
 |_::_,[]=>by simp[iU]
 |_::vs,_::us=>by simp[iU,wT vs us]
theorem At.snoc{s:Shared}:∀{as:List Nat} {os:List Obj} {a:Nat} {o:Obj},as.length=os.length->At s as os->s.heap.get? a=some o->At s (as++[a]) (os++[o])
 | [],[],_,_,_,_,h=>⟨h,trivial⟩
 | [],_::_,_,_,h,_,_=>by simp at h
 |_::_,[],_,_,h,_,_=>by simp at h
 |_::_,_::_,_,_,hl,h,h'=>⟨h.1,At.snoc (by simpa using hl) h.2 h'⟩
section
variable{w:World}{bl:List (Code×Pos)}{R:Result->Shared->Prop}
theorem aGe {z own:Nat}(hv1:wS vs1)(hv2:wS vs2)(hlen:vs1.length<=1000)(nd:[z,its,own,it1,l1,it2,l2].Nodup)(nls:ls∉[z,its,own,it1,l1,it2,l2])(lo:∀a∈[z,its,own,it1,l1,it2,l2],817<=a)(lols:817<=ls)(hd:frameCount bl<=380)(B₀:aT w s₀)(hR:∀s' ts,ts.length=min vs1.length vs2.length->(∀t∈ts,s₀.heap.objs.size<=t)->cU [z,own,it1,it2,ls] s₀ s'->s'.gens=s₀.gens->s'.heap.get? ls=some (aA (ts.map Value.ref) (e0+min vs1.length vs2.length))->
   At s' ts (iU vs1 vs2)->R (.ok (.ret .none)) s'):
  ∀(m k:Nat) (s:Shared) (ts:List Nat) (p:Pos),min vs1.length vs2.length - k=m->k<=min vs1.length vs2.length->ts.length=k->(∀t∈ts,s₀.heap.objs.size<=t/\t∉[z,own,it1,it2,ls])->cU [z,own,it1,it2,ls] s₀ s->s.gens=s₀.gens->
   uC s z its own it1 l1 it2 l2 vs1 vs2 ep1 ep2 k->s.heap.get? ls=some (aA (ts.map Value.ref) (e0+k))->At s ts ((iU vs1 vs2).take k)->
   wpCode (model PR w) ⟨cK z ls,none,none,bl,none⟩ R p s:=by
 have sub:∀y∈[z,own,it1,it2],y∈[z,its,own,it1,l1,it2,l2]:=tE (L:=[z,its,own,it1,l1,it2,l2]) [0,2,3,5] rfl;have sub5:∀y∈[z,own,it1,it2],y∈[z,own,it1,it2,ls]:=tE (L:=[z,own,it1,it2,ls]) [0,1,2,3] rfl;have lo5:∀y∈[z,own,it1,it2,ls],817<=y:=aB (lo _ (mI 0)) (aB (lo _ (mI 2)) (aB (lo _ (mI 3)) (aB (lo _ (mI 5)) (aD lols))));have nls4:ls∉[z,own,it1,it2]:=fun h=>nls (sub ls h);intro m;induction m with
 |zero=>
  intro k s ts p hm hk hts hfr X hg Z hls ha;have hk:k=min vs1.length vs2.length:=vZ hm hk
  have hend:vs1[k]? =none\/∃x tx,vs1[k]? =some (sv x tx)/\vs2[k]? =none:=by
   cases h1:vs1[k]? with
   |none=>exact .inl rfl
   |some v=>
    obtain⟨x,t,rfl⟩:=hv1 k v h1;refine .inr ⟨x,t,rfl,?_⟩
    have:k<vs1.length:=by
     rcases Nat.lt_or_ge k vs1.length with q |q
     ·exact q
     ·rw[List.getElem?_eq_none q] at h1;cases h1
    exact List.getElem?_eq_none (Nat.le_of_not_lt fun q=>Nat.ne_of_lt (Nat.lt_min.mpr ⟨this,q⟩) hk)
  refine zI (N:=fun fl s'=>fl= .brk/\cU [z,own,it1,it2] s s'/\s'.gens=s.gens) (aG0 hend nd lo (B₀.extN X lo5) Z hd) (fun s' h=> ?_) (fun v s' h=>nomatch h.1);obtain⟨_,X',hg'⟩:=h;subst hk;refine hR s' ts hts (fun t ht=>(hfr t ht).1) (X.trans (X'.mono sub5)) (hg'.trans hg) (X'.frame ls _ hls nls4) ?_;have e:(iU vs1 vs2).take (min vs1.length vs2.length)=iU vs1 vs2:=by rw[<-wT,List.take_length]
  rw[e] at ha;exact ha.keep fun y o hy ho=>X'.frame y o ho fun q=>(hfr y hy).2 (sub5 y q)
 |succ m ih=>
  intro k s ts p hm hk hts hfr X hg Z hls ha;have ar:=vY hm;have hlt:=ar.1;have k1:k<vs1.length:=Nat.lt_of_lt_of_le hlt (Nat.min_le_left ..);have k2:k<vs2.length:=Nat.lt_of_lt_of_le hlt (Nat.min_le_right ..);obtain⟨x,tx,hx⟩:=hv1 k _ (List.getElem?_eq_getElem k1);obtain⟨y,ty,hy⟩:=hv2 k _ (List.getElem?_eq_getElem k2);have hx:vs1[k]? =some (sv x tx):=by rw[List.getElem?_eq_getElem k1,hx]
  have hy:vs2[k]? =some (sv y ty):=by rw[List.getElem?_eq_getElem k2,hy]
  refine zI (N:=fun fl s'=>∃t,fl= .ret (.ref t)/\cU [z,own,it1,it2] s s'/\s'.gens=s.gens/\s.heap.objs.size<=t/\s'.heap.get? t=some (aK [sv x tx,sv y ty])/\uC s' z its own it1 l1 it2 l2 vs1 vs2 ep1 ep2 (k+1))
   (aFz hx hy nd lo (B₀.extN X lo5) Z hd) (fun s' h=> ?_) (fun v s₁ h=> ?_)
  ·obtain⟨_,q,_⟩:=h
   cases q
  ·obtain⟨t,q,X₁,hg₁,ht,hto,Z₁⟩:=h
   injection q with q
   subst q;have hls₁:=X₁.frame ls _ hls nls4;have lt:∀y o,s.heap.get? y=some o->t≠y:=fun y o hy q=>absurd (Nat.lt_of_lt_of_le (Heap.lt_size hy) ht) (by rw[q];exact Nat.lt_irrefl _);refine⟨_,_,_,hls₁,rfl,?_,fun px=> ?_⟩
   ·show (ts.map Value.ref).length<=sizeLine
    rw[List.length_map,hts];exact Nat.le_trans (Nat.le_trans (Nat.le_of_lt k1) hlen) dT
   ·have gx:∀y,y≠ls->(s₁.heap.update ls (Obj.mapSeq (·.push (.ref t)))).get? y=s₁.heap.get? y:=fun y hy=>Heap.get?_update_other _ _ (Ne.symm hy)
    have X₂:cU [z,own,it1,it2,ls] s {s₁ with heap:=s₁.heap.update ls (Obj.mapSeq (·.push (.ref t)))}:=
     ⟨fun y o hy hm=>by
      rw[show (Shared.heap {s₁ with heap:=s₁.heap.update ls (Obj.mapSeq (·.push (.ref t)))}).get? y=s₁.heap.get? y from gx y fun q=>hm (q▸mI 4)];exact X₁.frame y o hy fun q=>hm (sub5 y q),
      by show _<=(s₁.heap.update ls _).objs.size;rw[Heap.size_after_update];exact X₁.size,X₁.toks,X₁.drawn,X₁.os⟩
    have ne:∀y∈[z,its,own,it1,l1,it2,l2],y≠ls:=fun y hy q=>nls (q▸hy);have htl:t≠ls:=lt _ _ hls;refine ih (k+1) _ (ts++[t]) px ar.2.1 ar.2.2 (by rw[List.length_append,hts];rfl) (fun t' h'=> ?_) (X.trans X₂) (hg₁.trans hg) ?_ ?_ ?_
    ·rcases List.mem_append.mp h' with h |h
     ·exact hfr t' h
     ·rw[List.mem_singleton.mp h]
      have a0:∀y∈[z,own,it1,it2,ls],t≠y:=by
       rcases Z.st with⟨hz,ho⟩ |⟨_,_,_,_,_,_,hz,ho,_⟩ <;> exact aB (lt _ _ hz) (aB (lt _ _ ho) (aB (lt _ _ Z.i1) (aB (lt _ _ Z.i2) (aD htl))))
      exact⟨Nat.le_trans X.size ht,fun q=>a0 t q rfl⟩
    ·refine⟨(gx _ (ne _ (mI 1))).trans Z₁.ht,(gx _ (ne _ (mI 3))).trans Z₁.i1,(gx _ (ne _ (mI 4))).trans Z₁.h1,(gx _ (ne _ (mI 5))).trans Z₁.i2,(gx _ (ne _ (mI 6))).trans Z₁.h2,?_⟩
     rcases Z₁.st with⟨hz,ho⟩ |⟨a0,u,v,b,la,na,hz,ho,h0⟩
     ·exact .inl ⟨(gx _ (ne _ (mI 0))).trans hz,(gx _ (ne _ (mI 2))).trans ho⟩
     ·refine .inr ⟨a0,u,v,b,la,na,(gx _ (ne _ (mI 0))).trans hz,(gx _ (ne _ (mI 2))).trans ho,(gx _ fun q=> ?_).trans h0⟩
      rw[q,hls₁] at h0;injection h0 with h0
      unfold aA aK at h0;injection h0 with h0 _ h0' _
      have h0:=congrArg (fun v:Value=>match v with | .type s=>s.length |_=>0) h0;revert h0;decide
    ·have:=Heap.get?_update_self (h:=s₁.heap) (Obj.mapSeq (·.push (.ref t))) hls₁ rfl
     rw[zJ] at this;rw[List.map_append];exact this
    ·rw[List.take_add_one,AR vs1 vs2 k _ _ hx hy]
     refine At.snoc (by rw[List.length_take,wT,hts,Nat.min_eq_left hk]) (ha.keep fun y o hy ho=>(gx y fun q=>(hfr y hy).2 (q▸mI 4)).trans (X₁.frame y o ho fun q=>(hfr y hy).2 (sub5 y q))) ((gx t htl).trans hto)
end
end
section
theorem aGf {z own:Nat}{f:Value}(h:s.heap.get? z=some (fU f b its own)):s.TypeIs (.ref z) "zip":=
 ⟨_,h,by show Value.type _=_;rw[<-SL.e14339709457334898076x3]⟩
section
variable{w:World}{s:Shared}{bl:List (Code×Pos)}{p:Pos}{R:Result->Shared->Prop}
theorem aGg {z own:Nat}(hne:g≠z)(hz:s.heap.get? z=some (fU .none false its own))(hg:s.heap.get? g=some (aA [] 0))(h:∀p s₁,(∀y o,s.heap.get? y=some o->s₁.heap.get? y=some o)->s₁.heap.objs.size=s.heap.objs.size->s₁.toks=s.toks->s₁.gens=s.gens->s₁.drawn=s.drawn->s₁.os=s.os->
   ∃r s',Runs (model PR w) ⟨dM z g,none,none,bl,none⟩ p (AQ g z) [] s₁ (.ret r) s'/\R r s'):
  wpCode (model PR w) ⟨dM z g,none,none,bl,none⟩ R p s:=by
 rw[wpCode_iff_wp]
 have hden:(model PR w).den (dM z g)=Builtin.«list.__init__» ⟨[.ref g,.ref z],[]⟩:=by
  unfold dM;exact eM (by rw[<-LK];exact entryFor_of_fast (by kernel_rfl)) _
 show Sem.wp (model PR w) _ ((model PR w).den (dM z g)) _ _ p s;rw[hden];show Sem.wp (model PR w) _ (Builtin.List.listItems (.ref g)>>= fun old=>updateSeq g (fun k=> #[])>>= fun k=>letGo old.toList.reverse>>= fun k=>Builtin.List.listExtendWith (.ref g) (.ref z) .none) _ _ p s;refine pI (tY _ _) (wpAny_listItems (items:=⟨[]⟩) (n:=0) hg rfl ⟨rfl,rfl⟩) fun p=> ?_
 have u:=wpAny_updateSeq (M:=model PR w) (A:=⟨none,frameCount bl+(dM z g).weight,none,none,PySem.Ctx.units ⟨dM z g,none,none,bl,none⟩⟩) (f:=fun k=> #[]) (E:=fun k k=>False)
    (Q:=fun k s''=>s''={s with heap:=s.heap.update g (Obj.mapSeq fun k=> #[])}) hg rfl rfl dT dT ⟨dM z g,none,none,bl,none⟩ p (tY _ _)
 rw[Sem.wp_bind'];refine Sem.wp_mono _ _ _ (fun k p₁ s₁ q=> ?_) (fun e p'' s'' q=>q.elim) _ _ u;subst q;generalize hs₁:{s with heap:=s.heap.update g (Obj.mapSeq fun k=> #[])}=s₁
 have fr:∀y o,s.heap.get? y=some o->s₁.heap.get? y=some o:=fun y o hy=>by
  subst hs₁
  by_cases q:y=g
  ·subst q
   have:=Heap.get?_update_self (h:=s.heap) (Obj.mapSeq fun k=> #[]) hg rfl;rw[hg] at hy;rw[<-hy];exact this
  ·exact(Heap.get?_update_other _ _ (Ne.symm q)).trans hy
 show Sem.wp (model PR w) _ (pure ()>>= fun k=>Builtin.List.listExtendWith (.ref g) (.ref z) .none) _ _ p₁ s₁;refine pI (v:=()) (tY _ _) (wpAny_pure ⟨rfl,rfl⟩) fun p=> ?_;unfold Builtin.List.listExtendWith;refine pI (tY _ _) (wpAny_typeOf (aGf (fr _ _ hz)) ⟨rfl,rfl⟩) fun p=> ?_;have z':=(Sem.wp_iff_runs (model PR w) ⟨dM z g,none,none,bl,none⟩ (AQ g z) R p s₁).mpr (h p s₁ fr (by subst hs₁;exact Heap.size_after_update ..) (by subst hs₁;rfl) (by subst hs₁;rfl) (by subst hs₁;rfl) (by subst hs₁;rfl));unfold AQ at z';rw[<-Fast.te8711993805878244202,<-Fast.te15112759502256325868,<-Fast.te922294955767894045,eR] at z'
 have hs:Builtin.List.listSameRef (.ref g) (.ref z)=false:=by
  show (g == z)=false;exact beq_false_of_ne hne
 rw[hs,if_neg (show ¬((false || Value.type "zip" == Value.type "list" || Value.type "zip" == Value.type "tuple")=true) from by decide)];rw[Sem.wp_bind'];refine Sem.wp_mono _ _ _ (fun iter p₅ s₅ z=> ?_) (fun k k k z=>z) _ _ z';rw[eR] at z;rw[Sem.wp_bind',holding_eq_keep,Sem.wp_keep];refine Sem.wp_mono _ _ _ (fun room p₆ s₆ z=> ?_) (fun k k k z=>z) _ _ z;rw[nT];cases room with
 |true=>
  show Sem.wp (model PR w) _ (Builtin.List.listTouch (.ref g)>>= fun k=>_) _ _ p₆ s₆;have z:Sem.wp (model PR w) _ (bindR (Builtin.List.listTouch (.ref g)) _) _ _ p₆ s₆:=z;rw[eR] at z;rw[Sem.wp_bind'];exact z
 |false=>
  have hr:(false || ["set","frozenset","dict","dict_keys","dict_values","dict_items"].any (Value.type "zip" == Value.type ·))=false:=by decide
  show Sem.wp (model PR w) _ (if(false || ["set","frozenset","dict","dict_keys","dict_values","dict_items"].any (Value.type "zip" == Value.type ·))=true then _ else _) _ _ p₆ s₆;rw[hr];exact z
theorem aGh {z own:Nat}(hv1:wS vs1)(hv2:wS vs2)(hlen:vs1.length<=1000)(nd:[z,its,own,it1,l1,it2,l2].Nodup)(lo:∀a∈[z,its,own,it1,l1,it2,l2],817<=a)(hd:frameCount bl<=368)(B:aT w s)(hz:s.heap.get? z=some (fU .none false its own))(ho:s.heap.get? own=some (aK [.none,.none]))(ht:s.heap.get? its=some (aK [.ref it1,.ref it2]))(hi1:s.heap.get? it1=some (aO l1 0))(hl1:s.heap.get? l1=some (aA vs1 ep1))(hi2:s.heap.get? it2=some (aO l2 0))(hl2:s.heap.get? l2=some (aA vs2 ep2))(hR:∀s' ls ts,ts.length=min vs1.length vs2.length->(∀t∈ts,s.heap.objs.size<=t)->s.heap.objs.size<=ls->cU [z,own,it1,it2] s s'->s'.gens=s.gens->s'.heap.get? ls=some (aA (ts.map Value.ref) (2+min vs1.length vs2.length))->
   At s' ts (iU vs1 vs2)->R (.ok (.ret (.ref ls))) s'):
  wpCode (model PR w) ⟨wR z,none,none,bl,none⟩ R p s:=by
 refine wH (fun ad tb=>aGb w s.gens.size ad tb bl p z its own) aE B ⟨hz,trivial⟩ rfl (by simp) (aD (lo _ (by simp))) (Nat.le_trans hd dT) dT fun ad tb px s₁ Q=> ?_;have hls:s.heap.objs.size<=ad 1+817/\ad 1+817<s₁.heap.objs.size:=Q.new 1 (by show 1<=1;decide) (by show 1<2;decide);have hls₁:s₁.heap.get? (ad 1+817)=some (aA [] 0):=Q.at_ 1 1 _ rfl rfl;have hz₁:s₁.heap.get? z=some (fU .none false its own):=Q.at_ 0 0 _ rfl rfl;have X₁:aJ [z] s s₁:=Q.ext;have lt:∀y o,s.heap.get? y=some o->ad 1+817≠y:=fun y o hy h=>absurd (Nat.lt_of_lt_of_le (Heap.lt_size hy) hls.1) (by rw[h];exact Nat.lt_irrefl _)
 have fr₁:∀y o,s.heap.get? y=some o->s₁.heap.get? y=some o:=fun y o hy=>by
  by_cases q:y=z
  ·subst q;rw[hz] at hy;rw[hz₁];exact hy
  ·exact X₁.frame y o hy (by simpa using q)
 have lz:817<=z:=lo _ (by simp);have B₁:aT w s₁:=B.ext X₁ (aD lz);have ls8:817<=ad 1+817:=Nat.le_add_left _ _
 have hd1:∀x,frameCount ((Code.builtin pT ⟨[.type SL.s9222952809800978799x4,.ref z],[]⟩,x)::bl)<=376:=fun x=>by
  rw[frameCount_cons];have h6:(Code.builtin pT ⟨[.type SL.s9222952809800978799x4,.ref z],[]⟩).weight<=6:=vI (by kernel_rfl)
  lia
 generalize hLS:ad 1+817=ls at hls hls₁ lt ls8;have nd2:[z,ls].Nodup:=by simp;exact fun q=>lt _ _ hz q.symm
 have key:∀(R':Result->Shared->Prop),(∀s' ts,ts.length=min vs1.length vs2.length->(∀t∈ts,s.heap.objs.size<=t)->cU [z,own,it1,it2,ls] s s'->s'.gens=s.gens->s'.heap.get? ls=some (aA (ts.map Value.ref) (2+min vs1.length vs2.length))->
   At s' ts (iU vs1 vs2)->R' (.ok (.ret .none)) s')->wpCode (model PR w) ⟨FN z ls,none,none,(.builtin pT ⟨[.type SL.s9222952809800978799x4,.ref z],[]⟩,px)::bl,none⟩ R' px s₁:=fun R' hR'=>by
  refine kK (fun ad' tb'=>aGc w s₁.gens.size ad' tb' _ px z its own ls) (fun u u=>by unfold dM;kernel_rfl) aE B₁ ⟨hz₁,hls₁,trivial⟩ rfl nd2 (aB lz (aD ls8)) (hd1 _) dT fun ad' tb' px' s₂ Q₂=> ?_;have hz₂:s₂.heap.get? z=some (fU .none false its own):=Q₂.at_ 0 0 _ rfl rfl;have hls₂:s₂.heap.get? ls=some (aA [] 0):=Q₂.at_ 1 1 _ rfl rfl;have X₂:aJ [z,ls] s₁ s₂:=Q₂.ext
  have fr₂:∀y o,s.heap.get? y=some o->s₂.heap.get? y=some o:=fun y o hy=>by
   by_cases q:y=z
   ·subst q;rw[hz] at hy;rw[hz₂];exact hy
   ·exact X₂.frame y o (fr₁ y o hy) (by simp[q];exact fun h=>lt y o hy h.symm)
  refine aGg (fun q=>lt _ _ hz q) hz₂ hls₂ fun p s₃ fr₃ sz₃ tk₃ gn₃ dr₃ os₃=> ?_;have B₂:=B₁.ext X₂ (aB lz (aD ls8));have B₃:aT w s₃:=⟨fun a o ha ht=>fr₃ a o (B₂.top a o ha ht),by rw[sz₃];exact B₂.sz,by rw[tk₃];exact B₂.tk⟩;refine oX (fun ad tb=>aGa w s₃.gens.size ad tb _ p z its own ls) (fun u u=>by unfold cK;kernel_rfl) aE B₃ ⟨fr₃ _ _ hz₂,fr₃ _ _ hls₂,trivial⟩ rfl nd2 (aB lz (aD ls8)) (Nat.le_trans (hd1 _) dT) fun ad'' tb'' px'' s₄ Q₄=> ?_;have hz₄:s₄.heap.get? z=some (fU .none false its own):=Q₄.at_ 0 0 _ rfl rfl;have hls₄:s₄.heap.get? ls=some (aA [] 2):=Q₄.at_ 1 1 _ rfl rfl;have X₄:aJ [z,ls] s₃ s₄:=Q₄.ext
  have fr₄:∀y o,s.heap.get? y=some o->s₄.heap.get? y=some o:=fun y o hy=>by
   by_cases q:y=z
   ·subst q;rw[hz] at hy;rw[hz₄];exact hy
   ·exact X₄.frame y o (fr₃ _ _ (fr₂ y o hy)) (by simp[q];exact fun h=>lt y o hy h.symm)
  have XN:cU [z,own,it1,it2,ls] s s₄:=⟨fun y o hy u=>fr₄ y o hy,Nat.le_trans X₁.size (Nat.le_trans X₂.size (by rw[<-sz₃];exact X₄.size)),Nat.le_trans X₁.toks (Nat.le_trans X₂.toks (by rw[<-tk₃];exact X₄.toks)),
   X₄.drawn.trans (dr₃.trans (X₂.drawn.trans X₁.drawn)),X₄.os.trans (os₃.trans (X₂.os.trans X₁.os))⟩
  have hg₄:s₄.gens=s.gens:=X₄.gens.trans (gn₃.trans (X₂.gens.trans X₁.gens));refine aGe (s₀:=s) (e0:=2) (ep1:=ep1) (ep2:=ep2) hv1 hv2 hlen nd ?_ lo ls8 (Nat.le_trans (hd1 _) dT) B (fun s' ts a1 a2 a3 a4 a5 a6=>hR' s' ts a1 a2 a3 a4 a5 a6) _ 0 s₄ [] px'' rfl (Nat.zero_le _) rfl aE XN hg₄ ?_ hls₄ trivial
  ·simp only[List.mem_cons,List.not_mem_nil,or_false,not_or]
   exact⟨lt _ _ hz,lt _ _ ht,lt _ _ ho,lt _ _ hi1,lt _ _ hl1,lt _ _ hi2,lt _ _ hl2⟩
  ·exact⟨fr₄ _ _ ht,fr₄ _ _ hi1,fr₄ _ _ hl1,fr₄ _ _ hi2,fr₄ _ _ hl2,.inl ⟨fr₄ _ _ hz,fr₄ _ _ ho⟩⟩
 subst hLS;refine key _ fun s' ts a1 a2 a3 a4 a5 a6=> ?_
 have l8:∀y∈[z,own,it1,it2,ad 1+817],817<=y:=fun y hy=>by
  have hy:y∈[z,own,it1,it2]++[ad 1+817]:=hy;rcases List.mem_append.mp hy with h |h
  ·exact lo y (by simp only[List.mem_cons,List.not_mem_nil,or_false] at h ⊢;lia)
  ·simp at h;subst h;exact ls8
 refine bL (fun ad' tb'=>aGd w s'.gens.size ad' tb' bl px s.gens.size ad tb p z its own) aE (B.extN a3 l8) trivial rfl List.nodup_nil aE (Nat.le_trans hd dT) fun ad' tb' s'' Q'=> ?_;have X':=Q'.ext;refine hR s'' (ad 1+817) ts a1 a2 hls.1 ?_ (X'.gens.trans a4) (X'.frame _ _ a5 (by simp)) (a6.keep fun y o u ho=>X'.frame y o ho (by simp))
 exact⟨fun y o hy hm=>X'.frame y o (a3.frame y o hy fun q=>by
   have q:y∈[z,own,it1,it2]++[ad 1+817]:=q;rcases List.mem_append.mp q with h |h
   ·exact hm h
   ·simp at h;exact lt y o hy h.symm) (by simp),Nat.le_trans a3.size X'.size,Nat.le_trans a3.toks X'.toks,X'.drawn.trans a3.drawn,X'.os.trans a3.os⟩
end
end
section
section
variable{prog:Program}{w:World}{kt:KT}
theorem wU {a b:Int}{c:Bool}{t u:TR}(h:(a != b)=c)(hl:bQ n i [AV.int a t,AV.int b u]=true):aG (model prog w) kt (aV qJ (.bool c) [AV.int a t,AV.int b u] n i):=
 jM _ aAl (entryFor_of_fast (by kernel_rfl)) hl fun A K=>by subst h;exact gives_int_ne a b (t.ev K) (u.ev K)
theorem aGi {a b:Int}{c:Bool}{t u:TR}(h:decide (a<b)=c)(hl:bQ n i [AV.int a t,AV.int b u]=true):aG (model prog w) kt (aV yP (.bool c) [AV.int a t,AV.int b u] n i):=
 jM _ KN (entryFor_of_fast (by kernel_rfl)) hl fun A K=>by subst h;exact gives_int_lt a b (t.ev K) (u.ev K)
theorem aGj {a b:Int}{c:Bool}{t u:TR}(h:decide (a<=b)=c)(hl:bQ n i [AV.int a t,AV.int b u]=true):aG (model prog w) kt (aV DI (.bool c) [AV.int a t,AV.int b u] n i):=
 jM _ aAi (entryFor_of_fast (by kernel_rfl)) hl fun A K=>by subst h;exact gives_int_le a b (t.ev K) (u.ev K)
theorem aGk {a b:Int}{c:Bool}{t u:TR}(h:decide (a>b)=c)(hl:bQ n i [AV.int a t,AV.int b u]=true):aG (model prog w) kt (aV DJ (.bool c) [AV.int a t,AV.int b u] n i):=
 jM _ aAj (entryFor_of_fast (by kernel_rfl)) hl fun A K=>by subst h;exact gives_int_gt a b (t.ev K) (u.ev K)
theorem aGl {a b:Int}{c:Bool}{t u:TR}(h:decide (a>=b)=c)(hl:bQ n i [AV.int a t,AV.int b u]=true):aG (model prog w) kt (aV yO (.bool c) [AV.int a t,AV.int b u] n i):=
 jM _ KL (entryFor_of_fast (by kernel_rfl)) hl fun A K=>by subst h;exact gives_int_ge a b (t.ev K) (u.ev K)
theorem SE {a b c:Int}{t u:TR}(h:a - b=c)(hl:bQ n i [AV.int a t,AV.int b u]=true):aG (model prog w) kt (aI yR c [AV.int a t,AV.int b u] n i):=
 qK _ aAn (entryFor_of_fast (by kernel_rfl)) hl fun A K=>by subst h;exact gives_int_sub a b (t.ev K) (u.ev K)
theorem aGm {a:Int}{c:Bool}{t:TR}(h:(a != 0)=c)(hl:bQ n i [AV.int a t]=true):aG (model prog w) kt (aV eV (.bool c) [AV.int a t] n i):=
 jM _ MM (entryFor_of_fast (by kernel_rfl)) hl fun A K=>by subst h;exact gives_int_bool a (t.ev K)
theorem FO {a b:Str}{c:Bool}{t u:TR}(h:decide (a.cps.toList<b.cps.toList)=c)(hl:bQ n i [AV.str a t,AV.str b u]=true):aG (model prog w) kt (aV vR (.bool c) [AV.str a t,AV.str b u] n i):=
 jM _ aAs (entryFor_of_fast (by kernel_rfl)) hl fun A K=>by subst h;exact gives_str_lt a b (t.ev K) (u.ev K)
theorem FP {a b:Str}{c:Bool}{t u:TR}(h:decide (b.cps.toList<a.cps.toList)=c)(hl:bQ n i [AV.str a t,AV.str b u]=true):aG (model prog w) kt (aV vS (.bool c) [AV.str a t,AV.str b u] n i):=
 jM _ aAt (entryFor_of_fast (by kernel_rfl)) hl fun A K=>by subst h;exact gives_str_gt a b (t.ev K) (u.ev K)
end
end
noncomputable def pU(t:Int)(tk j:Nat):Code:= .call (.ref 804) ⟨[.int t tk,.ref j],[]⟩
noncomputable def iN(t:Int)(x y:List Nat):Int:=
 if t≠0 then t else if x.length≠y.length then Int.ofNat x.length - Int.ofNat y.length else(if decide (y<x) then 1 else 0) - (if decide (x<y) then 1 else 0)
noncomputable def AS(t z:Int)(tk j:Nat)(x y:List Nat)(tx ty n i:Nat):HF:=
 dP (fun A u=>pU t tk (A j)) [j] (fun u u=>[aK [sv x tx,sv y ty]]) (fun u u=>[aK [sv x tx,sv y ty]]) (fun u u=>[]) (fun u K=> .ok (.ret (.int z (K i)))) 1 n i 370
noncomputable def FQ:Stmt:=cM 6
noncomputable def AT(loc:Nat):Env:=nV FQ [114,101,100,117,99,101,46,60,108,111,99,97,108,115,62,46] 60 59 loc
noncomputable def lH:Stmt:=dK (bF FQ) 2
noncomputable def mE(loc it:Nat):Code:= .forLoop (bR lH) (.ref it) (bF lH) (fV lH) (AT loc)
noncomputable def FT(loc it:Nat)(v:Value):Sem Fin:=tP (bR lH) (.ref it) (bF lH) (fV lH) (AT loc) v
noncomputable def wV(P:Params)(τ:Nat->Nat)(sq it:Nat)(t0 v:Value):Obj:=⟨fI,none,.dict ⟨[de P IC (τ 0) (.ref 804),de P ID (τ 1) (.ref sq),de P [105,110,105,116,105,97,108] (τ 2) t0,de P [105,116] (τ 3) (.ref it),de P [118,97,108,117,101] (τ 4) v]⟩ 5,⟨[]⟩⟩
noncomputable def uD(P:Params)(τ:Nat->Nat)(sq it:Nat)(t0 v e:Value):Obj:=⟨fI,none,.dict ⟨[de P IC (τ 0) (.ref 804),de P ID (τ 1) (.ref sq),de P [105,110,105,116,105,97,108] (τ 2) t0,de P [105,116] (τ 3) (.ref it),de P [118,97,108,117,101] (τ 4) v,de P [101,108,101,109,101,110,116] (τ 5) e]⟩ 6,⟨[]⟩⟩
noncomputable def qT(l:Nat)(t0:Value):Code:= .call (.ref 60) ⟨[.ref 804,.ref l,t0],[]⟩
noncomputable def uE(loc:Nat):Code:= .func (bF FQ) (AT loc)
section
variable (w:World)(g₀:Nat)(ad tb:Nat->Nat)(bl:List (Code×Pos))(p:Pos)
theorem aGn (t:Int)(j:Nat)(x y:List Nat)(tx ty tk:Nat):
 aZ w g₀ [j] ad tb [aV qJ (Value.bool true) [AV.int t (TR.l tk),AV.int (Int.ofNat 0) (TR.k 2)] 2 3] 26 (aQ 43009 [22,vC]) (pU t tk j) bl p 370 [aK [sv x tx,sv y ty]] [0] (.pure (.done (.ret (.int t tk)))) [aK [sv x tx,sv y ty]] 2:=by unfold aZ;kernel_rfl
theorem aGo (z:Int)(j:Nat)(x y:List Nat)(tx ty tk:Nat):
 aZ w g₀ [j] ad tb [fX ⟨⟨x⟩⟩ (TR.l tx) 5 5,fX ⟨⟨y⟩⟩ (TR.l ty) 5 7,aV qJ (Value.bool true) [AV.int (Int.ofNat (x.length)) (TR.k (5+1)),AV.int (Int.ofNat (y.length)) (TR.k (7+1))] 5 9,fX ⟨⟨x⟩⟩ (TR.l tx) 5 9,fX ⟨⟨y⟩⟩ (TR.l ty) 5 11,aI yR z [AV.int (Int.ofNat (x.length)) (TR.k (9+1)),AV.int (Int.ofNat (y.length)) (TR.k (11+1))] 5 13] 132 (aQ 163848 [9,8194,112,gO,12,gk,4,34817,22,vC]) (pU (Int.ofNat 0) tk j) bl p 370 [aK [sv x tx,sv y ty]] [0] (.pure (.done (.ret (.int (z) (aC tb 13))))) [aK [sv x tx,sv y ty]] 5:=by unfold aZ;kernel_rfl
theorem aGp (j:Nat)(x y:List Nat)(tx ty tk:Nat):
 aZ w g₀ [j] ad tb [fX ⟨⟨x⟩⟩ (TR.l tx) 5 5,fX ⟨⟨y⟩⟩ (TR.l ty) 5 7,aV qJ (Value.bool false) [AV.int (Int.ofNat (x.length)) (TR.k (5+1)),AV.int (Int.ofNat (y.length)) (TR.k (7+1))] 5 9,aV vS (Value.bool false) [AV.str ⟨⟨x⟩⟩ (TR.l tx),AV.str ⟨⟨y⟩⟩ (TR.l ty)] 5 9,aV vR (Value.bool true) [AV.str ⟨⟨x⟩⟩ (TR.l tx),AV.str ⟨⟨y⟩⟩ (TR.l ty)] 5 9] 132 CJ (pU (Int.ofNat 0) tk j) bl p 370 [aK [sv x tx,sv y ty]] [0] (.pure (.done (.ret (.int (Int.negSucc 0) (aC tb 9))))) [aK [sv x tx,sv y ty]] 5:=by unfold aZ;kernel_rfl
theorem aGq (j:Nat)(x y:List Nat)(tx ty tk:Nat):
 aZ w g₀ [j] ad tb [fX ⟨⟨x⟩⟩ (TR.l tx) 5 5,fX ⟨⟨y⟩⟩ (TR.l ty) 5 7,aV qJ (Value.bool false) [AV.int (Int.ofNat (x.length)) (TR.k (5+1)),AV.int (Int.ofNat (y.length)) (TR.k (7+1))] 5 9,aV vS (Value.bool true) [AV.str ⟨⟨x⟩⟩ (TR.l tx),AV.str ⟨⟨y⟩⟩ (TR.l ty)] 5 9,aV vR (Value.bool false) [AV.str ⟨⟨x⟩⟩ (TR.l tx),AV.str ⟨⟨y⟩⟩ (TR.l ty)] 5 9] 132 CJ (pU (Int.ofNat 0) tk j) bl p 370 [aK [sv x tx,sv y ty]] [0] (.pure (.done (.ret (.int (Int.ofNat 1) (aC tb 9))))) [aK [sv x tx,sv y ty]] 5:=by unfold aZ;kernel_rfl
theorem aGr (j:Nat)(x y:List Nat)(tx ty tk:Nat):
 aZ w g₀ [j] ad tb [fX ⟨⟨x⟩⟩ (TR.l tx) 5 5,fX ⟨⟨y⟩⟩ (TR.l ty) 5 7,aV qJ (Value.bool false) [AV.int (Int.ofNat (x.length)) (TR.k (5+1)),AV.int (Int.ofNat (y.length)) (TR.k (7+1))] 5 9,aV vS (Value.bool false) [AV.str ⟨⟨x⟩⟩ (TR.l tx),AV.str ⟨⟨y⟩⟩ (TR.l ty)] 5 9,aV vR (Value.bool false) [AV.str ⟨⟨x⟩⟩ (TR.l tx),AV.str ⟨⟨y⟩⟩ (TR.l ty)] 5 9] 132 CJ (pU (Int.ofNat 0) tk j) bl p 370 [aK [sv x tx,sv y ty]] [0] (.pure (.done (.ret (.int (Int.ofNat 0) (aC tb 9))))) [aK [sv x tx,sv y ty]] 5:=by unfold aZ;kernel_rfl
end
theorem aGs(w:World)(g₀:Nat)(ad tb:Nat->Nat)(bl:List (Code×Pos))(p:Pos)(l ep:Nat)(t0:Nat)(vs:List Value):
 let r:=cN w g₀ [l] ad tb [] 74 CL
  (qT l (.int (Int.ofNat 0) t0)) bl p 350 [aA vs ep]
 fZ r [0,1,2]=iA r [bZ ⟨qT l (.int (Int.ofNat 0) t0),none,none,bl,none⟩ p 350] ⟨uE (ad 1+817),none,none,bl,none⟩ (some (mE (ad 1+817) (ad 2+817),none)) [some (aA vs ep),some (wV w.params (aC tb) l (ad 2+817) (.int (Int.ofNat 0) t0) (.int (Int.ofNat 0) t0)),some (aO l 0)] [] 3:=by intro r;kernel_rfl
section
variable (w:World)(g₀:Nat)(ad tb:Nat->Nat)(bl:List (Code×Pos))(p:Pos)
theorem aGt (loc it l k ep:Nat)(x:Value)(vs:List Value):
 aW w g₀ [it,l] ad tb [eQ x 0 1 k vs ep 2 0] 5 33562625 (mE loc it) (cQ (.ref it)) bl p 360 [aO l k,aA vs ep] [0,1] (.pure (.done (.ret x))) [aO l (k+1),aA vs ep] 2:=by unfold aW;kernel_rfl
theorem aGu (loc it l k ep:Nat)(vs:List Value):
 aW w g₀ [it,l] ad tb [iR 0 1 k vs ep 2 0] 6 301998081 (mE loc it) (cQ (.ref it)) bl p 360 [aO l k,aA vs ep] [0,1] (.pure (.done .brk)) [litE k,aA vs ep] 4:=by unfold aW;kernel_rfl
theorem aGv (loc:Nat):
 aZ w g₀ [] ad tb [] 1 0 (.block (fV lH) (AT loc)) bl p 360 [] [] (.pure (.done .next)) [] 0:=by unfold aZ;kernel_rfl
theorem aGw (loc it sq j:Nat)(t0:Value)(τ:Nat->Nat)(z z2:Int)(tz:Nat)(x y:List Nat)(tx ty:Nat):
 fY w g₀ [loc,j] ad tb [AS z z2 tz 1 x y tx ty 2 1] 25 0x800a000002002002002002 (mE loc it) (FT loc it (.ref j)) bl p 360 [wV w.params τ sq it t0 (.int z tz),aK [sv x tx,sv y ty]] [0,1] (mE loc it) [uD w.params (bX τ 5 (aC tb 0)) sq it t0 (.int z2 (aC tb 1)) (.ref j),aK [sv x tx,sv y ty]] 2:=by unfold fY;kernel_rfl
theorem aGx (loc it sq j:Nat)(t0:Value)(τ:Nat->Nat)(z z2:Int)(tz:Nat)(x y:List Nat)(tx ty:Nat)(old:Value):
 fY w g₀ [loc,j] ad tb [AS z z2 tz 1 x y tx ty 2 1] 25 0x800a000002002002002002 (mE loc it) (FT loc it (.ref j)) bl p 360 [uD w.params τ sq it t0 (.int z tz) old,aK [sv x tx,sv y ty]] [0,1] (mE loc it) [uD w.params τ sq it t0 (.int z2 (aC tb 1)) (.ref j),aK [sv x tx,sv y ty]] 2:=by unfold fY;kernel_rfl
theorem aGy (g1:Nat)(ad1 tb1:Nat->Nat)(p1:Pos)(l ep t0:Nat)(vs:List Value)(loc it sq:Nat)(τ:Nat->Nat)(t1:Value)(z:Int)(tz:Nat):
 aW w g₀ [ad1 1+817] ad tb [] 4 1 (uE (ad1 1+817)) (dY (cN w g1 [l] ad1 tb1 [] 74 CL (qT l (.int (Int.ofNat 0) t0)) bl p1 350 [aA vs ep]).t (.ok .next)) bl p 350 [wV w.params τ sq it t1 (.int z tz)] [0] (.pure (.done (.ret (.int z tz)))) [wV w.params τ sq it t1 (.int z tz)] 1:=by unfold aW;kernel_rfl
theorem aGz (g1:Nat)(ad1 tb1:Nat->Nat)(p1:Pos)(l ep t0:Nat)(vs:List Value)(loc it sq:Nat)(τ:Nat->Nat)(t1:Value)(z:Int)(tz:Nat)(old:Value):
 aW w g₀ [ad1 1+817] ad tb [] 4 1 (uE (ad1 1+817)) (dY (cN w g1 [l] ad1 tb1 [] 74 CL (qT l (.int (Int.ofNat 0) t0)) bl p1 350 [aA vs ep]).t (.ok .next)) bl p 350 [uD w.params τ sq it t1 (.int z tz) old] [0] (.pure (.done (.ret (.int z tz)))) [uD w.params τ sq it t1 (.int z tz) old] 1:=by unfold aW;kernel_rfl
end
section
section
variable{w:World}
theorem nH{x:List Nat}(h:x.length<=1000):¬((⟨⟨x⟩⟩:Str).length:Int)>=2 ^ 63:=by
 have:((⟨⟨x⟩⟩:Str).length:Int)=(x.length:Int):=rfl;rw[this];lia
theorem aH0 {t z:Int}{x y:List Nat}(h:iN t x y=z)(htk:1335<=tk)(hj:j<n)(hx:x.length<=1000)(hy:y.length<=1000):aG (model PR w) (aX w.params) (AS t z tk j x y tx ty n i):=by
 refine eN 0 (fun u u=>rfl) ?_ (fun u u u u u u=>rfl) (fun u u u u u u=>rfl) (fun u u u u u u=>rfl) ?_ (fun u u=>rfl) (fun u u=>rfl) (fun k h=>by simp at h;lia) (by simp) fun A K bl p s hA hK hd B ha nd lo=> ?_
 ·intro A K A' K' a1 a2
  show pU t tk (A' j)=pU t tk (A j);rw[a1 j hj]
 ·intro A K A' K' a1 a2
  show (Except.ok (.ret (.int z (K' i))):Result)=Except.ok (.ret (.int z (K i)));rw[a2 i (by lia)]
 ·have fin:∀(tt:Nat) ad s',1335<=tt->dX [A j] ad s s' [0] [some (aK [sv x tx,sv y ty])] 5->∃la lk:List Nat,la.length=0/\la.Nodup/\(∀a∈la,s.heap.objs.size<=a)/\(∀t∈lk,1335<=t)/\aJ (bM A [j]) s s'/\
    At s' (bM A [j]) [aK [sv x tx,sv y ty]]/\At s' la []/\(Except.ok (.ret (.int z tt)):Result)= .ok (.ret (.int z (upd K i lk i))):=fun tt ad s' htt Q=>
   ⟨[],[tt],rfl,List.nodup_nil,aE,aD htt,Q.ext,⟨Q.at_ 0 0 _ rfl rfl,trivial⟩,trivial,by rw[iG]⟩
  have lj:∀a∈[A j],817<=a:=aD (hA j)
  by_cases h0:t=0
  ·subst h0
   by_cases hl:x.length=y.length
   ·have hne:(Int.ofNat x.length != Int.ofNat y.length)=false:=by rw[hl];simp
    have hz:(if decide (y<x) then(1:Int) else 0) - (if decide (x<y) then 1 else 0)=z:=by
     unfold iN at h;rw[if_neg (by simp),if_neg (by simp[hl])] at h;exact h
    cases h1:decide (y<x) with
    |true=>
     have h2:decide (x<y)=false:=by
      have q1:=of_decide_eq_true h1;exact decide_eq_false (List.lt_asymm q1)
     rw[h1,h2] at hz;subst hz;refine cT (fun ad tb=>aGq w s.gens.size ad tb bl p (A j) x y tx ty tk) (aB (fL (nH hx) rfl) (aB (fL (nH hy) rfl) (aB (wU hne rfl) (aB (FP h1 rfl) (aD (FO h2 rfl)))))) B ha rfl nd lj hd dT fun ad tb s' Q=>fin _ ad s' (bB tb 9) Q
    |false=>
     cases h2:decide (x<y) with
     |true=>
      rw[h1,h2] at hz;subst hz;refine cT (fun ad tb=>aGp w s.gens.size ad tb bl p (A j) x y tx ty tk) (aB (fL (nH hx) rfl) (aB (fL (nH hy) rfl) (aB (wU hne rfl) (aB (FP h1 rfl) (aD (FO h2 rfl)))))) B ha rfl nd lj hd dT fun ad tb s' Q=>fin _ ad s' (bB tb 9) Q
     |false=>
      rw[h1,h2] at hz;subst hz;refine cT (fun ad tb=>aGr w s.gens.size ad tb bl p (A j) x y tx ty tk) (aB (fL (nH hx) rfl) (aB (fL (nH hy) rfl) (aB (wU hne rfl) (aB (FP h1 rfl) (aD (FO h2 rfl)))))) B ha rfl nd lj hd dT fun ad tb s' Q=>fin _ ad s' (bB tb 9) Q
   ·have hne:(Int.ofNat x.length != Int.ofNat y.length)=true:=by
     simp only[bne_iff_ne,ne_eq];intro q;exact hl (Int.ofNat.inj q)
    have hz:Int.ofNat x.length - Int.ofNat y.length=z:=by
     unfold iN at h;rw[if_neg (by simp),if_pos hl] at h;exact h
    refine cT (fun ad tb=>aGo w s.gens.size ad tb bl p z (A j) x y tx ty tk) (aB (fL (nH hx) rfl) (aB (fL (nH hy) rfl) (aB (wU hne rfl) (aB (fL (nH hx) rfl) (aB (fL (nH hy) rfl) (aD (SE hz rfl))))))) B ha rfl nd lj hd dT fun ad tb s' Q=>fin _ ad s' (bB tb 13) Q
  ·have hne:(t != Int.ofNat 0)=true:=by
    simp only[bne_iff_ne,ne_eq];exact h0
   have hz:t=z:=by
    unfold iN at h;rw[if_pos h0] at h;exact h
   subst hz;refine cT (fun ad tb=>aGn w s.gens.size ad tb bl p t (A j) x y tx ty tk) (aD (wU hne rfl)) B ha rfl nd lj hd dT fun ad tb s' Q=> ?_;exact⟨[],[tk],rfl,List.nodup_nil,aE,aD htk,Q.ext,⟨Q.at_ 0 0 _ rfl rfl,trivial⟩,trivial,by rw[iG]⟩
end
end
section
noncomputable def fE:Int->List (List Nat)->List (List Nat)->Int
 |t,x::xs,y::ys=>fE (iN t x y) xs ys
 |t,_,_=>t
theorem wW{t:Int}{xs ys:List (List Nat)}(h:xs=[]\/ys=[]):fE t xs ys=t:=by
 cases xs with
 |nil=>rfl
 |cons x xs=>
  cases ys with
  |nil=>rfl
  |cons y ys=>simp at h
noncomputable def FU(P:Params)(τ:Nat->Nat)(sq it:Nat)(t0 v:Value)(D:Option Value):Obj:=match D with
 |none=>wV P τ sq it t0 v
 |some e=>uD P τ sq it t0 v e
theorem aH1(it:Value)(v:Value):letOwnedTupleGo (bR lH) it v=pure ():=by
 rw[show bR lH= .Name (yM (bR lH)) (bR lH).pos by kernel_rfl];rfl
section
variable{w:World}{bl:List (Code×Pos)}{R:Result->Shared->Prop}
theorem aH2 {l sq:Nat}{t0:Value}{Z:Int}(hRe:∀x s,¬R (.error x) s)(h1:tt1.length=ws1.length)(h2:tt2.length=ws2.length)(hts:ts.length=min ws1.length ws2.length)(hw1:∀x∈ws1,x.length<=1000)(hw2:∀x∈ws2,x.length<=1000)(nts:∀t∈ts,817<=t/\t∉[loc,it,l])(nd:[loc,it,l].Nodup)(lo:∀x∈[loc,it,l],817<=x)(hd:frameCount bl<=360)(B₀:aT w s₀)(hR:∀s' τ tz D,1335<=tz->aJ [loc,it] s₀ s'->s'.heap.get? loc=some (FU w.params τ sq it t0 (.int Z tz) D)->R (.ok .next) s'):
  ∀(m k:Nat) (s:Shared) (τ:Nat->Nat) (z:Int) (tz:Nat) (D:Option Value) (p:Pos),min ws1.length ws2.length - k=m->k<=min ws1.length ws2.length->1335<=tz->fE z (ws1.drop k) (ws2.drop k)=Z->aJ [loc,it] s₀ s->
   s.heap.get? loc=some (FU w.params τ sq it t0 (.int z tz) D)->s.heap.get? it=some (aO l k)->s.heap.get? l=some (aA (ts.map Value.ref) ep)->At s ts (iU (bA ws1 tt1) (bA ws2 tt2))->
   wpCode (model PR w) ⟨mE loc it,none,none,bl,none⟩ R p s:=by
 have lom:∀a∈[loc,it],817<=a:=aB (lo _ (mI 0)) (aD (lo _ (mI 1)));have lo2:∀a∈[it,l],817<=a:=aB (lo _ (mI 1)) (aD (lo _ (mI 2)));have nd2:[it,l].Nodup:=bO nd [1,2] rfl;have fits:(ts.map Value.ref).length=min ws1.length ws2.length:=by rw[List.length_map,hts]
 have one:∀{y a:Nat},y≠a->y∉[a]:=fun h q=>h (List.mem_singleton.mp q);have d1:∀{s s':Shared},aJ [it,l] s s'->s.heap.get? l=some (aA (ts.map Value.ref) ep)->s'.heap.get? l=some (aA (ts.map Value.ref) ep)->aJ [it] s s':=fun X h h'=>X.drop1 (aB (.inl (.head _)) (aD (.inr (.inr ⟨_,h,h'⟩))));intro m;induction m with
 |zero=>
  intro k s τ z tz D p hm hk htz hZ X hloc hit hl ha;have hk:=vZ hm hk;refine tR hRe fun p'=> ?_
  refine ED (P:=fun s'=>aJ [it] s s') (bL
   (fun ad tb=>aGu w s.gens.size ad tb bl p' loc it l k ep (ts.map Value.ref)) (aD (oA (List.getElem?_eq_none (by rw[fits,hk];exact Nat.le_refl _)) dT dT dT)) (B₀.ext X lom) ⟨hit,hl,trivial⟩ rfl nd2 lo2 hd
   fun ad tb s' Q=>⟨rfl,d1 Q.ext hl (Q.at_ 1 1 _ rfl rfl)⟩) fun p₁ s₁ X₁=> ?_
  have X₂:aJ [loc,it] s₀ s₁:=jO X (X₁.mono (aD (mI 1)))
  have hz:z=Z:=by
   rw[<-hZ,wW];rcases Nat.le_total ws1.length ws2.length with q |q
   ·exact .inl (List.drop_eq_nil_of_le (by rw[hk,Nat.min_eq_left q];exact Nat.le_refl _))
   ·exact .inr (List.drop_eq_nil_of_le (by rw[hk,Nat.min_eq_right q];exact Nat.le_refl _))
  rw[hz] at hloc
  exact cT (fun ad tb=>aGv w s₁.gens.size ad tb bl p₁ loc) aE (B₀.ext X₂ lom) trivial rfl List.nodup_nil aE hd dT fun ad tb s₂ Q=>
   hR s₂ τ tz D htz (jO X₂ (Q.ext.mono fun _ q=>nomatch q)) (Q.ext.frame _ _ (X₁.frame _ _ hloc (one (iI nd 0 1 rfl))) fun q=>nomatch q)
 |succ m ih=>
  intro k s τ z tz D p hm hk htz hZ X hloc hit hl ha;obtain⟨hlt,hm',hk'⟩:=vY hm;have k1:k<ws1.length:=Nat.lt_of_lt_of_le hlt (Nat.min_le_left _ _);have k2:k<ws2.length:=Nat.lt_of_lt_of_le hlt (Nat.min_le_right _ _);have kt:k<ts.length:=by rw[hts];exact hlt
  rw[List.drop_eq_getElem_cons k1,List.drop_eq_getElem_cons k2] at hZ;have hx:=List.getElem?_eq_getElem k1;have hy:=List.getElem?_eq_getElem k2;have ht:=List.getElem?_eq_getElem kt;generalize ws1[k]=x at hZ hx;generalize ws2[k]=y at hZ hy;generalize ts[k]=t at ht;obtain⟨tx,_,gx⟩:=tV ws1 tt1 k x h1 hx;obtain⟨ty,_,gy⟩:=tV ws2 tt2 k y h2 hy;have hto:s.heap.get? t=some (aK [sv x tx,sv y ty]):=ha.get k t _ ht (AR _ _ k _ _ gx gy);obtain⟨lt8,ntt⟩:=nts t (List.mem_of_getElem? ht);refine tR hRe fun p'=> ?_
  refine EE (P:=fun zv s'=>zv= .ref t/\aJ [it] s s'/\s'.heap.get? l=some (aA (ts.map Value.ref) ep)/\s'.heap.get? it=some (aO l (k+1))) (bL
   (fun ad tb=>aGt w s.gens.size ad tb bl p' loc it l k ep (.ref t) (ts.map Value.ref)) (aD (kP (by rw[List.getElem?_map,ht];rfl) dT dT dT)) (B₀.ext X lom) ⟨hit,hl,trivial⟩ rfl nd2 lo2 hd
   fun ad tb s' Q=>⟨_,rfl,rfl,d1 Q.ext hl (Q.at_ 1 1 _ rfl rfl),Q.at_ 1 1 _ rfl rfl,Q.at_ 0 0 _ rfl rfl⟩) fun _ p₁ s₁ q=> ?_
  obtain⟨rfl,F⟩:=q;have X₂:aJ [loc,it] s₀ s₁:=jO X (F.1.mono (aD (mI 1)));have hto₁:=F.1.frame _ _ hto (one fun e=>ntt (by rw[e];exact mI 1));have hloc₁:=F.1.frame _ _ hloc (one (iI nd 0 1 rfl));show Sem.wp (model PR w) _ (letOwnedTupleGo (bR lH) (.ref it) (.ref t)) _ _ p₁ s₁;rw[aH1];show ∃r s',Runs (model PR w) _ p₁ (FT loc it (.ref t)) [] s₁ (.ret r) s'/\R r s';have lx:x.length<=1000:=hw1 x (List.mem_of_getElem? hx);have ly:y.length<=1000:=hw2 y (List.mem_of_getElem? hy);have hkp:∀hf∈[AS z (iN z x y) tz 1 x y tx ty 2 1],aG (model PR w) (aX w.params) hf:=aD (aH0 rfl htz dT lx ly);have nlt:[loc,t].Nodup:=List.nodup_cons.mpr ⟨one fun e=>ntt (by rw[e];exact mI 0),by simp⟩
  have next:∀px s₃ τ' t1,1335<=t1->aJ [loc,t] s₁ s₃->s₃.heap.get? loc=some (FU w.params τ' sq it t0 (.int (iN z x y) t1) (some (.ref t)))->s₃.heap.get? t=some (aK [sv x tx,sv y ty])->wpCode (model PR w) ⟨mE loc it,none,none,bl,none⟩ R px s₃:=fun px s₃ τ' t1 g1 X₃ f1 f2=>by
   have X₃:aJ [loc] s₁ s₃:=X₃.drop1 (aB (.inl (.head _)) (aD (.inr (.inr ⟨_,hto₁,f2⟩))));refine ih (k+1) s₃ τ' (iN z x y) t1 (some (.ref t)) px hm' hk' g1 hZ (jO X₂ (X₃.mono (aD (mI 0)))) f1 (X₃.frame _ _ F.2.2 (one (iI nd 1 0 rfl))) (X₃.frame _ _ F.2.1 (one (iI nd 2 0 rfl))) (ha.keep fun y o hy ho=> ?_);exact X₃.frame y o (F.1.frame y o ho (one fun e=>(nts y hy).2 (by rw[e];exact mI 1))) (one fun e=>(nts y hy).2 (by rw[e];exact mI 0))
  cases D with
  |none=>
   exact oX (fun ad tb=>aGw w s₁.gens.size ad tb bl p₁ loc it sq t t0 τ z (iN z x y) tz x y tx ty) (fun _ _=>by unfold mE;kernel_rfl) hkp (B₀.ext X₂ lom) ⟨hloc₁,hto₁,trivial⟩ rfl nlt (aB (lo _ (mI 0)) (aD lt8)) hd fun ad tb px s₃ Q=>
    next px s₃ _ _ (bB tb 1) Q.ext (Q.at_ 0 0 _ rfl rfl) (Q.at_ 1 1 _ rfl rfl)
  |some old=>
   exact oX (fun ad tb=>aGx w s₁.gens.size ad tb bl p₁ loc it sq t t0 τ z (iN z x y) tz x y tx ty old) (fun _ _=>by unfold mE;kernel_rfl) hkp (B₀.ext X₂ lom) ⟨hloc₁,hto₁,trivial⟩ rfl nlt (aB (lo _ (mI 0)) (aD lt8)) hd fun ad tb px s₃ Q=>
    next px s₃ _ _ (bB tb 1) Q.ext (Q.at_ 0 0 _ rfl rfl) (Q.at_ 1 1 _ rfl rfl)
theorem aH3 {R':Result->Shared->Prop}(h:∀r s,R' r s->R r s)(hw:wpCode (model PR w) Γ R' p s):wpCode (model PR w) Γ R p s:=by
 obtain⟨r,s',h1,h2⟩:=hw;exact⟨r,s',h1,h _ _ h2⟩
theorem aH4 {l:Nat}(h1:tt1.length=ws1.length)(h2:tt2.length=ws2.length)(hts:ts.length=min ws1.length ws2.length)(hw1:∀x∈ws1,x.length<=1000)(hw2:∀x∈ws2,x.length<=1000)(nts:∀t∈ts,817<=t/\t≠l)(ll:817<=l)(ht0:1335<=t0)(hd:frameCount bl<=350)(B:aT w s)(hl:s.heap.get? l=some (aA (ts.map Value.ref) ep))(ha:At s ts (iU (bA ws1 tt1) (bA ws2 tt2)))(hR:∀s' tz,1335<=tz->aJ [] s s'->R (.ok (.ret (.int (fE 0 ws1 ws2) tz))) s'):
  wpCode (model PR w) ⟨qT l (.int (Int.ofNat 0) t0),none,none,bl,none⟩ R p s:=by
 refine wH (fun ad tb=>aGs w s.gens.size ad tb bl p l ep t0 (ts.map Value.ref)) aE B ⟨hl,trivial⟩ rfl (by simp) (aD ll) hd dT fun ad tb px s₁ Q=> ?_
 have nw:∀j,1<=j->j<3->s.heap.objs.size<=ad j+817:=fun j a b=>by
  have:=(Q.new j a b).1
  match j,a with
  |j+1,_=>exact this
 have n1:=nw 1 dT dT;have n2:=nw 2 dT dT;have lt:∀y o,s.heap.get? y=some o->∀j,1<=j->j<3->y≠ad j+817:=fun y o hy j a b q=>absurd (Nat.lt_of_lt_of_le (Heap.lt_size hy) (nw j a b)) (by rw[q];exact Nat.lt_irrefl _);have i12:ad 1+817≠ad 2+817:=fun e=>absurd (Q.inj 1 2 dT dT e) dT;have hl₁:s₁.heap.get? l=some (aA (ts.map Value.ref) ep):=Q.at_ 0 0 _ rfl rfl;have hlo₁:=Q.at_ 1 1 _ rfl rfl;have hit₁:=Q.at_ 2 2 _ rfl rfl;have X₁:aJ [l] s s₁:=Q.ext;have X0:aJ [] s s₁:=X₁.drop1 (aD (.inr (.inr ⟨_,hl,hl₁⟩)));have fr₁:∀y o,s.heap.get? y=some o->s₁.heap.get? y=some o:=fun y o hy=>X0.frame y o hy fun q=>nomatch q;have B₁:aT w s₁:=B.ext X₁ (aD ll)
 have nd:[ad 1+817,ad 2+817,l].Nodup:=by
  simp only[List.nodup_cons,List.mem_cons,List.not_mem_nil,or_false,not_or,List.nodup_nil,and_true,not_false_eq_true];exact⟨⟨i12,(lt _ _ hl 1 dT dT).symm⟩,(lt _ _ hl 2 dT dT).symm⟩
 have lo:∀x∈[ad 1+817,ad 2+817,l],817<=x:=aB (Nat.le_add_left _ _) (aB (Nat.le_add_left _ _) (aD ll))
 have hdf:frameCount ((uE (ad 1+817),px)::bl)<=360:=by
  rw[frameCount_cons];have:(uE (ad 1+817)).weight<=1:=vH _
  lia
 have tsS:∀t∈ts,∃o,s.heap.get? t=some o:=by
  have pl:(iU (bA ws1 tt1) (bA ws2 tt2)).length=ts.length:=by rw[wT,iK _ _ h1,iK _ _ h2,hts]
  intro t ht;obtain⟨j,hj,rfl⟩:=List.mem_iff_getElem.mp ht;exact⟨_,ha.get j _ _ (List.getElem?_eq_getElem hj) (List.getElem?_eq_getElem (by rw[pl];exact hj))⟩
 refine aH3 (R':=fun r s₂=>(∃f,r= .ok f)/\∃r' s₃,Runs (model PR w) ⟨uE (ad 1+817),none,none,bl,none⟩ px (dY (cN w s.gens.size [l] ad tb [] _ _ (qT l (.int (Int.ofNat 0) t0)) bl p 350 [aA (ts.map Value.ref) ep]).t r) [] s₂ (.ret r') s₃/\R r' s₃) (fun r s' h=>h.2) ?_
 refine aH2 (s₀:=s₁) (loc:=ad 1+817) (it:=ad 2+817) (l:=l) (sq:=l) (ep:=ep) (t0:= .int (Int.ofNat 0) t0) (ws1:=ws1) (ws2:=ws2) (tt1:=tt1) (tt2:=tt2) (ts:=ts) (Z:=fE 0 ws1 ws2) (fun x s' h=> ?_) h1 h2 hts hw1 hw2 (fun t ht=>⟨(nts t ht).1,?_⟩) nd lo hdf B₁ (fun s' τ tz D htz X hloc=> ?_)
  _ 0 s₁ (aC tb) (Int.ofNat 0) t0 none px rfl (Nat.zero_le _) ht0 rfl ((aJ.refl _).mono fun a h=>nomatch h) hlo₁ hit₁ hl₁ (ha.keep fun y o u ho=>fr₁ y o ho)
 ·obtain⟨⟨f,h⟩,_⟩:=h;cases h
 ·obtain⟨o,ho⟩:=tsS t ht
  simp only[List.mem_cons,List.not_mem_nil,or_false,not_or];exact⟨lt _ _ ho 1 dT dT,lt _ _ ho 2 dT dT,(nts t ht).2⟩
 ·have l11:∀a∈[ad 1+817,ad 2+817],817<=a:=aB (Nat.le_add_left _ _) (aD (Nat.le_add_left _ _))
  have key:∀s'',aJ [ad 1+817] s' s''->R (.ok (.ret (.int (fE 0 ws1 ws2) tz))) s'':=fun s'' X''=>by
   refine hR s'' tz htz ⟨fun y o hy u=>X''.frame y o (X.frame y o (fr₁ y o hy) ?_) ?_,Nat.le_trans X₁.size (Nat.le_trans X.size X''.size),Nat.le_trans X₁.toks (Nat.le_trans X.toks X''.toks),X''.gens.trans (X.gens.trans X₁.gens),X''.drawn.trans (X.drawn.trans X₁.drawn),X''.os.trans (X.os.trans X₁.os)⟩
   ·simp only[List.mem_cons,List.not_mem_nil,or_false,not_or]
    exact⟨lt _ _ hy 1 dT dT,lt _ _ hy 2 dT dT⟩
   ·simp only[List.mem_cons,List.not_mem_nil,or_false]
    exact lt _ _ hy 1 dT dT
  refine⟨⟨_,rfl⟩,?_⟩;cases D with
  |none=>exact bL (fun ad' tb'=>aGy w s'.gens.size ad' tb' bl px s.gens.size ad tb p l ep t0 (ts.map Value.ref) (ad 1+817) (ad 2+817) l τ (.int (Int.ofNat 0) t0) (fE 0 ws1 ws2) tz) aE (B₁.ext X l11) ⟨hloc,trivial⟩ rfl (by simp) (aD (Nat.le_add_left _ _)) hd fun ad' tb' s'' Q'=>key s'' Q'.ext
  |some old=>exact bL (fun ad' tb'=>aGz w s'.gens.size ad' tb' bl px s.gens.size ad tb p l ep t0 (ts.map Value.ref) (ad 1+817) (ad 2+817) l τ (.int (Int.ofNat 0) t0) (fE 0 ws1 ws2) tz old) aE (B₁.ext X l11) ⟨hloc,trivial⟩ rfl (by simp) (aD (Nat.le_add_left _ _)) hd fun ad' tb' s'' Q'=>key s'' Q'.ext
end
end
section
noncomputable def FV(j:Nat)(vs:List Value)(ep n i:Nat):HF:=fun A K=>⟨.builtin DH ⟨[.ref (A j)],[]⟩,[(j,aA vs ep)],[],[],.ok (.ret (.int (.ofNat vs.length) (K (i+1)))),2,n,i,900,none⟩
theorem aH5 {h:Heap}(ha:h.get? a=some (aA vs ep)):h.IsList a ⟨vs⟩:=⟨_,ha,by rw[iZ],ep,by rw[iZ]⟩
section
variable{prog:Program}{w:World}{kt:KT}
theorem SF (hj:j<n)(hfit:vs.length<=1000):aG (model prog w) kt (FV j vs ep n i) where
 loc A K A' K' h1 h2:=by
  have h1:∀k,k<n->A' k=A k:=h1;have h2:∀k,k<i+2->K' k=K k:=h2;show HS.mk _ _ _ _ _ _ _ _ _ _=HS.mk _ _ _ _ _ _ _ _ _ _;rw[h1 j hj,h2 (i+1) (by lia)]
 ok A K Γ p s R hA hK hc hd h1 h2 h3 ht hs hk hp hi hl' _ _ hR:=by
  have hl:s.heap.get? (A j)=some (aA vs ep):=hp (j,_) (.head _)
  have m:Meets (Builtin.«len» ⟨[.ref (A j)],[]⟩) (fun u R s=>s.heap.get? (A j)=some (aA vs ep)/\R (.ok (.ret (.int vs.length (s.toks+1)))) {s with toks:=s.toks+1+1}):=fun prog w A' R s h=>
   wpAny_mono (wpAny_len_body_list (Q:=fun v s'=>R (.ok (.ret v)) s') (aH5 h.1) (by show ((vs.length:Nat):Int)<2 ^ 63;lia) h.2) (fun fin s' q=>by obtain⟨r,rfl,q⟩:=q;exact q) fun u u e=>e
  refine lA m (by rw[hc];exact eM (by rw[<-KJ];exact entry_len) _) ⟨hl,?_⟩
  have z:=hR A (fun j=>if j=i+1 then s.toks+1 else K j) {s with toks:=s.toks+1+1} (fun u u=>rfl) (fun j hj=>if_neg (Nat.ne_of_lt (Nat.lt_succ_of_lt hj))) hA (fun j=>by
   show 1335<=(if j=i+1 then s.toks+1 else K j);split
   ·exact Nat.le_succ_of_le hk
   ·exact hK j) (mT (Nat.le_add_right _ 2))
  have q:(if i+1=i+1 then s.toks+1 else K (i+1))=s.toks+1:=if_pos rfl;show R (.ok (.ret (.int vs.length (s.toks+1)))) _;have z':R (.ok (.ret (.int vs.length (if i+1=i+1 then s.toks+1 else K (i+1))))) {s with toks:=s.toks+1+1}:=z;rw[q] at z';exact z'
end
noncomputable def SG:Stmt:=cM 39
noncomputable def aH6(loc:Nat):Env:=nV SG [95,108,97,119,95,99,111,109,112,97,114,101,46,60,108,111,99,97,108,115,62,46] 811 810 loc
noncomputable def nI(loc:Nat):Code:= .func (bF SG) (aH6 loc)
noncomputable def oH(a b:Nat):Code:= .call (.ref 811) ⟨[.ref a,.ref b],[]⟩
noncomputable def AU(P:Params)(τ:Nat->Nat)(a b:Nat):Obj:=⟨fI,none,.dict ⟨[de P [111,110,101,115] (τ 0) (.ref a),de P [116,119,111,115] (τ 1) (.ref b)]⟩ 2,⟨[]⟩⟩
end
theorem aH7(w:World)(g₀:Nat)(ad tb:Nat->Nat)(bl:List (Code×Pos))(p:Pos)(a b ep1 ep2:Nat)(vs1 vs2:List Value):
 let r:=cN w g₀ [a,b] ad tb [] 66 xU
  (oH a b) bl p 335 [aA vs1 ep1,aA vs2 ep2]
 fZ r [0,1,2,3,4,5,6,7]=iA r [bZ ⟨oH a b,none,none,bl,none⟩ p 335] ⟨nI (ad 2+817),none,none,bl,none⟩ (some (wR (ad 7+817),none)) [some (aA vs1 ep1),some (aA vs2 ep2),some (AU w.params (aC tb) a b),some (aO a 0),some (aO b 0),some (aK [.ref (ad 3+817),.ref (ad 4+817)]),some (aK [.none,.none]),some (fU .none false (ad 5+817) (ad 6+817))] [] 8:=by intro r;kernel_rfl
theorem aH8(w:World)(g₀:Nat)(ad tb:Nat->Nat)(bl:List (Code×Pos))(p:Pos)(g1:Nat)(ad1 tb1:Nat->Nat)(p1:Pos)(a b ep1 ep2:Nat)(vs1 vs2:List Value)(ls:Nat):
 let r:=aY w g₀ [] ad tb [] 4 0
  (nI (ad1 2+817)) (dY (cN w g1 [a,b] ad1 tb1 [] 66 xU (oH a b) bl p1 335 [aA vs1 ep1,aA vs2 ep2]).t (.ok (.ret (.ref ls)))) bl p 335 []
 fZ r []=iA r [bZ ⟨nI (ad1 2+817),none,none,bl,none⟩ p 335] ⟨nI (ad1 2+817),none,none,bl,none⟩ (some (qT ls (.int (Int.ofNat 0) (aC tb 0)),none)) [] [] 0:=by intro r;kernel_rfl
section
variable (w:World)(g₀:Nat)(ad tb:Nat->Nat)(bl:List (Code×Pos))(p:Pos)(g1:Nat)(ad1 tb1:Nat->Nat)(p1:Pos)(a b ep1 ep2:Nat)(vs1 vs2:List Value)(ls g2:Nat)(ad2 tb2:Nat->Nat)(p2:Pos)(tz:Nat)(z:Int)
theorem aH9:
 aW w g₀ [] ad tb [aV eV (Value.bool true) [AV.int z (TR.l tz)] 0 0] 5 2 (nI (ad1 2+817)) (dY (aY w g2 [] ad2 tb2 [] 4 0 (nI (ad1 2+817)) (dY (cN w g1 [a,b] ad1 tb1 [] 66 xU (oH a b) bl p1 335 [aA vs1 ep1,aA vs2 ep2]).t (.ok (.ret (.ref ls)))) bl p2 335 []).t (.ok (.ret (.int z tz)))) bl p 335 [] [] (.pure (.done (.ret (.int z tz)))) [] 0:=by unfold aW;kernel_rfl
theorem aHa:
 aW w g₀ [ad1 2+817,a,b] ad tb [FV 1 vs1 ep1 3 0,FV 2 vs2 ep2 3 2,aI yR z [AV.int (Int.ofNat vs1.length) (TR.k (0+1)),AV.int (Int.ofNat vs2.length) (TR.k (2+1))] 3 4] 27 0xa0010000008004000000 (nI (ad1 2+817)) (dY (aY w g2 [] ad2 tb2 [] 4 0 (nI (ad1 2+817)) (dY (cN w g1 [a,b] ad1 tb1 [] 66 xU (oH a b) bl p1 335 [aA vs1 ep1,aA vs2 ep2]).t (.ok (.ret (.ref ls)))) bl p2 335 []).t (.ok (.ret (.int (Int.ofNat 0) tz)))) bl p 335 [AU w.params (aC tb1) a b,aA vs1 ep1,aA vs2 ep2] [0,1,2] (.pure (.done (.ret (.int (z) (aC tb 4))))) [AU w.params (aC tb1) a b,aA vs1 ep1,aA vs2 ep2] 3:=by unfold aW;kernel_rfl
end
section
noncomputable def iV(ws1 ws2:List (List Nat)):Int:=if fE 0 ws1 ws2≠0 then fE 0 ws1 ws2 else Int.ofNat ws1.length - Int.ofNat ws2.length
theorem SH (h:ts.length=ws.length):wS (bA ws ts):=fun k v hv=>by
 cases hw:ws[k]? with
 |none=>
  rw[List.getElem?_eq_none] at hv
  ·cases hv
  ·rw[iK _ _ h];exact List.getElem?_eq_none_iff.mp hw
 |some x=>
  obtain⟨t,_,e⟩:=tV ws ts k x h hw;rw[hv] at e;injection e with e
  exact⟨x,t,e⟩
section
variable{w:World}{bl:List (Code×Pos)}{R:Result->Shared->Prop}{p:Pos}{s:Shared}
theorem aHb {b:Nat}(h1:tt1.length=ws1.length)(h2:tt2.length=ws2.length)(hn1:ws1.length<=1000)(hn2:ws2.length<=1000)(hw1:∀x∈ws1,x.length<=1000)(hw2:∀x∈ws2,x.length<=1000)(hab:a≠b)(la:817<=a)(lb:817<=b)(hd:frameCount bl<=335)(B:aT w s)(ha:s.heap.get? a=some (aA (bA ws1 tt1) e1))(hb:s.heap.get? b=some (aA (bA ws2 tt2) e2))(hR:∀s' tz,1335<=tz->aJ [] s s'->R (.ok (.ret (.int (iV ws1 ws2) tz))) s'):
  wpCode (model PR w) ⟨oH a b,none,none,bl,none⟩ R p s:=by
 have l2:∀x∈[a,b],817<=x:=aB la (aD lb);refine wH (fun ad tb=>aH7 w s.gens.size ad tb bl p a b e1 e2 (bA ws1 tt1) (bA ws2 tt2)) aE B ⟨ha,hb,trivial⟩ rfl (by simp[hab]) l2 hd dT fun ad tb px s₁ Q=> ?_
 have nw:∀j,2<=j->j<8->s.heap.objs.size<=ad j+817:=fun j x y=>by
  have:=(Q.new j x y).1
  match j,x with
  |j+2,_=>exact this
 have inj:∀j j',2<=j->2<=j'->j<8->j'<8->ad j+817=ad j'+817->j=j':=fun j j' x x' y y' e=>by
  match j,x,j',x' with
  |j+2,_,j'+2,_=>exact Q.inj (j+2) (j'+2) y y' e
 have lt:∀y o,s.heap.get? y=some o->∀j,2<=j->j<8->ad j+817≠y:=fun y o hy j x z q=>absurd (Nat.lt_of_lt_of_le (Heap.lt_size hy) (nw j x z)) (by rw[q];exact Nat.lt_irrefl _);have ne:∀j j',2<=j->2<=j'->j<8->j'<8->j≠j'->ad j+817≠ad j'+817:=fun j j' x x' y y' h e=>h (inj j j' x x' y y' e);have ha₁:s₁.heap.get? a=some (aA (bA ws1 tt1) e1):=Q.at_ 0 0 _ rfl rfl;have hb₁:s₁.heap.get? b=some (aA (bA ws2 tt2) e2):=Q.at_ 1 1 _ rfl rfl;have hloc:=Q.at_ 2 2 _ rfl rfl;have X₁:aJ [a,b] s s₁:=Q.ext
 have fr₁:∀y o,s.heap.get? y=some o->s₁.heap.get? y=some o:=fun y o hy=>by
  by_cases q:y=a
  ·subst q;rw[ha] at hy;rw[ha₁];exact hy
  ·by_cases q':y=b
   ·subst q';rw[hb] at hy;rw[hb₁];exact hy
   ·exact X₁.frame y o hy (by simp[q,q'])
 have B₁:aT w s₁:=B.ext X₁ l2
 have hdf:frameCount ((nI (ad 2+817),px)::bl)<=336:=by
  rw[frameCount_cons];have:(nI (ad 2+817)).weight<=1:=vH _
  lia
 have nd7:[ad 7+817,ad 5+817,ad 6+817,ad 3+817,a,ad 4+817,b].Nodup:=by
  simp only[List.nodup_cons,List.mem_cons,List.not_mem_nil,or_false,not_or,List.nodup_nil,and_true,not_false_eq_true]
  exact⟨⟨ne 7 5 dT dT dT dT dT,ne 7 6 dT dT dT dT dT,ne 7 3 dT dT dT dT dT,lt _ _ ha 7 dT dT,ne 7 4 dT dT dT dT dT,lt _ _ hb 7 dT dT⟩,
   ⟨ne 5 6 dT dT dT dT dT,ne 5 3 dT dT dT dT dT,lt _ _ ha 5 dT dT,ne 5 4 dT dT dT dT dT,lt _ _ hb 5 dT dT⟩,
   ⟨ne 6 3 dT dT dT dT dT,lt _ _ ha 6 dT dT,ne 6 4 dT dT dT dT dT,lt _ _ hb 6 dT dT⟩,
   ⟨lt _ _ ha 3 dT dT,ne 3 4 dT dT dT dT dT,lt _ _ hb 3 dT dT⟩,
   ⟨(lt _ _ ha 4 dT dT).symm,hab⟩,lt _ _ hb 4 dT dT⟩
 have up:∀j,817<=ad j+817:=fun j=>Nat.le_add_left _ _
 refine aGh (vs1:=bA ws1 tt1) (vs2:=bA ws2 tt2) (SH h1) (SH h2) (by rw[iK _ _ h1];exact hn1) nd7 (aB (up _) (aB (up _) (aB (up _) (aB (up _) (aB la (aB (up _) (aD lb))))))) (Nat.le_trans hdf dT) B₁
  (Q.at_ 7 7 _ rfl rfl) (Q.at_ 6 6 _ rfl rfl) (Q.at_ 5 5 _ rfl rfl) (Q.at_ 3 3 _ rfl rfl) ha₁ (Q.at_ 4 4 _ rfl rfl) hb₁ fun s₂ ls ts t1 t2 t3 X₂ g₂ hls₂ at₂=> ?_
 have loX:∀x∈[ad 7+817,ad 6+817,ad 3+817,ad 4+817],817<=x:=aB (up _) (aB (up _) (aB (up _) (aD (up _))));have B₂:aT w s₂:=B₁.extN X₂ loX;have ls8:817<=ls:=Nat.le_trans B₁.sz t3;refine pF (fun ad' tb'=>aH8 w s₂.gens.size ad' tb' bl px s.gens.size ad tb p a b e1 e2 (bA ws1 tt1) (bA ws2 tt2) ls) aE B₂ trivial rfl List.nodup_nil aE hd fun ad' tb' px' s₃ Q₃=> ?_;have X₃:=Q₃.ext;have fr₃:∀y o,s₂.heap.get? y=some o->s₃.heap.get? y=some o:=fun y o hy=>X₃.frame y o hy (by simp);have B₃:=B₂.ext X₃ aE;rw[iK _ _ h1,iK _ _ h2] at t1
 have nts:∀t∈ts,817<=t/\t≠ls:=fun t ht=>by
  refine⟨Nat.le_trans B₁.sz (t2 t ht),fun q=> ?_⟩;subst q;obtain⟨j,hj,rfl⟩:=List.mem_iff_getElem.mp ht;have pl:(iU (bA ws1 tt1) (bA ws2 tt2)).length=ts.length:=by rw[wT,iK _ _ h1,iK _ _ h2,t1]
  have jw1:j<(bA ws1 tt1).length:=by rw[iK _ _ h1];lia
  have jw2:j<(bA ws2 tt2).length:=by rw[iK _ _ h2];lia
  have ho:=at₂.get j _ _ (List.getElem?_eq_getElem hj) (AR _ _ j _ _ (List.getElem?_eq_getElem jw1) (List.getElem?_eq_getElem jw2));rw[hls₂] at ho;injection ho with ho
  unfold aA aK at ho;injection ho with ho _ _ _
  have ho:=congrArg (fun v:Value=>match v with | .type s=>s.length |_=>0) ho;revert ho;decide
 refine aH4 (ws1:=ws1) (ws2:=ws2) (tt1:=tt1) (tt2:=tt2) (ts:=ts) h1 h2 t1 hw1 hw2 nts ls8 (bB tb' 0) (Nat.le_trans hdf dT) B₃ (fr₃ _ _ hls₂) (at₂.keep fun y o u ho=>fr₃ y o ho) fun s₄ tz htz X₄=> ?_;have fr₄:∀y o,s₁.heap.get? y=some o->y∉[ad 7+817,ad 6+817,ad 3+817,ad 4+817]->s₄.heap.get? y=some o:=fun y o hy hm=>X₄.frame y o (fr₃ y o (X₂.frame y o hy hm)) (by simp);have B₄:=B₃.ext X₄ aE
 have oldN:∀y o,s.heap.get? y=some o->y∉[ad 7+817,ad 6+817,ad 3+817,ad 4+817]:=fun y o hy=>by
  simp only[List.mem_cons,List.not_mem_nil,or_false,not_or];exact⟨(lt _ _ hy 7 dT dT).symm,(lt _ _ hy 6 dT dT).symm,(lt _ _ hy 3 dT dT).symm,(lt _ _ hy 4 dT dT).symm⟩
 have hloc₄:s₄.heap.get? (ad 2+817)=some (AU w.params (aC tb) a b):=fr₄ _ _ hloc (by
  simp only[List.mem_cons,List.not_mem_nil,or_false,not_or];exact⟨ne 2 7 dT dT dT dT dT,ne 2 6 dT dT dT dT dT,ne 2 3 dT dT dT dT dT,ne 2 4 dT dT dT dT dT⟩)
 have X14:∀s₅,(∀y o,s₄.heap.get? y=some o->y≠ad 2+817->s₅.heap.get? y=some o)->s₄.heap.objs.size<=s₅.heap.objs.size->s₄.toks<=s₅.toks->s₅.gens=s₄.gens->s₅.drawn=s₄.drawn->s₅.os=s₄.os->aJ [] s s₅:=fun s₅ f a1 a2 a3 a4 a5=>
  ⟨fun y o hy u=>f y o (fr₄ y o (fr₁ y o hy) (oldN y o hy)) (lt _ _ hy 2 dT dT).symm,Nat.le_trans X₁.size (Nat.le_trans X₂.size (Nat.le_trans X₃.size (Nat.le_trans X₄.size a1))),Nat.le_trans X₁.toks (Nat.le_trans X₂.toks (Nat.le_trans X₃.toks (Nat.le_trans X₄.toks a2))),
   a3.trans (X₄.gens.trans (X₃.gens.trans (g₂.trans X₁.gens))),a4.trans (X₄.drawn.trans (X₃.drawn.trans (X₂.drawn.trans X₁.drawn))),a5.trans (X₄.os.trans (X₃.os.trans (X₂.os.trans X₁.os)))⟩
 by_cases hz:fE 0 ws1 ws2=0
 ·rw[hz]
  have l1:(bA ws1 tt1).length=ws1.length:=iK _ _ h1;have l2':(bA ws2 tt2).length=ws2.length:=iK _ _ h2
  have hc:Int.ofNat (bA ws1 tt1).length - Int.ofNat (bA ws2 tt2).length=iV ws1 ws2:=by
   unfold iV;rw[if_neg (by simp[hz]),l1,l2']
  refine bL (fun ad'' tb''=>aHa w s₄.gens.size ad'' tb'' bl px' s.gens.size ad tb p a b e1 e2 (bA ws1 tt1) (bA ws2 tt2) ls s₂.gens.size ad' tb' px tz (iV ws1 ws2))
   (aB (SF dT (by rw[l1];exact hn1)) (aB (SF dT (by rw[l2'];exact hn2)) (aD (SE hc rfl)))) B₄ ⟨hloc₄,fr₄ _ _ ha₁ (oldN _ _ ha),fr₄ _ _ hb₁ (oldN _ _ hb),trivial⟩ rfl
   (by simp only[List.nodup_cons,List.mem_cons,List.not_mem_nil,or_false,not_or,List.nodup_nil,and_true,not_false_eq_true];exact⟨⟨lt _ _ ha 2 dT dT,lt _ _ hb 2 dT dT⟩,hab⟩) (aB (up _) (aB la (aD lb))) hd fun ad'' tb'' s₅ Q₅=> ?_
  have X₅:=Q₅.ext;refine hR s₅ _ (bB tb'' 4) (X14 s₅ (fun y o hy hm=> ?_) X₅.size X₅.toks X₅.gens X₅.drawn X₅.os)
  by_cases q:y=a
  ·subst q;rw[fr₄ _ _ ha₁ (oldN _ _ ha)] at hy;rw[<-hy];exact Q₅.at_ 1 1 _ rfl rfl
  ·by_cases q':y=b
   ·subst q';rw[fr₄ _ _ hb₁ (oldN _ _ hb)] at hy;rw[<-hy];exact Q₅.at_ 2 2 _ rfl rfl
   ·exact X₅.frame y o hy (by simp[q,q',hm])
 ·have hb:(fE 0 ws1 ws2 != 0)=true:=by simpa using hz
  have hc:iV ws1 ws2=fE 0 ws1 ws2:=by unfold iV;rw[if_pos hz]
  rw[hc] at hR;refine bL (fun ad'' tb''=>aH9 w s₄.gens.size ad'' tb'' bl px' s.gens.size ad tb p a b e1 e2 (bA ws1 tt1) (bA ws2 tt2) ls s₂.gens.size ad' tb' px tz (fE 0 ws1 ws2)) (aD (aGm hb rfl)) B₄ trivial rfl List.nodup_nil aE hd fun ad'' tb'' s₅ Q₅=> ?_;have X₅:=Q₅.ext;exact hR s₅ tz htz (X14 s₅ (fun y o hy u=>X₅.frame y o hy (by simp)) X₅.size X₅.toks X₅.gens X₅.drawn X₅.os)
end
noncomputable def SI(z:Int)(vs1 vs2:List Value)(e1 e2 j1 j2 n i:Nat):HF:=
 dP (fun A u=>oH (A j1) (A j2)) [j1,j2] (fun u u=>[aA vs1 e1,aA vs2 e2]) (fun u u=>[aA vs1 e1,aA vs2 e2]) (fun u u=>[]) (fun u K=> .ok (.ret (.int z (K i)))) 1 n i 335
theorem aHc {z:Int}(h1:tt1.length=ws1.length)(h2:tt2.length=ws2.length)(hn1:ws1.length<=1000)(hn2:ws2.length<=1000)(hw1:∀x∈ws1,x.length<=1000)(hw2:∀x∈ws2,x.length<=1000)(hz:iV ws1 ws2=z)(hj1:j1<n)(hj2:j2<n)(hj:j1≠j2):aG (model PR w) (aX w.params) (SI z (bA ws1 tt1) (bA ws2 tt2) e1 e2 j1 j2 n i):=by
 refine eN 0 (fun u u=>rfl) ?_ (fun u u u u u u=>rfl) (fun u u u u u u=>rfl) (fun u u u u u u=>rfl) ?_ (fun u u=>rfl) (fun u u=>rfl) (fun k h=>by simp at h;lia) (by simp[hj]) fun A K bl p s hA hK hd B ha nd lo=> ?_
 ·intro A K A' K' a1 a2
  show oH (A' j1) (A' j2)=oH (A j1) (A j2);rw[a1 j1 hj1,a1 j2 hj2]
 ·intro A K A' K' a1 a2
  show (Except.ok (.ret (.int z (K' i))):Result)=Except.ok (.ret (.int z (K i)));rw[a2 i (by lia)]
 ·have nd:[A j1,A j2].Nodup:=nd
  have hab:A j1≠A j2:=fun q=>by rw[q] at nd;simp at nd
  have ha:At s [A j1,A j2] [aA (bA ws1 tt1) e1,aA (bA ws2 tt2) e2]:=ha;refine aHb h1 h2 hn1 hn2 hw1 hw2 hab (hA _) (hA _) hd B ha.1 ha.2.1 fun s' tz htz X=> ?_;subst hz;exact⟨[],[tz],rfl,List.nodup_nil,aE,aD htz,X.mono (fun a h=>nomatch h),⟨X.frame _ _ ha.1 (by simp),X.frame _ _ ha.2.1 (by simp),trivial⟩,trivial,by rw[iG]⟩
end
noncomputable def jH:Stmt:=cM 40
noncomputable def SJ:Str:=⟨⟨CE⟩⟩
noncomputable def nK:Str:=⟨⟨[107]⟩⟩
noncomputable def SK:Str:=⟨⟨[97,104,101,97,100]⟩⟩
noncomputable def SM:Str:=⟨⟨CD⟩⟩
noncomputable def aU(loc cr ck ca cw:Nat):Env:={nV jH [108,97,119,46,60,108,111,99,97,108,115,62,46] 816 815 loc with cells:=[(SM,cw),(SK,ca),(nK,ck),(SJ,cr)]}
noncomputable def aN(v:Option Value):Obj:=⟨.type SL.s15660640913423913556x4,none,.cell v,⟨[]⟩⟩
section
section
variable{w:World}{s:Shared}{bl:List (Code×Pos)}{p:Pos}{R:Result->Shared->Prop}
theorem aHd{c:Code}{D:Nat}(hbl:∃x l,bl=(x,p)::l)(hd:frameCount bl<=D)
  (h:∀u,wpAny (model PR w) ⟨none,D,none,none,u⟩ (.call c none false [] (fun r=> .pure r)) R (fun v v=>False) s):wpCode (model PR w) ⟨c,none,none,bl,none⟩ R p s:=by
 obtain⟨x,l,rfl⟩:=hbl;have z:=h (PySem.Ctx.units ⟨x,none,none,l,none⟩) ⟨x,none,none,l,none⟩ p ⟨rfl,by rw[frameCount_cons] at hd;show frameCount l+x.weight<=D;lia,fun v q=>(nomatch q),fun v q=>(nomatch q),Nat.le_refl _⟩;rw[Sem.wp_call] at z;exact z
end
noncomputable def cZ(c dd:Nat)(z:Int)(t:Nat):Obj:=⟨.ref c,some dd,.plain,⟨[some (.int z t)]⟩⟩
noncomputable def FW:Expr:=fW (bR (dK (bF jH) 3))
noncomputable def aHe:Arguments:=XT FW
noncomputable def aHf:Expr:=fW FW
noncomputable def aHg:Scope:=rU FW
noncomputable def mF(cw cd ct:Nat):Obj:=
 ⟨.type SL.s7174869446012820540x8,none,.func {name:=⟨⟨[60,108,97,109,98,100,97,62]⟩⟩,qualname:=⟨⟨sR⟩⟩,params:=aHe,body:= .expr aHf,scope:=aHg,globals:=3,closure:=[(SM,cw)],defaults:= .none,kwdefaults:= .none,doc:= .none,pyModule:=sv sf 1291,annotations:=none,code:= .ref cd,closureTuple:= .ref ct,builtins:=0},⟨[]⟩⟩
noncomputable def mG(τ:Nat->Nat)(a b c d e:Nat):Obj:=jW [60,108,97,109,98,100,97,62] sR 834 τ a b c d e
noncomputable def AW(x t:Nat):Code:= .builtin aG9 ⟨[.ref x,.str ⟨⟨[111,98,106]⟩⟩ t],[]⟩
noncomputable def AX(f:Nat)(z1:Int)(t1:Nat)(z2:Int)(t2:Nat):Code:= .call (.ref f) ⟨[.int z1 t1,.int z2 t2],[]⟩
noncomputable def AY(f x y:Nat):Code:= .call (.ref f) ⟨[.ref x,.ref y],[]⟩
end
section
structure HR(s s':Shared):Prop where
 size:s.heap.objs.size<=s'.heap.objs.size
 dead:∀a,a<s.heap.objs.size->s.heap.get? a=none->s'.heap.get? a=none
theorem HR.refl(s:Shared):HR s s:=⟨Nat.le_refl _,fun u u h=>h⟩
theorem HR.trans (h:HR s s')(h':HR s' s''):HR s s'':=⟨Nat.le_trans h.size h'.size,fun a ha hd=>h'.dead a (Nat.lt_of_lt_of_le ha h.size) (h.dead a ha hd)⟩
theorem HR.of_heap {t t':Shared}(h:HR s s')(e:s.heap=t.heap)(e':s'.heap=t'.heap):HR t t':=⟨by rw[<-e,<-e'];exact h.size,by rw[<-e,<-e'];exact h.dead⟩
theorem HR.update {a:Addr}{f:Obj->Obj}(hs:(s.heap.get? a).isSome):HR s {s with heap:=s.heap.update a f}:=by
 refine⟨by show _<=(s.heap.update a f).objs.size;rw[Heap.size_after_update];exact Nat.le_refl _,fun b hb hd=> ?_⟩
 by_cases q:b=a
 ·subst q;rw[hd] at hs;cases hs
 ·exact(Heap.get?_update_other _ _ (Ne.symm q)).trans hd
theorem HR.push {o:Obj}:HR s {s with heap:=s.heap.push o}:=by
 refine⟨by show _<=(s.heap.objs.push o).size;rw[Array.size_push];omega,fun b hb hd=> ?_⟩;show (s.heap.push o).get? b=none;unfold Heap.get? at hd ⊢
 have:(s.heap.push o).objs[b]? =s.heap.objs[b]? :=by
  show (s.heap.objs.push o)[b]? =_;rw[Array.getElem?_push];rw[if_neg (by omega)]
 rw[this];exact hd
set_option tactic.hygienic true in
theorem aHh {M:Model}{t:Sem Fin}{fs:List Frame}{e:End}(h:Runs M Γ p t fs s e s'):HR s s':=by
 induction h with
 |done=>exact .refl _
 |raise=>exact .refl _
 |yield=>exact .refl _
 |update hs _ ih=>exact(HR.update hs).trans ih
 |alloc _ ih=>exact HR.push.trans ih
 |call _ _ ih1 ih2=>exact ih1.trans ih2
 |resumeFresh _ _ _ _ ih1 ih2=>exact⟨Nat.le_trans ih1.size ih2.size,fun a ha hd=>ih2.dead a (Nat.lt_of_lt_of_le ha ih1.size) (ih1.dead a ha hd)⟩
 |resumeSuspended _ _ _ _ ih1 ih2=>exact⟨Nat.le_trans ih1.size ih2.size,fun a ha hd=>ih2.dead a (Nat.lt_of_lt_of_le ha ih1.size) (ih1.dead a ha hd)⟩
 |segRet _ _ ih1 ih2=>exact ih1.trans ih2
 |segGen _ _ ih1 ih2=>exact ih1.trans (ih2.of_heap rfl rfl)
 |segSuspGen _ _ _ _ ih1 ih2=>exact ih1.trans (ih2.of_heap rfl rfl)
 |_=>first |assumption | (rename_i ih;exact ih.of_heap rfl rfl)
section
variable{w:World}{s:Shared}{bl:List (Code×Pos)}{p:Pos}{R:Result->Shared->Prop}
theorem aHi {M:Model}(h:wpCode M Γ R p s):wpCode M Γ (fun r s'=>HR s s'/\s.toks<=s'.toks/\R r s') p s:=by
 obtain⟨r,s',hr,hR⟩:=h;exact⟨r,s',hr,aHh hr,hr.toks_le,hR⟩
theorem FX{c:Code}{D:Nat}(hbl:∃x l,bl=(x,p)::l)(hd:frameCount bl<=D)
  (h:∀u,wpAny (model PR w) ⟨none,D,none,none,u⟩ (.call c none false [] (fun r=> .pure r)) (fun r s'=>HR s s'->s.toks<=s'.toks->R r s') (fun v v=>False) s):wpCode (model PR w) ⟨c,none,none,bl,none⟩ R p s:=by
 obtain⟨r,s',hr,h1,h2,h3⟩:=aHi (aHd hbl hd h);exact⟨r,s',hr,h3 h1 h2⟩
section
variable {news:List (Addr×Obj)}(D:Mem s.heap s'.heap [] news)(H:HR s s')
include D H
theorem FY (t:s.toks<=s'.toks)(g:s'.gens=s.gens)(d:s'.drawn=s.drawn)(o:s'.os=s.os):aJ [] s s':=
 ⟨fun b x hb u=>D.keep b x hb (by show (hasCls x || true)=true;exact Bool.or_true _),H.size,t,g,d,o⟩
theorem FZ (i:Nat)(a:Addr)(o:Obj)(hi:news[i]? =some (a,o)):s.heap.objs.size<=a:=by
 have h:=D.nw _ (List.mem_of_getElem? hi);rcases Nat.lt_or_ge a s.heap.objs.size with q |q
 ·have:=H.dead a q h.2
  rw[h.1] at this;cases this
 ·exact q
end
end
end
section
open AutoSeq1 (wpAny_loadPart')
open MeetsSeq MeetsSeq3
noncomputable def aR:List (Int×Nat)->List Value
 | []=>[]
 |x::xs=> .int x.1 x.2::aR xs
theorem wX:∀(xs:List (Int×Nat)) (i:Nat),(aR xs)[i]? =(xs[i]?).map fun x=> .int x.1 x.2
 | [],_=>by simp[aR]
 |_::_,0=>rfl
 |_::xs,i+1=>by simpa[aR] using wX xs i
theorem pV:∀(xs:List (Int×Nat)),(aR xs).length=xs.length
 | []=>rfl
 |_::xs=>congrArg (·+1) (pV xs)
theorem SN:(⟨vs⟩:Array Value)[k]? =vs[k]? :=by simp
abbrev lI(l:Nat)(xs:List (Int×Nat))(n:Nat)(s:Shared):Prop:=s.heap.get? l=some {cls:= .type "list",dict:=none,data:= .seq ⟨aR xs⟩ n,slots:= #[]}
section
variable (zs:List (Int×Nat))(i:Nat)
theorem SO (h:zs[i]? =none):(⟨aR zs⟩:Array Value)[((i:Nat):Int).toNat]? =none:=by
 rw[Int.toNat_natCast,SN,wX,h];rfl
theorem AZ (x:Int×Nat)(h:zs[i]? =some x):(⟨aR zs⟩:Array Value)[((i:Nat):Int).toNat]? =some (.int x.1 x.2):=by
 rw[Int.toNat_natCast,SN,wX,h];rfl
theorem SP (x:Int×Nat)(h:zs[i]? =some x):zs.drop i=x::zs.drop (i+1):=by
 obtain⟨hl,he⟩:=List.getElem?_eq_some_iff.mp h;rw[List.drop_eq_getElem_cons hl,he]
end
noncomputable def sL:List (Int×Nat)->List (Int×Nat)->Int
 |x::xs,y::ys=>if x.1 == y.1 then sL xs ys else x.1 - y.1
 |xs,ys=>(xs.length:Int) - (ys.length:Int)
noncomputable def cB(o:CmpOp)(z:Int):Bool:=match o with
 | .Lt=>decide (z<0)
 | .LtE=>decide (z<=0)
 | .Gt=>decide (z>0)
 |_=>decide (z>=0)
theorem SQ {ys:List (Int×Nat)}(h1:i<=xs.length)(h2:i<=ys.length)(h:xs[i]? =none\/ys[i]? =none):sL (xs.drop i) (ys.drop i)=(xs.length:Int) - (ys.length:Int):=by
 have e:sL (xs.drop i) (ys.drop i)=((xs.drop i).length:Int) - ((ys.drop i).length:Int):=by
  rcases h with h |h
  ·rw[List.drop_eq_nil_of_le (List.getElem?_eq_none_iff.mp h)]
   cases ys.drop i <;> rfl
  ·rw[List.drop_eq_nil_of_le (List.getElem?_eq_none_iff.mp h)]
   cases xs.drop i <;> rfl
 rw[e,List.length_drop,List.length_drop,Int.ofNat_sub h1,Int.ofNat_sub h2];rw[Int.sub_sub,Int.add_comm,Int.sub_add_cancel]
def CM(m:Nat)(o:CmpOp):Prop:=m=0/\o= .Lt\/m=1/\o= .LtE\/m=4/\o= .Gt\/m=5/\o= .GtE
theorem SR{m:Nat}{o:CmpOp}{l:List CmpOp}(hm:CM m o)(hl:l=[.Lt,.LtE,.Eq,.NotEq,.Gt,.GtE]):l[((m:Nat):Int).toNat]? =some o:=by
 subst hl;rcases hm with⟨rfl,rfl⟩ |⟨rfl,rfl⟩ |⟨rfl,rfl⟩ |⟨rfl,rfl⟩ <;> rfl
noncomputable def cS(o:CmpOp)(a b:Nat):Bool:=match o with
 | .Eq=>a == b
 | .NotEq=>a != b
 | .Lt=>a<b
 | .LtE=>a<=b
 | .Gt=>a>b
 |_=>a>=b
theorem SS{m:Nat}{o:CmpOp}(hm:CM m o)(a b:Nat):cB o ((a:Int) - (b:Int))=cS o a b:=by
 rcases hm with⟨_,rfl⟩ |⟨_,rfl⟩ |⟨_,rfl⟩ |⟨_,rfl⟩ <;> exact decide_eq_decide.mpr (by lia)
theorem aHj {A:Around}{Q:Value->Shared->Prop}{E:Value->Shared->Prop}{a b:Int}{m:Nat}{o:CmpOp}(hm:CM m o)(h:Q (.bool (cB o (a - b))) s):wpAny (model prog w) A (richCompare o (.int a t) (.int b u)) Q E s:=by
 rcases hm with⟨_,rfl⟩ |⟨_,rfl⟩ |⟨_,rfl⟩ |⟨_,rfl⟩
 ·exact lt_int (by rw[decide_eq_decide.mpr (show a<b↔a - b<0 by lia)];exact h)
 ·exact le_int (by rw[decide_eq_decide.mpr (show a<=b↔a - b<=0 by lia)];exact h)
 ·exact gt_int (by rw[decide_eq_decide.mpr (show a>b↔a - b>0 by lia)];exact h)
 ·exact ge_int (by rw[decide_eq_decide.mpr (show a>=b↔a - b>=0 by lia)];exact h)
theorem aHk{m:Nat}{o:CmpOp}(hm:CM m o)(l b n n2:Nat)(xs ys:List (Int×Nat))(k:Nat):
  ∀i:Nat,xs.length - i=k->i<=xs.length->i<=ys.length->Meets (Builtin.«list.__eq__.loop» ⟨[.ref l,.ref b,rawInt i,rawInt m],[]⟩)
   (fun j R s=>lI l xs n s/\lI b ys n2 s/\
    R (.ok (.ret (.bool (cB o (sL (xs.drop i) (ys.drop i)))))) s):=by
 induction k with
 |zero=>
  intro i hk hi1 hi2 prog w A R s h;obtain⟨hp,g,d,tk,os⟩:=s;obtain⟨hl,hb,h⟩:=h
  wp_walk using wpAny_loadPart' hl,wpAny_loadPart' hb
  rw[SR hm]
  rotate_left
  ·rfl
  have q1:xs[i]? =none:=List.getElem?_eq_none (Nat.le_of_sub_eq_zero hk)
  wp_walk using wpAny_loadPart' hl,wpAny_loadPart' hb
  rw[SO xs i q1]
  wp_walk using wpAny_loadPart' hl,wpAny_loadPart' hb
  rw[SQ hi1 hi2 (.inl q1),<-pV xs,<-pV ys,SS hm] at h;exact h
 |succ k ih=>
  intro i hk hi1 hi2 prog w A R s h;obtain⟨hp,g,d,tk,os⟩:=s;obtain⟨hl,hb,h⟩:=h
  wp_walk using wpAny_loadPart' hl,wpAny_loadPart' hb
  rw[SR hm]
  rotate_left
  ·rfl
  obtain⟨x,hx⟩:∃x,xs[i]? =some x:=⟨_,List.getElem?_eq_getElem (Nat.lt_of_sub_eq_succ hk)⟩
  wp_walk using wpAny_loadPart' hl,wpAny_loadPart' hb
  rw[AZ xs i x hx];cases hy:ys[i]? with
  |none=>
   rw[SQ hi1 hi2 (.inr hy),<-pV xs,<-pV ys,SS hm] at h;rw[SO ys i hy]
   wp_walk using wpAny_loadPart' hl,wpAny_loadPart' hb
   exact h
  |some y=>
   rw[SP xs i x hx,SP ys i y hy] at h;have li:i<ys.length:=(List.getElem?_eq_some_iff.mp hy).1;rw[AZ ys i y hy];refine wpAny_bind (EqGives.int x.1 y.1 x.2 y.2 prog w _ _ _ _ ?_);have h:R (.ok (.ret (.bool (cB o (if(x.1 == y.1)=true then sL (xs.drop (i+1)) (ys.drop (i+1)) else x.1 - y.1))))) _:=h;cases hb':(x.1 == y.1) with
   |true=>
    rw[hb',if_pos rfl] at h
    wp_walk
    exact⟨plainId_quiet plain_eq_loop _,codeAny_builtin entry_eq_loop (by
     rw[Around.under_plainId plain_eq_loop _];exact ih (i+1) (by rw[Nat.sub_succ,hk];rfl) (Nat.lt_of_sub_eq_succ hk) li prog w A R _ ⟨hl,hb,h⟩)⟩
   |false=>
    rw[hb',if_neg (by simp)] at h
    wp_walk using wpAny_loadPart' hl,wpAny_loadPart' hb
    rw[AZ xs i x hx,AZ ys i y hy]
    have z:=aHj (prog:=prog) (w:=w) (A:=A.in1) (Q:=fun v s'=>wpAny (model prog w) A.in1 (ret v) (fun fin s'=>match fin with
     |Fin.done f=>R (.ok f) s'
     |Fin.again c'=>c'.quiet=true/\codeAny (model prog w) A c' R s') (fun e s'=>R (.error e) s') s') (E:=fun e s'=>R (.error e) s') (a:=x.1) (b:=y.1) (t:=x.2) (u:=y.2) hm (wpAny_pure h)
    rcases hm with⟨_,rfl⟩ |⟨_,rfl⟩ |⟨_,rfl⟩ |⟨_,rfl⟩ <;> exact wpAny_bind z
section
variable{l b n n2:Nat}{xs ys:List (Int×Nat)}
abbrev BA(o:CmpOp)(l b n n2:Nat)(xs ys:List (Int×Nat))(B:Builtin):Prop:=Meets (B ⟨[.ref l,.ref b],[]⟩) (fun u R s=>lI l xs n s/\lI b ys n2 s/\R (.ok (.ret (.bool (cB o (sL xs ys))))) s)
theorem BB {m:Nat}{o:CmpOp}(hm:CM m o){A:Around}(h:lI l xs n s/\lI b ys n2 s/\R (.ok (.ret (.bool (cB o (sL xs ys))))) s):
  (Code.builtin "list.__eq__.loop" ⟨[.ref l,.ref b,rawInt (0:Nat),rawInt m],[]⟩).quiet=true/\codeAny (model prog w) A (.builtin "list.__eq__.loop" ⟨[.ref l,.ref b,rawInt (0:Nat),rawInt m],[]⟩) R s:=
 ⟨plainId_quiet plain_eq_loop _,codeAny_builtin entry_eq_loop (by
  rw[Around.under_plainId plain_eq_loop _];exact aHk hm l b n n2 xs ys _ 0 rfl (Nat.zero_le _) (Nat.zero_le _) prog w A R _ h)⟩
theorem aHl:BA .Lt l b n n2 xs ys Builtin.«list.__lt__»:=by
 intro prog w A R s h;obtain⟨hp,g,d,tk,os⟩:=s;obtain⟨hl,hb,_⟩:=id h;have f3:=AutoSeq1.sub_list_list
 wp_walk using wpAny_loadPart' hl,wpAny_loadPart' hb
 exact BB (.inl ⟨rfl,rfl⟩) h
theorem aHm:BA .LtE l b n n2 xs ys Builtin.«list.__le__»:=by
 intro prog w A R s h;obtain⟨hp,g,d,tk,os⟩:=s;obtain⟨hl,hb,_⟩:=id h;have f3:=AutoSeq1.sub_list_list
 wp_walk using wpAny_loadPart' hl,wpAny_loadPart' hb
 exact BB (.inr (.inl ⟨rfl,rfl⟩)) h
theorem aHn:BA .Gt l b n n2 xs ys Builtin.«list.__gt__»:=by
 intro prog w A R s h;obtain⟨hp,g,d,tk,os⟩:=s;obtain⟨hl,hb,_⟩:=id h;have f3:=AutoSeq1.sub_list_list
 wp_walk using wpAny_loadPart' hl,wpAny_loadPart' hb
 exact BB (.inr (.inr (.inl ⟨rfl,rfl⟩))) h
theorem aHo:BA .GtE l b n n2 xs ys Builtin.«list.__ge__»:=by
 intro prog w A R s h;obtain⟨hp,g,d,tk,os⟩:=s;obtain⟨hl,hb,_⟩:=id h;have f3:=AutoSeq1.sub_list_list
 wp_walk using wpAny_loadPart' hl,wpAny_loadPart' hb
 exact BB (.inr (.inr (.inr ⟨rfl,rfl⟩))) h
end
end
noncomputable def ST:List Nat:=[109,101,109,98,101,114,95,100,101,115,99,114,105,112,116,111,114,46,95,95,115,101,116,95,95]
noncomputable def SU:String:=sE ST rfl
theorem aHp:"member_descriptor.__set__"=SU:=cA ST rfl
noncomputable def nJ:Obj:=⟨.type SL.s14018661285674007319x4,none,.dict ⟨[]⟩ 0,⟨[]⟩⟩
noncomputable def qU(c dd:Nat):Obj:=⟨.ref c,some dd,.plain,⟨[]⟩⟩
noncomputable def BC(md x:Nat)(z:Int)(t:Nat):Args:=⟨[.ref md,.ref x,.int z t],[]⟩
noncomputable def lJ(md x:Nat)(z:Int)(t:Nat):Code:= .builtin SU (BC md x z t)
noncomputable def wY(c:Nat)(z:Int)(t:Nat):Args:=⟨[.ref c,.int z t],[]⟩
noncomputable def nL(c:Nat)(z:Int)(t:Nat):Code:= .builtin pT (wY c z t)
noncomputable def SV(dd bt t0 t1 t2 jmd jx jc jn:Nat)(z:Int)(t:TR)(n i:Nat):HF:=
 dP (fun A K=>lJ (A jmd) (A jx) z (t.ev K)) [jmd,jx,jc] (fun A u=>[dE (A jc) t2,qU (A jc) (A dd),bY (A jc) (A jn) bt t0 t1]) (fun A K=>[dE (A jc) t2,cZ (A jc) (A dd) z (t.ev K),bY (A jc) (A jn) bt t0 t1]) (fun u u=>[]) (fun u u=> .ok (.ret .none)) 0 n i 390
noncomputable def BD(md x c:Nat):Args:=⟨[.ref md,.ref x,.ref c],[]⟩
noncomputable def lK(md x c:Nat):Code:= .builtin RT (BD md x c)
noncomputable def SW(dd bt t0 t1 t2:Nat)(z:Int)(t jmd jx jc jn n i:Nat):HF:=
 dP (fun A u=>lK (A jmd) (A jx) (A jc)) [jmd,jx,jc] (fun A u=>[dE (A jc) t2,cZ (A jc) dd z t,bY (A jc) (A jn) bt t0 t1]) (fun A u=>[dE (A jc) t2,cZ (A jc) dd z t,bY (A jc) (A jn) bt t0 t1]) (fun u u=>[]) (fun u u=> .ok (.ret (.int z t))) 0 n i 390
section
theorem GA{a:Value}{l:List Value}: @Fast.tw3471404346716756564 Value (@instBEqOfDecidableEq Value Fast.tw7966671052430208091) (a::l) a=true:=by
 rw[<-Fast.te3471404346716756564];simp
section
variable(w:World)(g₀:Nat)(ad tb:Nat->Nat)(bl:List (Code×Pos))(p:Pos)(g1:Nat)(ad1 tb1:Nat->Nat)(p1:Pos)(c ns md x dd t bt t0 t1 t2:Nat)(z:Int)
theorem aHq:let r:=aY w g₀ [md,x,c] ad tb [] 4 206191988737 (lJ md x z t) (Fast.tw10385067321753230146 (BC md x z t)) bl p 390 [dE c t2,qU c dd,bY c ns bt t0 t1]
 pG r [0,1,2]=pH r [bZ ⟨lJ md x z t,none,none,bl,none⟩ p 390] ⟨lJ md x z t,none,none,bl,none⟩ [some (dE c t2),some (qU c dd),some (bY c ns bt t0 t1)] [] 3:=by intro r;kernel_rfl
def GB(y:St):Prop:=
 let r:=aY w g₀ [md,x,c] ad tb [] 10 0x4006004002002001001 (lJ md x z t) y.t bl p 390 [dE c t2,qU c dd,bY c ns bt t0 t1]
 dI r [0,1,2]=dJ r [] ⟨lJ md x z t,none,none,bl,none⟩ (.pure (.done (.ret .none))) [some (dE c t2),some (cZ c dd z t),some (bY c ns bt t0 t1)] [] 3
theorem aHr:GB w g₀ ad tb bl p c ns md x dd t bt t0 t1 t2 z (aY w g1 [md,x,c] ad1 tb1 [] 4 206191988737 (lJ md x z t) (Fast.tw10385067321753230146 (BC md x z t)) bl p1 390 [dE c t2,qU c dd,bY c ns bt t0 t1]):=by
 delta Fast.tw10385067321753230146 Fast.tw18364946443445666648 Fast.tw14215438652452703452 Fast.tw10919682601858149601 Fast.tw6571733998842723752 Fast.tw16098473122060591676
 generalize hF: @Fast.tw3471404346716756564.{0} Value=FR;revert FR
 refine @qO _ _ (GB w g₀ ad tb bl p c ns md x dd t bt t0 t1 t2 z) (@Fast.tw3471404346716756564.{0} Value) (fun[BEq Value] (_:List Value) (_:Value)=>true) _ (fun v=>fun[BEq Value] (_:List Value) (_:Value)=>v)
  (fun F=> @F (@instBEqOfDecidableEq Value Fast.tw7966671052430208091) [.ref c,.type SL.s2742458400755230247x6] (.ref c)) ?_ ?_ ?_
 ·intro F
  kernel_rfl
 ·exact GA
 ·unfold GB
  intro r;kernel_rfl
end
section
variable(w:World)(g₀:Nat)(ad tb:Nat->Nat)(bl:List (Code×Pos))(p:Pos)(g1:Nat)(ad1 tb1:Nat->Nat)(p1:Pos)(c ns md x dd t bt t0 t1 t2:Nat)(z:Int)
theorem aHs:let r:=aY w g₀ [md,x,c] ad tb [] 4 206191988737 (lK md x c) (Fast.tw17700060304098168000 (BD md x c)) bl p 390 [dE c t2,cZ c dd z t,bY c ns bt t0 t1]
 pG r [0,1,2]=pH r [bZ ⟨lK md x c,none,none,bl,none⟩ p 390] ⟨lK md x c,none,none,bl,none⟩ [some (dE c t2),some (cZ c dd z t),some (bY c ns bt t0 t1)] [] 3:=by intro r;kernel_rfl
def GC(y:St):Prop:=
 let r:=aY w g₀ [md,x,c] ad tb [] 10 0x4006004002002001001 (lK md x c) y.t bl p 390 [dE c t2,cZ c dd z t,bY c ns bt t0 t1]
 dI r [0,1,2]=dJ r [] ⟨lK md x c,none,none,bl,none⟩ (.pure (.done (.ret (.int z t)))) [some (dE c t2),some (cZ c dd z t),some (bY c ns bt t0 t1)] [] 3
theorem aHt:GC w g₀ ad tb bl p c ns md x dd t bt t0 t1 t2 z (aY w g1 [md,x,c] ad1 tb1 [] 4 206191988737 (lK md x c) (Fast.tw17700060304098168000 (BD md x c)) bl p1 390 [dE c t2,cZ c dd z t,bY c ns bt t0 t1]):=by
 delta Fast.tw17700060304098168000 Fast.tw5320362991156250742 Fast.tw8488679203525710145 Fast.tw10919682601858149601 Fast.tw6571733998842723752 Fast.tw16098473122060591676
 generalize hF: @Fast.tw3471404346716756564.{0} Value=FR;revert FR
 refine @qO _ _ (GC w g₀ ad tb bl p c ns md x dd t bt t0 t1 t2 z) (@Fast.tw3471404346716756564.{0} Value) (fun[BEq Value] (_:List Value) (_:Value)=>true) _ (fun v=>fun[BEq Value] (_:List Value) (_:Value)=>v)
  (fun F=> @F (@instBEqOfDecidableEq Value Fast.tw7966671052430208091) [.ref c,.type SL.s2742458400755230247x6] (.ref c)) ?_ ?_ ?_
 ·intro F
  kernel_rfl
 ·exact GA
 ·unfold GC
  intro r;kernel_rfl
end
theorem aHu(w:World)(g₀:Nat)(ad tb:Nat->Nat)(bl:List (Code×Pos))(p:Pos)(c ns md x dd t bt t0 t1 t2 sl fi fl fg fe fle fge st tn:Nat)(τ:Nat->Nat)(z:Int):
 aZ w g₀ [c,ns,md,x] ad tb [SW dd bt t0 t1 t2 z t 2 3 0 1 4 0] 14 0x2006002001001003003002001001004 (AW x tn) bl p 380 [bY c ns bt t0 t1,iT w.params τ sl fi fl fg fe fle fge st md,dE c t2,cZ c dd z t] [0,1,2,3] (.pure (.done (.ret (.int z t)))) [bY c ns bt t0 t1,iT w.params τ sl fi fl fg fe fle fge st md,dE c t2,cZ c dd z t] 4:=by unfold aZ;kernel_rfl
noncomputable def jI(P:Params)(c ns md fi cdi bt t0 t1 t2 sl fl fg fe fle fge st ca cb cc cd ce:Nat)(τ ρ:Nat->Nat):List Obj:=[bY c ns bt t0 t1,iT P τ sl fi fl fg fe fle fge st md,dE c t2,iM cdi,jW sa s7 13 ρ ca cb cc cd ce]
section
variable(w:World)(g₀:Nat)(ad tb:Nat->Nat)(bl:List (Code×Pos))(p:Pos)(g1:Nat)(ad1 tb1:Nat->Nat)(p1:Pos)(c ns md fi cdi t bt t0 t1 t2 sl fl fg fe fle fge st ca cb cc cd ce:Nat)(τ ρ:Nat->Nat)(z:Int)
theorem aHv:let r:=cN w g₀ [c,ns,md,fi,cdi] ad tb [] 4 33558529 (.call (.ref c) ⟨[.int z t],[]⟩) bl p 360 (jI w.params c ns md fi cdi bt t0 t1 t2 sl fl fg fe fle fge st ca cb cc cd ce τ ρ)
 dI r [0,1,2,3,4]=dJ r [bZ ⟨.call (.ref c) ⟨[.int z t],[]⟩,none,none,bl,none⟩ p 360] ⟨.call (.builtin pT) (wY c z t),none,none,bl,none⟩ (.pure (.again (nL c z t))) ((jI w.params c ns md fi cdi bt t0 t1 t2 sl fl fg fe fle fge st ca cb cc cd ce τ ρ).map some) [] 5:=by intro r;kernel_rfl
theorem aHw:let r:=aY w g₀ [c,ns,md,fi,cdi] ad tb [] 30 JA (nL c z t) (Fast.tw215932591028220647 (wY c z t)) bl p 360 (jI w.params c ns md fi cdi bt t0 t1 t2 sl fl fg fe fle fge st ca cb cc cd ce τ ρ)
 pG r [0,1,2,3,4,5,6]=pH r [bZ ⟨nL c z t,none,none,bl,none⟩ p 360] ⟨nL c z t,none,none,bl,none⟩ ((jI w.params c ns md fi cdi bt t0 t1 t2 sl fl fg fe fle fge st ca cb cc cd ce τ ρ++[nJ,qU c (ad 5+817)]).map some) [] 7:=by intro r;kernel_rfl
def GD(y:St):Prop:=
 let r:=aY w g₀ [c,ns,md,fi,cdi,ad1 5+817,ad1 6+817] ad tb [SV 5 bt t0 t1 t2 2 6 0 1 z (TR.l t) 8 3] 50 0x801800c00c00800400401c00401c00200e002001001007008008000004004002002000a008004002001001007 (nL c z t) y.t bl p 360 (jI w.params c ns md fi cdi bt t0 t1 t2 sl fl fg fe fle fge st ca cb cc cd ce τ ρ++[nJ,qU c (ad1 5+817)])
 dI r [0,1,2,3,4,5,6]=dJ r [] ⟨nL c z t,none,none,bl,none⟩ (.pure (.done (.ret (.ref (ad1 6+817))))) ((jI w.params c ns md fi cdi bt t0 t1 t2 sl fl fg fe fle fge st ca cb cc cd ce τ ρ++[nJ,cZ c (ad1 5+817) z t]).map some) [] 8
theorem aHx:GD w g₀ ad tb bl p ad1 c ns md fi cdi t bt t0 t1 t2 sl fl fg fe fle fge st ca cb cc cd ce τ ρ z (aY w g1 [c,ns,md,fi,cdi] ad1 tb1 [] 30 JA (nL c z t) (Fast.tw215932591028220647 (wY c z t)) bl p1 360 (jI w.params c ns md fi cdi bt t0 t1 t2 sl fl fg fe fle fge st ca cb cc cd ce τ ρ)):=by
 delta Fast.tw215932591028220647 Fast.tw6571733998842723752 Fast.tw16098473122060591676
 generalize hF: @Fast.tw3471404346716756564.{0} Value=FR;revert FR
 refine @qO _ _ (GD w g₀ ad tb bl p ad1 c ns md fi cdi t bt t0 t1 t2 sl fl fg fe fle fge st ca cb cc cd ce τ ρ z) (@Fast.tw3471404346716756564.{0} Value) (fun[BEq Value] (_:List Value) (_:Value)=>true) _ (fun v=>fun[BEq Value] (_:List Value) (_:Value)=>v)
  (fun F=> @F (@instBEqOfDecidableEq Value Fast.tw7966671052430208091) [.ref c,.type SL.s2742458400755230247x6] (.ref c)) ?_ ?_ ?_
 ·intro F
  kernel_rfl
 ·exact GA
 ·unfold GD
  intro r;kernel_rfl
end
end
section
noncomputable def GE(P:Params)(τ:Nat->Nat)(z:Int)(t bt t0 t1 t2 sl fi fl fg fe fle fge st dd jc jn jm jx:Nat)(tn:TR)(n i:Nat):HF:=
 dP (fun A K=>AW (A jx) (tn.ev K)) [jc,jn,jm,jx] (fun A u=>[bY (A jc) (A jn) bt t0 t1,iT P τ sl fi fl fg fe fle fge st (A jm),dE (A jc) t2,cZ (A jc) dd z t])
  (fun A u=>[bY (A jc) (A jn) bt t0 t1,iT P τ sl fi fl fg fe fle fge st (A jm),dE (A jc) t2,cZ (A jc) dd z t]) (fun u u=>[]) (fun u u=> .ok (.ret (.int z t))) 0 n i 380
noncomputable def GF(P:Params)(τ ρ:Nat->Nat)(z:Int)(t:TR)(bt t0 t1 t2 sl fl fg fe fle fge st ca cb cc cd ce jc jn jm jf jd n i:Nat):HF:=
 dP (fun A K=> .call (.ref (A jc)) ⟨[.int z (t.ev K)],[]⟩) [jc,jn,jm,jf,jd] (fun A u=>jI P (A jc) (A jn) (A jm) (A jf) (A jd) bt t0 t1 t2 sl fl fg fe fle fge st ca cb cc cd ce τ ρ) (fun A u=>jI P (A jc) (A jn) (A jm) (A jf) (A jd) bt t0 t1 t2 sl fl fg fe fle fge st ca cb cc cd ce τ ρ)
  (fun A K=>[nJ,cZ (A jc) (A n) z (t.ev K)]) (fun A u=> .ok (.ret (.ref (A (n+1))))) 0 n i 360
section
variable{w:World}
theorem aHy {bt:Nat}{z:Int}{jmd:Nat}(h1:jmd<n)(h2:jx<n)(h3:jc<n)(h4:jn<n)(nd:[jmd,jx,jc].Nodup):aG (model PR w) (aX w.params) (SW dd bt t0 t1 t2 z t jmd jx jc jn n i):=by
 have lc:∀A A':Nat->Nat,(∀j,j<n->A' j=A j)->[dE (A' jc) t2,cZ (A' jc) dd z t,bY (A' jc) (A' jn) bt t0 t1]=[dE (A jc) t2,cZ (A jc) dd z t,bY (A jc) (A jn) bt t0 t1]:=fun A A' a1=>by rw[a1 jc h3,a1 jn h4]
 refine eN 0 (fun u u=>rfl) ?_ (fun A K A' K' a1 u=>lc A A' a1) (fun A K A' K' a1 u=>lc A A' a1) (fun u u u u u u=>rfl) (fun u u u u u u=>rfl) (fun u u=>rfl) (fun u u=>rfl) (aB h1 (aB h2 (aD h3))) nd fun A K bl p s hA hK hd B ha nd lo=> ?_
 ·intro A K A' K' a1 a2
  show lK (A' jmd) (A' jx) (A' jc)=lK (A jmd) (A jx) (A jc);rw[a1 jmd h1,a1 jx h2,a1 jc h3]
 ·have hden:(model PR w).den (lK (A jmd) (A jx) (A jc))=Fast.tw17700060304098168000 (BD (A jmd) (A jx) (A jc)):=by
   rw[<-Fast.te17700060304098168000];exact eM (by rw[<-aG3];exact entryFor_of_fast (by kernel_rfl)) _
  rw[wpCode];show ∃r s',Runs (model PR w) ⟨lK (A jmd) (A jx) (A jc),none,none,bl,none⟩ p ((model PR w).den (lK (A jmd) (A jx) (A jc))) [] s (.ret r) s'/\_;rw[hden];refine tO (fun ad tb=>aHs w s.gens.size ad tb bl p (A jc) (A jn) (A jmd) (A jx) dd t bt t0 t1 t2 z) aE B ha rfl nd lo hd fun ad tb px s₁ Q=> ?_;refine bL (fun ad' tb'=>aHt w s₁.gens.size ad' tb' bl px s.gens.size ad tb p (A jc) (A jn) (A jmd) (A jx) dd t bt t0 t1 t2 z) aE (B.ext Q.ext lo) (Q.ats [0,1,2]) rfl nd lo hd fun ad' tb' s₂ Q₂=> ?_;refine⟨[],[],rfl,List.nodup_nil,aE,aE,jO Q.ext Q₂.ext,?_,trivial,rfl⟩;rw[iY];exact Q₂.ats [0,1,2]
theorem SX {z:Int}{tn:TR}{bt st jm:Nat}(hc:jc<n)(hn:jn<n)(hm:jm<n)(hx:jx<n)(nd:[jc,jn,jm,jx].Nodup)(htn:tn.ok i=true):
  aG (model PR w) (aX w.params) (GE w.params τ z t bt t0 t1 t2 sl fi fl fg fe fle fge st dd jc jn jm jx tn n i):=by
 have lc:∀A A':Nat->Nat,(∀j,j<n->A' j=A j)->[bY (A' jc) (A' jn) bt t0 t1,iT w.params τ sl fi fl fg fe fle fge st (A' jm),dE (A' jc) t2,cZ (A' jc) dd z t]=[bY (A jc) (A jn) bt t0 t1,iT w.params τ sl fi fl fg fe fle fge st (A jm),dE (A jc) t2,cZ (A jc) dd z t]:=fun A A' a1=>by
  rw[a1 jc hc,a1 jn hn,a1 jm hm]
 refine eN 0 (fun u u=>rfl) ?_ (fun A K A' K' a1 u=>lc A A' a1) (fun A K A' K' a1 u=>lc A A' a1) (fun u u u u u u=>rfl) (fun u u u u u u=>rfl) (fun u u=>rfl) (fun u u=>rfl) (aB hc (aB hn (aB hm (aD hx)))) nd fun A K bl p s hA hK hd B ha nd lo=> ?_
 ·intro A K A' K' a1 a2
  show AW (A' jx) (tn.ev K')=AW (A jx) (tn.ev K);rw[a1 jx hx,TR.lcc htn a2]
 ·refine cT (fun ad tb=>aHu w s.gens.size ad tb bl p (A jc) (A jn) (A jm) (A jx) dd t bt t0 t1 t2 sl fi fl fg fe fle fge st (tn.ev K) τ z) (aD (aHy dT dT dT dT dT)) B ha rfl nd lo hd dT fun ad tb s' Q=> ?_
  refine⟨[],[],rfl,List.nodup_nil,aE,aE,Q.ext,?_,trivial,rfl⟩;rw[iY];exact Q.ats [0,1,2,3]
theorem aHz {bt jmd:Nat}{z:Int}{t:TR}(h1:jmd<n)(h2:jx<n)(h3:jc<n)(h4:jn<n)(h5:dd<n)(nd:[jmd,jx,jc].Nodup)(ht:t.ok i=true):aG (model PR w) (aX w.params) (SV dd bt t0 t1 t2 jmd jx jc jn z t n i):=by
 refine eN 0 (fun u u=>rfl) ?_ (fun A K A' K' a1 u=> ?_) (fun A K A' K' a1 a2=> ?_) (fun u u u u u u=>rfl) (fun u u u u u u=>rfl) (fun u u=>rfl) (fun u u=>rfl) (aB h1 (aB h2 (aD h3))) nd fun A K bl p s hA hK hd B ha nd lo=> ?_
 ·intro A K A' K' a1 a2
  show lJ (A' jmd) (A' jx) z (t.ev K')=lJ (A jmd) (A jx) z (t.ev K);rw[a1 jmd h1,a1 jx h2,TR.lcc ht a2]
 ·exact cC (by rw[a1 jc h3]) (cC (by rw[a1 jc h3,a1 dd h5]) (cC (by rw[a1 jc h3,a1 jn h4]) rfl))
 ·have a1:∀j,j<n->A' j=A j:=a1
  exact cC (by rw[a1 jc h3]) (cC (by rw[a1 jc h3,a1 dd h5,TR.lcc ht a2]) (cC (by rw[a1 jc h3,a1 jn h4]) rfl))
 ·have hden:(model PR w).den (lJ (A jmd) (A jx) z (t.ev K))=Fast.tw10385067321753230146 (BC (A jmd) (A jx) z (t.ev K)):=by
   rw[<-Fast.te10385067321753230146];exact eM (by rw[<-aHp];exact entryFor_of_fast (by kernel_rfl)) _
  rw[wpCode];show ∃r s',Runs (model PR w) ⟨lJ (A jmd) (A jx) z (t.ev K),none,none,bl,none⟩ p ((model PR w).den (lJ (A jmd) (A jx) z (t.ev K))) [] s (.ret r) s'/\_;rw[hden];refine tO (fun ad tb=>aHq w s.gens.size ad tb bl p (A jc) (A jn) (A jmd) (A jx) (A dd) (t.ev K) bt t0 t1 t2 z) aE B ha rfl nd lo hd fun ad tb px s₁ Q=> ?_;refine bL (fun ad' tb'=>aHr w s₁.gens.size ad' tb' bl px s.gens.size ad tb p (A jc) (A jn) (A jmd) (A jx) (A dd) (t.ev K) bt t0 t1 t2 z) aE (B.ext Q.ext lo) (Q.ats [0,1,2]) rfl nd lo hd fun ad' tb' s₂ Q₂=> ?_;refine⟨[],[],rfl,List.nodup_nil,aE,aE,jO Q.ext Q₂.ext,?_,trivial,rfl⟩;rw[iY,iY];exact(Q₂.ats [0,1,2])
theorem SY {z:Int}{bt st ns cdi:Nat}(B:aT w s)(hd:frameCount bl<=360)(ha:At s [c,ns,md,fi,cdi] (jI w.params c ns md fi cdi bt t0 t1 t2 sl fl fg fe fle fge st ca cb cc cd ce τ ρ))(nd:[c,ns,md,fi,cdi].Nodup)(lo:∀a∈[c,ns,md,fi,cdi],817<=a)(hR:∀a1 a2 s',s.heap.objs.size<=a1->s.heap.objs.size<=a2->a1≠a2->aJ [c,ns,md,fi,cdi] s s'->At s' [c,ns,md,fi,cdi] (jI w.params c ns md fi cdi bt t0 t1 t2 sl fl fg fe fle fge st ca cb cc cd ce τ ρ)->At s' [a1,a2] [nJ,cZ c a1 z t]->R (.ok (.ret (.ref a2))) s'):
  wpCode (model PR w) ⟨.call (.ref c) ⟨[.int z t],[]⟩,none,none,bl,none⟩ R p s:=by
 refine kK (fun ad tb=>aHv w s.gens.size ad tb bl p c ns md fi cdi t bt t0 t1 t2 sl fl fg fe fle fge st ca cb cc cd ce τ ρ z) (fun u u=>by kernel_rfl) aE B ha rfl nd lo hd dT fun u u px s₁ Q=> ?_
 have hden:(model PR w).den (nL c z t)=Fast.tw215932591028220647 (wY c z t):=by
  rw[<-Fast.te215932591028220647];exact eM (by rw[<-aG1];exact entryFor_of_fast (by kernel_rfl)) _
 rw[wpCode];show ∃r s',Runs (model PR w) ⟨nL c z t,none,none,bl,none⟩ px ((model PR w).den (nL c z t)) [] s₁ (.ret r) s'/\_;rw[hden];have B1:=B.ext Q.ext lo;refine tO (fun ad tb=>aHw w s₁.gens.size ad tb bl px c ns md fi cdi t bt t0 t1 t2 sl fl fg fe fle fge st ca cb cc cd ce τ ρ z) aE B1 (Q.ats [0,1,2,3,4]) rfl nd lo hd fun ad tb p1 s₂ Q1=> ?_;have n5:s.heap.objs.size<=ad 5+817:=Nat.le_trans Q.ext.size (Q1.new 5 (by show 5<=5;decide) (by show 5<7;decide)).1;have n6:s.heap.objs.size<=ad 6+817:=Nat.le_trans Q.ext.size (Q1.new 6 (by show 5<=6;decide) (by show 6<7;decide)).1;have ne:ad 5+817≠ad 6+817:=fun e=>absurd (Q1.inj 5 6 (by show 5<7;decide) (by show 6<7;decide) e) dT
 have nd2:([c,ns,md,fi,cdi]++[ad 5+817,ad 6+817]).Nodup:=List.nodup_append.mpr ⟨nd,by simpa using ne,fun a h1 b h2 e=>by
  have lt:=ha.lt a h1;rcases List.mem_cons.mp h2 with h |h
  ·rw[e,h] at lt;exact absurd n5 (Nat.not_le.mpr lt)
  ·rw[e,List.mem_singleton.mp h] at lt;exact absurd n6 (Nat.not_le.mpr lt)⟩
 refine bL (fun ad' tb'=>aHx w s₂.gens.size ad' tb' bl p1 s₁.gens.size ad tb px c ns md fi cdi t bt t0 t1 t2 sl fl fg fe fle fge st ca cb cc cd ce τ ρ z) (aD (aHz dT dT dT dT dT dT rfl)) (B1.ext Q1.ext lo)
  (Q1.ats [0,1,2,3,4,5,6]) rfl nd2 (fun a h=>(List.mem_append.mp (show a∈[c,ns,md,fi,cdi]++[ad 5+817,ad 6+817] from h)).elim (lo a) fun h=>by
   rcases List.mem_cons.mp h with h |h
   ·rw[h];exact Nat.le_add_left _ _
   ·rw[List.mem_singleton.mp h];exact Nat.le_add_left _ _) hd fun ad' tb' s₃ Q2=> ?_
 refine hR _ _ s₃ n5 n6 ne (((Q.ext.trans Q1.ext).trans Q2.ext).less fun a h=> ?_) (Q2.ats [0,1,2,3,4]) (Q2.ats [5,6]);rcases List.mem_append.mp h with h |h
 ·exact .inl ((List.mem_append.mp h).elim id id)
 ·rcases List.mem_append.mp (show a∈[c,ns,md,fi,cdi]++[ad 5+817,ad 6+817] from h) with h |h
  ·exact .inl h
  ·rcases List.mem_cons.mp h with h |h
   ·exact .inr (by rw[h];exact n5)
   ·exact .inr (by rw[List.mem_singleton.mp h];exact n6)
theorem SZ {z:Int}{t:TR}{bt st jm:Nat}(hc:jc<n)(hn:jn<n)(hm:jm<n)(hf:jf<n)(hdd:jd<n)(nd:[jc,jn,jm,jf,jd].Nodup)(ht:t.ok i=true):
  aG (model PR w) (aX w.params) (GF w.params τ ρ z t bt t0 t1 t2 sl fl fg fe fle fge st ca cb cc cd ce jc jn jm jf jd n i):=by
 have lc:∀A A':Nat->Nat,(∀j,j<n->A' j=A j)->jI w.params (A' jc) (A' jn) (A' jm) (A' jf) (A' jd) bt t0 t1 t2 sl fl fg fe fle fge st ca cb cc cd ce τ ρ=jI w.params (A jc) (A jn) (A jm) (A jf) (A jd) bt t0 t1 t2 sl fl fg fe fle fge st ca cb cc cd ce τ ρ:=fun A A' a1=>by
  rw[a1 jc hc,a1 jn hn,a1 jm hm,a1 jf hf,a1 jd hdd]
 refine eN 2 (fun u u=>rfl) ?_ (fun A K A' K' a1 u=>lc A A' a1) (fun A K A' K' a1 u=>lc A A' fun j hj=>a1 j (Nat.lt_add_right 2 hj)) ?_ ?_ (fun u u=>rfl) (fun u u=>rfl) (aB hc (aB hn (aB hm (aB hf (aD hdd))))) nd fun A K bl p s hA hK hd B ha nd lo=> ?_
 ·intro A K A' K' a1 a2
  show Code.call (.ref (A' jc)) ⟨[.int z (t.ev K')],[]⟩=Code.call (.ref (A jc)) ⟨[.int z (t.ev K)],[]⟩;rw[a1 jc hc,TR.lcc ht a2]
 ·intro A K A' K' a1 a2
  show[nJ,cZ (A' jc) (A' n) z (t.ev K')]=[nJ,cZ (A jc) (A n) z (t.ev K)];rw[a1 jc (Nat.lt_add_right 2 hc),a1 n (by lia),TR.lcc ht fun j hj=>a2 j (by lia)]
 ·intro A K A' K' a1 a2
  show (Except.ok (.ret (.ref (A' (n+1)))):Result)=Except.ok (.ret (.ref (A (n+1))));rw[a1 (n+1) (by lia)]
 ·refine SY B hd ha nd lo fun a1 a2 s' n1 n2 ne X h1 h2=>⟨[a1,a2],[],rfl,by simpa using ne,aB n1 (aD n2),aE,X,?_,?_,by rw[tG]⟩
  ·show At s' _ (jI w.params (upd A n [a1,a2] jc) _ _ _ _ bt t0 t1 t2 sl fl fg fe fle fge st ca cb cc cd ce τ ρ)
   rw[lc A (upd A n [a1,a2]) fun j hj=>fN hj];exact h1
  ·show At _ [a1,a2] [nJ,cZ (upd A n [a1,a2] jc) (upd A n [a1,a2] n) z (t.ev (upd K i []))]
   rw[iY,iG,show upd A n [a1,a2] jc=A jc from fN hc];exact h2
end
end
theorem aI0(w:World)(g₀:Nat)(ad tb:Nat->Nat)(bl:List (Code×Pos))(p:Pos)(f cd ct cw wl w1 w2 epW e1 e2 ca cb cc cdd ce:Nat)(ρ:Nat->Nat)(vsW vs1 vs2:List Value)(z1 z2 z:Int)(t1 t2:Nat):
 aZ w g₀ [f,cd,cw,wl,w1,w2] ad tb [lX (Value.ref w1) 3 z1 vsW epW (TR.l t1) 7 2,lX (Value.ref w2) 3 z2 vsW epW (TR.l t2) 7 2,SI z vs1 vs2 e1 e2 4 5 7 2] 43 0x800401000800800800e007004002002002003801800000001c01c00e00e002001 (AX f z1 t1 z2 t2) bl p 322 [mF cw cd ct,mG ρ ca cb cc cdd ce,aN (some (.ref wl)),aA vsW epW,aA vs1 e1,aA vs2 e2] [0,1,2,3,4,5] (.pure (.done (.ret (.int (z) (aC tb 2))))) [mF cw cd ct,mG ρ ca cb cc cdd ce,aN (some (.ref wl)),aA vsW epW,aA vs1 e1,aA vs2 e2] 7:=by unfold aZ;kernel_rfl
section
structure WS where
 W:Nat->List (List Nat)
 T:Nat->List Nat
 E:Nat->Nat
structure WS.Ok(S:WS):Prop where
 len:∀k<4,(S.T k).length=(S.W k).length
 n:∀k<4,(S.W k).length<=1000
 w:∀k<4,∀x∈S.W k,x.length<=1000
noncomputable def WS.o(S:WS)(k:Nat):Obj:=aA (bA (S.W k) (S.T k)) (S.E k)
noncomputable def WS.v(S:WS)(k:Nat):List Value:=bA (S.W k) (S.T k)
noncomputable def WS.z(S:WS)(a b:Nat):Int:=iV (S.W a) (S.W b)
noncomputable def oI(epW a b c d:Nat):Obj:=aA [.ref a,.ref b,.ref c,.ref d] epW
noncomputable def TA(S:WS)(ρ:Nat->Nat)(k1 k2:Nat)(z:Int)(t1 t2 ct epW ca cb cc cd ce jf jd jw jl q0 q1 q2 q3 n i:Nat):HF:=
 dP (fun A u=>AX (A jf) (.ofNat k1) t1 (.ofNat k2) t2) [jf,jd,jw,jl,q0,q1,q2,q3]
  (fun A u=>[mF (A jw) (A jd) ct,mG ρ ca cb cc cd ce,aN (some (.ref (A jl))),oI epW (A q0) (A q1) (A q2) (A q3),S.o 0,S.o 1,S.o 2,S.o 3])
  (fun A u=>[mF (A jw) (A jd) ct,mG ρ ca cb cc cd ce,aN (some (.ref (A jl))),oI epW (A q0) (A q1) (A q2) (A q3),S.o 0,S.o 1,S.o 2,S.o 3]) (fun u u=>[]) (fun u K=> .ok (.ret (.int z (K i)))) 1 n i 322
noncomputable def pW(a b c d:Nat)(k:Nat):Nat:=match k with
 |0=>a
 |1=>b
 |2=>c
 |_=>d
theorem aI1 {b:Nat}(h:[a,b,c,d].Nodup)(h1:k1<4)(h2:k2<4)(h12:k1≠k2):pW a b c d k1≠pW a b c d k2:=by
 have e:∀k,k<4->pW a b c d k=[a,b,c,d].getD k 0:=fun k hk=>match k,hk with
  |0,_ |1,_ |2,_ |3,_=>rfl
 rw[e _ h1,e _ h2];exact aBj h h1 h2 h12
theorem TB {b:Nat}{o:Nat->Obj}(hk:k<4)(h:At s [a,b,c,d] [o 0,o 1,o 2,o 3]):s.heap.get? (pW a b c d k)=some (o k)/\[Value.ref a,.ref b,.ref c,.ref d][k]? =some (.ref (pW a b c d k))/\pW a b c d k∈[a,b,c,d]:=by
 match k,hk with
 |0,_=>exact⟨h.1,rfl,mI 0⟩
 |1,_=>exact⟨h.2.1,rfl,mI 1⟩
 |2,_=>exact⟨h.2.2.1,rfl,mI 2⟩
 |3,_=>exact⟨h.2.2.2.1,rfl,mI 3⟩
section
variable{w:World}
theorem aI2 {S:WS}{z:Int}{ct epW jw q0:Nat}(hS:S.Ok)(h1:k1<4)(h2:k2<4)(h12:k1≠k2)(hz:S.z k1 k2=z)(hj:∀j∈[jf,jd,jw,jl,q0,q1,q2,q3],j<n)(nd:[jf,jd,jw,jl,q0,q1,q2,q3].Nodup):aG (model PR w) (aX w.params) (TA S ρ k1 k2 z t1 t2 ct epW ca cb cc cd ce jf jd jw jl q0 q1 q2 q3 n i):=by
 have lc:∀A A':Nat->Nat,(∀j,j<n->A' j=A j)->[mF (A' jw) (A' jd) ct,mG ρ ca cb cc cd ce,aN (some (.ref (A' jl))),oI epW (A' q0) (A' q1) (A' q2) (A' q3),S.o 0,S.o 1,S.o 2,S.o 3]=
   [mF (A jw) (A jd) ct,mG ρ ca cb cc cd ce,aN (some (.ref (A jl))),oI epW (A q0) (A q1) (A q2) (A q3),S.o 0,S.o 1,S.o 2,S.o 3]:=fun A A' a1=>by
  rw[a1 jw (hj _ (mI 2)),a1 jd (hj _ (mI 1)),a1 jl (hj _ (mI 3)),a1 q0 (hj _ (mI 4)),a1 q1 (hj _ (mI 5)),a1 q2 (hj _ (mI 6)),a1 q3 (hj _ (mI 7))]
 refine eN 0 (fun g g=>rfl) ?_ (fun A K A' K' a1 g=>lc A A' a1) (fun A K A' K' a1 g=>lc A A' a1) (fun g g g g g g=>rfl) ?_ (fun g g=>rfl) (fun g g=>rfl) hj nd fun A K bl p s hA hK hd B ha nd lo=> ?_
 ·intro A K A' K' a1 a2
  show AX (A' jf) _ _ _ _=AX (A jf) _ _ _ _;rw[a1 jf (hj _ (mI 0))]
 ·intro A K A' K' a1 a2
  show (Except.ok (.ret (.int z (K' i))):Result)=Except.ok (.ret (.int z (K i)));rw[a2 i (by lia)]
 ·have ha:At s [A jf,A jd,A jw,A jl,A q0,A q1,A q2,A q3] [mF (A jw) (A jd) ct,mG ρ ca cb cc cd ce,aN (some (.ref (A jl))),oI epW (A q0) (A q1) (A q2) (A q3),S.o 0,S.o 1,S.o 2,S.o 3]:=ha
  have nd:[A jf,A jd,A jw,A jl,A q0,A q1,A q2,A q3].Nodup:=nd;have lo:∀a∈[A jf,A jd,A jw,A jl,A q0,A q1,A q2,A q3],817<=a:=lo;have ndA:([A jf,A jd,A jw,A jl]++[A q0,A q1,A q2,A q3]).Nodup:=nd;obtain⟨n4,m4,nm⟩:=List.nodup_append.mp ndA;have pne:=aI1 m4 h1 h2 h12;obtain⟨x1,y1,z1⟩:=TB (o:=S.o) h1 ha.2.2.2.2;obtain⟨x2,y2,z2⟩:=TB (o:=S.o) h2 ha.2.2.2.2;generalize pW (A q0) (A q1) (A q2) (A q3) k1=p1 at pne x1 y1 z1;generalize pW (A q0) (A q1) (A q2) (A q3) k2=p2 at pne x2 y2 z2;have two:∀{Q:Nat->Prop},Q p1->Q p2->∀u∈[p1,p2],Q u:=fun h h'=>aB h (aD h');have nd6:([A jf,A jd,A jw,A jl]++[p1,p2]).Nodup:=List.nodup_append.mpr ⟨n4,by simp[pne],fun y hy u hu=>two (Q:=(y≠·)) (nm y hy _ z1) (nm y hy _ z2) u hu⟩
  have lo6:∀a∈[A jf,A jd,A jw,A jl]++[p1,p2],817<=a:=fun a h=>(List.mem_append.mp h).elim (fun h=>lo a (List.mem_append_left [A q0,A q1,A q2,A q3] h))
   (two (lo _ (List.mem_append_right [A jf,A jd,A jw,A jl] z1)) (lo _ (List.mem_append_right [A jf,A jd,A jw,A jl] z2)) a)
  have lB:At s [A jf,A jd,A jw,A jl,p1,p2] [mF (A jw) (A jd) ct,mG ρ ca cb cc cd ce,aN (some (.ref (A jl))),oI epW (A q0) (A q1) (A q2) (A q3),S.o k1,S.o k2]:=⟨ha.1,ha.2.1,ha.2.2.1,ha.2.2.2.1,x1,x2,trivial⟩
  have hfit:∀k<4,(Int.ofNat k)<2 ^ 63:=fun k hk=>by
   show ((k:Nat):Int)<2 ^ 63
   lia
  refine cT (fun ad tb=>aI0 w s.gens.size ad tb bl p (A jf) (A jd) ct (A jw) (A jl) p1 p2 epW (S.E k1) (S.E k2) ca cb cc cd ce ρ [Value.ref (A q0),.ref (A q1),.ref (A q2),.ref (A q3)] (S.v k1) (S.v k2) (.ofNat k1) (.ofNat k2) z t1 t2)
   (aB (nD (Int.natCast_nonneg k1) (hfit k1 h1) y1 dT rfl) (aB (nD (Int.natCast_nonneg k2) (hfit k2 h2) y2 dT rfl) (aD (aHc (hS.len k1 h1) (hS.len k2 h2) (hS.n k1 h1) (hS.n k2 h2) (hS.w k1 h1) (hS.w k2 h2) hz dT dT dT))))
   B lB rfl nd6 lo6 hd dT fun ad tb s' Q=> ?_
  have X:aJ [] s s':=Q.ext.all lB (Q.ats [0,1,2,3,4,5]);exact⟨[],[aC tb 2],rfl,List.nodup_nil,aE,aD (bB tb 2),X.mono (fun g q=>nomatch q),by rw[iY];exact ha.keep fun y o g ho=>X.frame y o ho (fun q=>nomatch q),trivial,by rw[iG]⟩
end
end
noncomputable def uF(P:Params)(τ:Nat->Nat)(sl fi fl fg fe fle fge st:Nat):Obj:=
 ⟨.type SL.s14018661285674007319x4,none,.dict ⟨[de P si (τ 0) (sv sh (τ 1)),de P [95,95,113,117,97,108,110,97,109,101,95,95] (τ 13) (sv s9 (τ 14)),de P sd (τ 2) (.int (Int.ofNat 9) (τ 3)),de P sX (τ 4) (.ref sl),de P sa (τ 5) (.ref fi),de P rF (τ 6) (.ref fl),de P rG (τ 7) (.ref fg),de P rH (τ 8) (.ref fe),de P rI (τ 9) (.ref fle),de P rJ (τ 10) (.ref fge),de P xQ (τ 11) .none,de P s8 (τ 12) (.ref st)]⟩ 12,⟨[]⟩⟩
noncomputable def jX(tN bt nb:Nat):Code:= .builtin RQ ⟨[.type SL.s17162191345867700912x4,sv [75] tN,.ref bt,.ref nb],[]⟩
noncomputable def GG(tN bt nb:Nat):Args:=⟨[.type SL.s17162191345867700912x4,sv [75] tN,.ref bt,.ref nb],[]⟩
section
noncomputable def iH(a b c:Nat):Obj:=⟨.type SL.s4290257624100764138x5,none,.fields ⟨[.ref a,.ref b,.ref c]⟩,⟨[]⟩⟩
noncomputable def BE(c:Nat):Code:= .call (.type SL.s4290257624100764138x5) ⟨[.ref c,.ref c],[]⟩
section
variable{prog:Program}{w:World}{s:Shared}
local macro_rules | `(tactic|x_close)=>`(tactic| (intro hx1 hx2;exact $(Lean.mkIdent `hR) _ _ _ _ (by assumption) (by kernel_rfl!) hx1 hx2))
theorem aI3 {ns:Nat}{bt:Nat}(h1:s.heap.get? c=some (bY c ns bt t0 t1))(hR:∀h a1 o1 k,Mem s.heap h [] [(a1,o1)]->o1=iH c c c->HR s ⟨h,s.gens,s.drawn,k,s.os⟩->s.toks<=k->R (.ok (.ret (.ref a1))) ⟨h,s.gens,s.drawn,k,s.os⟩):
  wpAny (model prog w) ⟨none,380,none,none,u⟩ (.call (BE c) none false [] (fun r=> .pure r)) (fun r s'=>HR s s'->s.toks<=s'.toks->R r s') (fun v v=>False) s:=by
 unfold bY at h1
 x_run
end
section
variable{prog:Program}{w:World}{s:Shared}
local macro_rules | `(tactic|x_close)=>`(tactic| (intro hx1 hx2;exact $(Lean.mkIdent `hR) _ _ _ _ (by assumption) (by kernel_rfl!) hx1 hx2))
theorem aI4 {l:Nat}{v:Value}(h1:s.heap.get? l=some (aA [v] e))(hR:∀h a1 o1 k,Mem s.heap h [] [(a1,o1)]->o1=aA [v] 1->HR s ⟨h,s.gens,s.drawn,k,s.os⟩->s.toks<=k->R (.ok (.ret (.ref a1))) ⟨h,s.gens,s.drawn,k,s.os⟩):
  wpAny (model prog w) ⟨none,900,none,none,u⟩ (.call (nG l) none false [] (fun r=> .pure r)) (fun r s'=>HR s s'->s.toks<=s'.toks->R r s') (fun z z=>False) s:=by
 unfold aA at h1
 x_run
theorem aI5 {l:Nat}{v1 v2 v3 v4:Value}(h1:s.heap.get? l=some (aA [v1,v2,v3,v4] e))(hR:∀h a1 o1 k,Mem s.heap h [] [(a1,o1)]->o1=aA [v1,v2,v3,v4] 1->HR s ⟨h,s.gens,s.drawn,k,s.os⟩->s.toks<=k->R (.ok (.ret (.ref a1))) ⟨h,s.gens,s.drawn,k,s.os⟩):
  wpAny (model prog w) ⟨none,900,none,none,u⟩ (.call (nG l) none false [] (fun r=> .pure r)) (fun r s'=>HR s s'->s.toks<=s'.toks->R r s') (fun v v=>False) s:=by
 unfold aA at h1
 x_run
end
end
noncomputable def TC:List Nat:=[115,117,112,101,114,46,95,95,103,101,116,97,116,116,114,105,98,117,116,101,95,95]
noncomputable def TF:String:=sE TC rfl
theorem aI6:"super.__getattribute__"=TF:=cA TC rfl
noncomputable def BF(su t:Nat):Args:=⟨[.ref su,sv [95,95,105,110,105,116,95,115,117,98,99,108,97,115,115,95,95] t],[]⟩
noncomputable def jY(su t:Nat):Code:= .builtin TF (BF su t)
noncomputable def wZ(c:Nat):Obj:=⟨.type SL.s11030030927630378310x26,none,.fields ⟨[.builtin SL.s4860613602091757760x24,.ref c]⟩,⟨[]⟩⟩
theorem aI7(w:World)(g₀:Nat)(ad tb:Nat->Nat)(bl:List (Code×Pos))(p:Pos)(su c ns bt t0 t1 t:Nat):
 let r:=aY w g₀ [su,c] ad tb [] 5 562949970202625 (jY su t) (Fast.tw1054471737866971170 (BF su t)) bl p 380 [iH c c c,bY c ns bt t0 t1]
 pG r [0,1]=pH r [bZ ⟨jY su t,none,none,bl,none⟩ p 380] ⟨jY su t,none,none,bl,none⟩ [some (iH c c c),some (bY c ns bt t0 t1)] [] 2:=by intro r;kernel_rfl
def BG(w:World)(g₀:Nat)(ad tb:Nat->Nat)(bl:List (Code×Pos))(p:Pos)(su c ns bt t0 t1 t:Nat)(x:St):Prop:=
 dI (aY w g₀ [su,c] ad tb [] 7 32776 (jY su t) x.t bl p 380 [iH c c c,bY c ns bt t0 t1]) [0,1,2]=
  dJ (aY w g₀ [su,c] ad tb [] 7 32776 (jY su t) x.t bl p 380 [iH c c c,bY c ns bt t0 t1]) [] ⟨jY su t,none,none,bl,none⟩ (.pure (.done (.ret (.ref (bG [su,c] ad 2))))) [some (iH c c c),some (bY c ns bt t0 t1),some (wZ c)] [] 3
theorem GH(v:Value): @bne Value (@instBEqOfDecidableEq Value Fast.tw7966671052430208091) v v=false:=by simp[bne]
theorem aI8(w:World)(g₀:Nat)(ad tb:Nat->Nat)(bl:List (Code×Pos))(p:Pos)(g1:Nat)(ad1 tb1:Nat->Nat)(p1:Pos)(su c ns bt t0 t1 t:Nat):
 BG w g₀ ad tb bl p su c ns bt t0 t1 t (aY w g1 [su,c] ad1 tb1 [] 5 562949970202625 (jY su t) (Fast.tw1054471737866971170 (BF su t)) bl p1 380 [iH c c c,bY c ns bt t0 t1]):=by
 delta Fast.tw1054471737866971170
 generalize hF: @List.dropWhile.{0} Value=FR;revert FR
 refine @qO _ _ (BG w g₀ ad tb bl p su c ns bt t0 t1 t) (@List.dropWhile.{0} Value) (fun u l=>l) _ (fun v u u=>v)
  (fun F=>F (fun x=> @bne Value (@instBEqOfDecidableEq Value Fast.tw7966671052430208091) x (.ref c)) [.ref c,.type SL.s2742458400755230247x6]) ?_ ?_ ?_
 ·intro F
  kernel_rfl
 ·show List.dropWhile _ (_::_)=_
  rw[List.dropWhile_cons,if_neg (by rw[GH];exact Bool.false_ne_true)]
 ·generalize hI: @ite.{1} Value=IT
  revert IT
  refine @qO _ _ (BG w g₀ ad tb bl p su c ns bt t0 t1 t) (@ite.{1} Value) (fun u u a u=>a) _ (fun v u u u u=>v)
   (fun F=> @F ((@BEq.beq Value (@instBEqOfDecidableEq Value Fast.tw7966671052430208091) (.ref c) (.ref c))=true) (instDecidableEqBool _ _) .none (.ref c)) ?_ ?_ ?_
  ·intro F
   kernel_rfl
  ·show ite _ _ _=_
   rw[if_pos (by simp)]
  ·unfold BG
   kernel_rfl
section
noncomputable def TG(t0 t1 jc jn jb n i:Nat):HF:=
 dP (fun A u=>BE (A jc)) [jc] (fun A u=>[bY (A jc) (A jn) (A jb) t0 t1]) (fun A u=>[bY (A jc) (A jn) (A jb) t0 t1]) (fun A u=>[iH (A jc) (A jc) (A jc)]) (fun A u=> .ok (.ret (.ref (A n)))) 0 n i 380
noncomputable def TH(t0 t1 jc jn jb js:Nat)(t:TR)(n i:Nat):HF:=
 dP (fun A K=>jY (A js) (t.ev K)) [js,jc] (fun A u=>[iH (A jc) (A jc) (A jc),bY (A jc) (A jn) (A jb) t0 t1]) (fun A u=>[iH (A jc) (A jc) (A jc),bY (A jc) (A jn) (A jb) t0 t1]) (fun A u=>[wZ (A jc)]) (fun A u=> .ok (.ret (.ref (A n)))) 0 n i 380
section
variable{w:World}
theorem aI9 {v:Value}{ji:Nat}(hj:ji<n):aG (model PR w) (aX w.params) (tZ (fun z=>[v]) ep ji n i):=by
 refine DU 1 (fun z z=>rfl) ?_ (fun z z z z z z=>rfl) (fun z z z z z z=>rfl) (fun z z z z z z=>rfl) ?_ (fun z z=>rfl) (fun z z=>rfl) (fun j h=>by simp at h;lia) (by simp) fun A K bl p s hA hK hd B ha nd lo hbl=> ?_
 ·intro A K A' K' a1 a2
  show nG (A' ji)=nG (A ji);rw[a1 ji hj]
 ·intro A K A' K' a1 a2
  show (Except.ok (.ret (.ref (A' n))):Result)=Except.ok (.ret (.ref (A n)));rw[a1 n (by lia)]
 ·have ha:At s [A ji] [aA [v] ep]:=ha
  refine FX (D:=900) hbl hd fun u=>aI4 ha.1 fun h a1 o1 k D e1 H tk=> ?_;subst e1;have X:aJ [] s ⟨h,s.gens,s.drawn,k,s.os⟩:=FY (s':=⟨h,s.gens,s.drawn,k,s.os⟩) D H tk rfl rfl rfl;exact⟨[a1],[],rfl,by simp,aD (FZ (s':=⟨h,s.gens,s.drawn,k,s.os⟩) D H 0 a1 _ rfl),aE,X.mono (fun a h=>nomatch h),ha.keep fun y o z ho=>X.frame y o ho (by simp),⟨D.at 0 _ _ rfl,trivial⟩,by rw[iG]⟩
theorem aIa {v1 v2 v3 v4:Value}{ji:Nat}(hj:ji<n):aG (model PR w) (aX w.params) (tZ (fun v=>[v1,v2,v3,v4]) ep ji n i):=by
 refine DU 1 (fun v v=>rfl) ?_ (fun v v v v v v=>rfl) (fun v v v v v v=>rfl) (fun v v v v v v=>rfl) ?_ (fun v v=>rfl) (fun v v=>rfl) (fun j h=>by simp at h;lia) (by simp) fun A K bl p s hA hK hd B ha nd lo hbl=> ?_
 ·intro A K A' K' a1 a2
  show nG (A' ji)=nG (A ji);rw[a1 ji hj]
 ·intro A K A' K' a1 a2
  show (Except.ok (.ret (.ref (A' n))):Result)=Except.ok (.ret (.ref (A n)));rw[a1 n (by lia)]
 ·have ha:At s [A ji] [aA [v1,v2,v3,v4] ep]:=ha
  refine FX (D:=900) hbl hd fun u=>aI5 ha.1 fun h a1 o1 k D e1 H tk=> ?_;subst e1;have X:aJ [] s ⟨h,s.gens,s.drawn,k,s.os⟩:=FY (s':=⟨h,s.gens,s.drawn,k,s.os⟩) D H tk rfl rfl rfl;exact⟨[a1],[],rfl,by simp,aD (FZ (s':=⟨h,s.gens,s.drawn,k,s.os⟩) D H 0 a1 _ rfl),aE,X.mono (fun a h=>nomatch h),ha.keep fun y o v ho=>X.frame y o ho (by simp),⟨D.at 0 _ _ rfl,trivial⟩,by rw[iG]⟩
theorem aIb (hc:jc<n)(hn:jn<n)(hb:jb<n):aG (model PR w) (aX w.params) (TG t0 t1 jc jn jb n i):=by
 have lc:∀A A':Nat->Nat,(∀j,j<n->A' j=A j)->[bY (A' jc) (A' jn) (A' jb) t0 t1]=[bY (A jc) (A jn) (A jb) t0 t1]:=fun A A' a1=>by rw[a1 jc hc,a1 jn hn,a1 jb hb]
 refine DU 1 (fun v v=>rfl) ?_ (fun A K A' K' a1 v=>lc A A' a1) (fun A K A' K' a1 v=>lc A A' fun j hj=>a1 j (by lia)) ?_ ?_ (fun v v=>rfl) (fun v v=>rfl) (fun j h=>by simp at h;lia) (by simp) fun A K bl p s hA hK hd B ha nd lo hbl=> ?_
 ·intro A K A' K' a1 a2
  show BE (A' jc)=BE (A jc);rw[a1 jc hc]
 ·intro A K A' K' a1 a2
  show[iH (A' jc) (A' jc) (A' jc)]=[iH (A jc) (A jc) (A jc)];rw[a1 jc (by lia)]
 ·intro A K A' K' a1 a2
  show (Except.ok (.ret (.ref (A' n))):Result)=Except.ok (.ret (.ref (A n)));rw[a1 n (by lia)]
 ·have ha':At s [A jc] _:=ha
  refine FX (D:=380) hbl hd fun u=>aI3 ha'.1 fun h a1 o1 k D e1 H tk=> ?_;subst e1;have X:aJ [] s ⟨h,s.gens,s.drawn,k,s.os⟩:=FY (s':=⟨h,s.gens,s.drawn,k,s.os⟩) D H tk rfl rfl rfl;refine⟨[a1],[],rfl,by simp,aD (FZ (s':=⟨h,s.gens,s.drawn,k,s.os⟩) D H 0 a1 _ rfl),aE,X.mono (fun a h=>nomatch h),?_,?_,by rw[iG]⟩
  ·show At _ _ [bY (upd A n [a1] jc) (upd A n [a1] jn) (upd A n [a1] jb) t0 t1]
   rw[lc A (upd A n [a1]) fun j hj=>fN hj];exact ha'.keep fun y o v ho=>X.frame y o ho (by simp)
  ·show At _ [a1] [iH (upd A n [a1] jc) (upd A n [a1] jc) (upd A n [a1] jc)]
   rw[show upd A n [a1] jc=A jc from fN hc];exact⟨D.at 0 _ _ rfl,trivial⟩
theorem aIc {js:Nat}{t:TR}(hc:jc<n)(hn:jn<n)(hb:jb<n)(hs:js<n)(hsc:js≠jc)(ht:t.ok i=true):aG (model PR w) (aX w.params) (TH t0 t1 jc jn jb js t n i):=by
 have lc:∀A A':Nat->Nat,(∀j,j<n->A' j=A j)->[iH (A' jc) (A' jc) (A' jc),bY (A' jc) (A' jn) (A' jb) t0 t1]=[iH (A jc) (A jc) (A jc),bY (A jc) (A jn) (A jb) t0 t1]:=fun A A' a1=>by rw[a1 jc hc,a1 jn hn,a1 jb hb]
 refine eN 1 (fun u u=>rfl) ?_ (fun A K A' K' a1 u=>lc A A' a1) (fun A K A' K' a1 u=>lc A A' fun j hj=>a1 j (by lia)) ?_ ?_ (fun u u=>rfl) (fun u u=>rfl) (fun j h=>by simp at h;lia) (by simp[hsc]) fun A K bl p s hA hK hd B ha nd lo=> ?_
 ·intro A K A' K' a1 a2
  show jY (A' js) (t.ev K')=jY (A js) (t.ev K);rw[a1 js hs,TR.lcc ht a2]
 ·intro A K A' K' a1 a2
  show[wZ (A' jc)]=[wZ (A jc)];rw[a1 jc (by lia)]
 ·intro A K A' K' a1 a2
  show (Except.ok (.ret (.ref (A' n))):Result)=Except.ok (.ret (.ref (A n)));rw[a1 n (by lia)]
 ·have ha':At s [A js,A jc] [iH (A jc) (A jc) (A jc),bY (A jc) (A jn) (A jb) t0 t1]:=ha
  have nd:[A js,A jc].Nodup:=nd;have lo:∀a∈[A js,A jc],817<=a:=lo
  have hden:(model PR w).den (jY (A js) (t.ev K))=Fast.tw1054471737866971170 (BF (A js) (t.ev K)):=by
   rw[<-Fast.te1054471737866971170];unfold jY;exact eM (by rw[<-aI6];exact entryFor_of_fast (by kernel_rfl)) _
  rw[wpCode];show ∃r s',Runs (model PR w) ⟨jY (A js) (t.ev K),none,none,bl,none⟩ p ((model PR w).den (jY (A js) (t.ev K))) [] s (.ret r) s'/\_;rw[hden];refine tO (fun ad tb=>aI7 w s.gens.size ad tb bl p (A js) (A jc) (A jn) (A jb) t0 t1 (t.ev K)) aE B ha' rfl nd lo hd fun ad tb px s₁ Q=> ?_;have at1:At s₁ [A js,A jc] [iH (A jc) (A jc) (A jc),bY (A jc) (A jn) (A jb) t0 t1]:=(Q.ats [0,1]);refine bL (fun ad' tb'=>aI8 w s₁.gens.size ad' tb' bl px s.gens.size ad tb p (A js) (A jc) (A jn) (A jb) t0 t1 (t.ev K)) aE (B.ext Q.ext lo) at1 rfl nd lo hd fun ad' tb' s₂ Q₂=> ?_;have n2:s₁.heap.objs.size<=ad' 2+817:=(Q₂.new 2 (by show 2<=2;decide) (by show 2<3;decide)).1;refine⟨[ad' 2+817],[],rfl,by simp,aD (Nat.le_trans Q.ext.size n2),aE,jO Q.ext Q₂.ext,?_,?_,by rw[iG];rfl⟩
  ·show At s₂ [A js,A jc] [iH (upd A n _ jc) (upd A n _ jc) (upd A n _ jc),bY (upd A n _ jc) (upd A n _ jn) (upd A n _ jb) t0 t1]
   rw[lc A (upd A n [ad' 2+817]) fun j hj=>fN hj];exact(Q₂.ats [0,1])
  ·show At s₂ [ad' 2+817] [wZ (upd A n _ jc)]
   rw[show upd A n [ad' 2+817] jc=A jc from fN hc];exact⟨Q₂.at_ 2 2 _ rfl rfl,trivial⟩
end
end
theorem aId(w:World)(g₀:Nat)(ad tb:Nat->Nat)(bl:List (Code×Pos))(p:Pos)(tN bt nb sl fi fl fg fe fle fge st tsl tst mc ci cl cg ce cle cge xl xg xe xle xge:Nat)(τ:Nat->Nat):
 let r:=aY w g₀ [bt,nb+817,sl,fi,fl,fg,fe,fle,fge,st] ad tb [tZ (fun x=>[sv [111,98,106] tsl]) 0 2 10 0] 24 JB
  (jX tN bt (nb+817)) (Fast.tw4202317264376624991 (GG tN bt (nb+817))) bl p 360 [aK [.type SL.s2742458400755230247x6],uF w.params τ sl fi fl fg fe fle fge st,aA [sv [111,98,106] tsl] 0,iM ci,pN mc cl xl,pO mc cg xg,pP mc ce xe,pQ mc cle xle,pR mc cge xge,aK [sv [111,98,106] tst]]
 pG r [0,1,2,3,4,5,6,7,8,9,10,11,12]=pH r [bZ ⟨jX tN bt (nb+817),none,none,bl,none⟩ p 360] ⟨jX tN bt (nb+817),none,none,bl,none⟩ [some (aK [.type SL.s2742458400755230247x6]),some (uF w.params τ sl fi fl fg fe fle fge st),some (aA [sv [111,98,106] tsl] 0),some (iM ci),some (pN mc cl xl),some (pO mc cg xg),some (pP mc ce xe),some (pQ mc cle xle),some (pR mc cge xge),some (aK [sv [111,98,106] tst]),some (aA [sv [111,98,106] tsl] 1),some (⟨.type SL.s14018661285674007319x4,none,.dict ⟨[de w.params si (τ 0) (sv sh (τ 1)),de w.params sd (τ 2) (.int (Int.ofNat 9) (τ 3)),de w.params sX (τ 4) (.ref sl),de w.params sa (τ 5) (.ref fi),de w.params rF (τ 6) (.ref fl),de w.params rG (τ 7) (.ref fg),de w.params rH (τ 8) (.ref fe),de w.params rI (τ 9) (.ref fle),de w.params rJ (τ 10) (.ref fge),de w.params xQ (τ 11) (.none),de w.params s8 (τ 12) (.ref st)]⟩ (1),⟨[]⟩⟩),some (⟨.type SL.s17162191345867700912x4,none,.cls {name:=⟨⟨[75]⟩⟩,bases:=[.type SL.s2742458400755230247x6],mro:=[],ns:=(bG [bt,nb+817,sl,fi,fl,fg,fe,fle,fge,st] ad 11),qualname:=⟨⟨s9⟩⟩,hasDict:=true,slotNames:=[],subclasses:=[],abstract:=false,collection:=none,hasDel:=false},⟨[some (.ref bt),none,some (sv [75] (tN)),some (sv s9 (τ 14))]⟩⟩)] [] 13:=by intro r;kernel_rfl
theorem aIe{p:Value->Bool}{a b:Value}(h1:p a=false)(h2:p b=true):PySem.W.R.filterR p [a,b]=[b]:=by
 unfold PySem.W.R.filterR;dsimp only;rw[h1,h2]
def GI(w:World)(g₀:Nat)(ad tb:Nat->Nat)(bl:List (Code×Pos))(p:Pos)(ad1 tb1:Nat->Nat)(tN bt nb sl fi fl fg fe fle fge st tsl tst mc ci cl cg ce cle cge xl xg xe xle xge:Nat)(τ:Nat->Nat)(x:St):Prop:=
 let r:=aY w g₀ [ad1 11+817,ad1 12+817,bt,nb+817,sl,fi,fl,fg,fe,fle,fge,st] ad tb [TG tN (τ 14) 1 0 2 13 3,TH tN (τ 14) 1 0 2 13 (TR.k 3) 14 4] 53 (aQ 0x800800800803d00e007403403002c02802402001c01801 [12,gk,7,67125252,5,512,12,gk,12,vF,3,256,12,gZ,7,33562626]) (jX tN bt (nb+817)) x.t bl p 360 [⟨.type SL.s14018661285674007319x4,none,.dict ⟨[de w.params si (τ 0) (sv sh (τ 1)),de w.params sd (τ 2) (.int (Int.ofNat 9) (τ 3)),de w.params sX (τ 4) (.ref sl),de w.params sa (τ 5) (.ref fi),de w.params rF (τ 6) (.ref fl),de w.params rG (τ 7) (.ref fg),de w.params rH (τ 8) (.ref fe),de w.params rI (τ 9) (.ref fle),de w.params rJ (τ 10) (.ref fge),de w.params xQ (τ 11) (.none),de w.params s8 (τ 12) (.ref st)]⟩ (1),⟨[]⟩⟩,⟨.type SL.s17162191345867700912x4,none,.cls {name:=⟨⟨[75]⟩⟩,bases:=[.type SL.s2742458400755230247x6],mro:=[],ns:=(ad1 11+817),qualname:=⟨⟨s9⟩⟩,hasDict:=true,slotNames:=[],subclasses:=[],abstract:=false,collection:=none,hasDel:=false},⟨[some (.ref bt),none,some (sv [75] (tN)),some (sv s9 (τ 14))]⟩⟩,aK [.type SL.s2742458400755230247x6],uF w.params τ sl fi fl fg fe fle fge st,aA [sv [111,98,106] tsl] 0,iM ci,pN mc cl xl,pO mc cg xg,pP mc ce xe,pQ mc cle xle,pR mc cge xge,aK [sv [111,98,106] tst]]
 dI r [0,1,2,3,4,5,6,7,8,9,10,11,12]=dJ r [] ⟨jX tN bt (nb+817),none,none,bl,none⟩ (.pure (.done (.ret (.ref (ad1 12+817))))) [some (iT w.params (bX (bX τ 13 (aC tb 1)) 14 (aC tb 2)) sl fi fl fg fe fle fge st (bG [ad1 11+817,ad1 12+817,bt,nb+817,sl,fi,fl,fg,fe,fle,fge,st] ad 12)),some (bY (ad1 12+817) (ad1 11+817) bt tN (τ 14)),some (aK [.type SL.s2742458400755230247x6]),some (uF w.params τ sl fi fl fg fe fle fge st),some (aA [sv [111,98,106] tsl] 0),some (iM ci),some (pN mc cl xl),some (pO mc cg xg),some (pP mc ce xe),some (pQ mc cle xle),some (pR mc cge xge),some (aK [sv [111,98,106] tst]),some (dE (ad1 12+817) (aC tb 0))] [] 15
theorem aIf(w:World)(g₀:Nat)(ad tb:Nat->Nat)(bl:List (Code×Pos))(p:Pos)(g1:Nat)(ad1 tb1:Nat->Nat)(p1:Pos)(tN bt nb sl fi fl fg fe fle fge st tsl tst mc ci cl cg ce cle cge xl xg xe xle xge:Nat)(τ:Nat->Nat):
 GI w g₀ ad tb bl p ad1 tb1 tN bt nb sl fi fl fg fe fle fge st tsl tst mc ci cl cg ce cle cge xl xg xe xle xge τ (aY w g1 [bt,nb+817,sl,fi,fl,fg,fe,fle,fge,st] ad1 tb1 [tZ (fun x=>[sv [111,98,106] tsl]) 0 2 10 0] 24 JB (jX tN bt (nb+817)) (Fast.tw4202317264376624991 (GG tN bt (nb+817))) bl p1 360 [aK [.type SL.s2742458400755230247x6],uF w.params τ sl fi fl fg fe fle fge st,aA [sv [111,98,106] tsl] 0,iM ci,pN mc cl xl,pO mc cg xg,pP mc ce xe,pQ mc cle xle,pR mc cge xge,aK [sv [111,98,106] tst]]):=by
 delta Fast.tw4202317264376624991
 generalize hF: @PySem.W.R.filterR.{0} Value=FR;revert FR
 refine @qO _ _ (GI w g₀ ad tb bl p ad1 tb1 tN bt nb sl fi fl fg fe fle fge st tsl tst mc ci cl cg ce cle cge xl xg xe xle xge τ) (@PySem.W.R.filterR.{0} Value) (fun u l=>l.tail) _ (fun v u u=>v)
  (fun F=>F (fun x=> @bne Value (@instBEqOfDecidableEq Value Fast.tw7966671052430208091) x (.ref (ad1 12+817))) [.ref (ad1 12+817),.type SL.s2742458400755230247x6]) ?_ ?_ ?_
 ·intro F
  kernel_rfl
 ·exact aIe (GH _) (by kernel_rfl)
 ·unfold GI
  intro r;kernel_rfl
section
noncomputable def aIg(P:Params)(τ:Nat->Nat)(tsl tst sl fi fl fg fe fle fge st mc ci cl cg ce cle cge xl xg xe xle xge:Nat):List Obj:=
 [aK [.type SL.s2742458400755230247x6],uF P τ sl fi fl fg fe fle fge st,aA [sv [111,98,106] tsl] 0,iM ci,pN mc cl xl,pO mc cg xg,pP mc ce xe,pQ mc cle xle,pR mc cge xge,aK [sv [111,98,106] tst]]
noncomputable def mH(P:Params)(τl:List Nat)(tsl tst:TR)(jsl jfi jfl jfg jfe jfle jfge jst jmc jci jcl jcg jce jcle jcge jxl jxg jxe jxle jxge:Nat)(A K:Nat->Nat):List Obj:=
 aIg P (cO K τl) (tsl.ev K) (tst.ev K) (A jsl) (A jfi) (A jfl) (A jfg) (A jfe) (A jfle) (A jfge) (A jst) (A jmc) (A jci) (A jcl) (A jcg) (A jce) (A jcle) (A jcge) (A jxl) (A jxg) (A jxe) (A jxle) (A jxge)
noncomputable def BH(τ:Nat->Nat)(a b:Nat):Nat->Nat:=bX (bX τ 13 a) 14 b
noncomputable def TI(P:Params)(τl:List Nat)(tN tsl tst:TR)(jb jnb jsl jfi jfl jfg jfe jfle jfge jst jmc jci jcl jcg jce jcle jcge jxl jxg jxe jxle jxge n i:Nat):HF:=
 dP (fun A K=>jX (tN.ev K) (A jb) (A jnb)) [jb,jnb,jsl,jfi,jfl,jfg,jfe,jfle,jfge,jst]
  (mH P τl tsl tst jsl jfi jfl jfg jfe jfle jfge jst jmc jci jcl jcg jce jcle jcge jxl jxg jxe jxle jxge) (mH P τl tsl tst jsl jfi jfl jfg jfe jfle jfge jst jmc jci jcl jcg jce jcle jcge jxl jxg jxe jxle jxge)
  (fun A K=>[iT P (BH (cO K τl) (K (i+1)) (K (i+2))) (A jsl) (A jfi) (A jfl) (A jfg) (A jfe) (A jfle) (A jfge) (A jst) (A (n+2)),bY (A (n+1)) (A n) (A jb) (tN.ev K) (cO K τl 14),dE (A (n+1)) (K i)])
  (fun A u=> .ok (.ret (.ref (A (n+1))))) 3 n i 360
theorem TJ {l:List Nat}(h:∀x∈l,a≠x)(h':l.Nodup):(a::l).Nodup:=List.nodup_cons.mpr ⟨fun q=>h a q rfl,h'⟩
section
variable{w:World}
theorem aIh {τl:List Nat}{tN tsl tst:TR}{jnb jsl jfi jfl jfg jfe jfle jfge jst jmc jci jcl jcg jce jcle jcge jxl jxg jxe jxle jxge:Nat}(hj:∀j∈[jb,jnb,jsl,jfi,jfl,jfg,jfe,jfle,jfge,jst],j<n)(hr:∀j∈[jmc,jci,jcl,jcg,jce,jcle,jcge,jxl,jxg,jxe,jxle,jxge],j<n)(nd:[jb,jnb,jsl,jfi,jfl,jfg,jfe,jfle,jfge,jst].Nodup)(hτ:∀a∈τl,a<i)(hi:0<i)(hN:tN.ok i=true)(h1:tsl.ok i=true)(h2:tst.ok i=true):aG (model PR w) (aX w.params) (TI w.params τl tN tsl tst jb jnb jsl jfi jfl jfg jfe jfle jfge jst jmc jci jcl jcg jce jcle jcge jxl jxg jxe jxle jxge n i):=by
 have lc:∀(A K A' K':Nat->Nat),(∀j,j<n->A' j=A j)->(∀j,j<i->K' j=K j)->mH w.params τl tsl tst jsl jfi jfl jfg jfe jfle jfge jst jmc jci jcl jcg jce jcle jcge jxl jxg jxe jxle jxge A' K'=mH w.params τl tsl tst jsl jfi jfl jfg jfe jfle jfge jst jmc jci jcl jcg jce jcle jcge jxl jxg jxe jxle jxge A K:=fun A K A' K' a1 a2=>by
  unfold mH;rw[nY a2 τl hτ hi,TR.lcc h1 a2,TR.lcc h2 a2,a1 jsl (hj _ (.tail _ (.tail _ (.head _)))),a1 jfi (hj _ (mI 3)),a1 jfl (hj _ (mI 4)),a1 jfg (hj _ (mI 5)),a1 jfe (hj _ (mI 6)),a1 jfle (hj _ (mI 7)),a1 jfge (hj _ (mI 8)),a1 jst (hj _ (mI 9)),a1 jmc (hr _ (.head _)),a1 jci (hr _ (.tail _ (.head _))),a1 jcl (hr _ (.tail _ (.tail _ (.head _)))),a1 jcg (hr _ (mI 3)),a1 jce (hr _ (mI 4)),a1 jcle (hr _ (mI 5)),a1 jcge (hr _ (mI 6)),a1 jxl (hr _ (mI 7)),a1 jxg (hr _ (mI 8)),a1 jxe (hr _ (mI 9)),a1 jxle (hr _ (mI 10)),a1 jxge (hr _ (mI 11))]
 refine eN 3 (fun u u=>rfl) ?_ (fun A K A' K' a1 a2=>lc A K A' K' a1 a2) (fun A K A' K' a1 a2=>lc A K A' K' (fun j h=>a1 j (by lia)) fun j h=>a2 j (by lia)) ?_ ?_ (fun u u=>rfl) (fun u u=>rfl) hj nd fun A K bl p s hA hK hd B ha nd lo=> ?_
 ·intro A K A' K' a1 a2
  show jX (tN.ev K') (A' jb) (A' jnb)=jX (tN.ev K) (A jb) (A jnb);rw[TR.lcc hN a2,a1 jb (hj _ (.head _)),a1 jnb (hj _ (.tail _ (.head _)))]
 ·intro A K A' K' a1 a2
  have a1':∀j,j<n->A' j=A j:=fun j h=>a1 j (by lia);have a2':∀j,j<i->K' j=K j:=fun j h=>a2 j (by lia)
  exact cC (by rw[nY a2' τl hτ hi,a2 (i+1) (by lia),a2 (i+2) (by lia),a1 (n+2) (by lia),a1' jsl (hj _ (mI 2)),a1' jfi (hj _ (mI 3)),a1' jfl (hj _ (mI 4)),a1' jfg (hj _ (mI 5)),a1' jfe (hj _ (mI 6)),a1' jfle (hj _ (mI 7)),a1' jfge (hj _ (mI 8)),a1' jst (hj _ (mI 9))])
   (cC (by rw[nY a2' τl hτ hi,TR.lcc hN a2',a1 n (by lia),a1 (n+1) (by lia),a1' jb (hj _ (mI 0))]) (cC (by rw[a1 (n+1) (by lia),a2 i (by lia)]) rfl))
 ·intro A K A' K' a1 a2
  show (Except.ok (.ret (.ref (A' (n+1)))):Result)=Except.ok (.ret (.ref (A (n+1))));rw[a1 (n+1) (by lia)]
 ·have ha:At s [A jb,A jnb,A jsl,A jfi,A jfl,A jfg,A jfe,A jfle,A jfge,A jst] (mH w.params τl tsl tst jsl jfi jfl jfg jfe jfle jfge jst jmc jci jcl jcg jce jcle jcge jxl jxg jxe jxle jxge A K):=ha
  have nd:[A jb,A jnb,A jsl,A jfi,A jfl,A jfg,A jfe,A jfle,A jfge,A jst].Nodup:=nd;have lo:∀a∈[A jb,A jnb,A jsl,A jfi,A jfl,A jfg,A jfe,A jfle,A jfge,A jst],817<=a:=lo;have hin:∀la lk,mH w.params τl tsl tst jsl jfi jfl jfg jfe jfle jfge jst jmc jci jcl jcg jce jcle jcge jxl jxg jxe jxle jxge (upd A n la) (upd K i lk)=mH w.params τl tsl tst jsl jfi jfl jfg jfe jfle jfge jst jmc jci jcl jcg jce jcle jcge jxl jxg jxe jxle jxge A K:=fun la lk=>lc A K _ _ (fun j h=>fN h) fun j h=>fN h;unfold mH at ha;generalize hτv:cO K τl=τv at ha;generalize hts:tsl.ev K=tslv at ha;generalize htt:tst.ev K=tstv at ha;obtain⟨nb,hnb⟩:∃nb,A jnb=nb+817:=⟨A jnb - 817,by have:=hA jnb;lia⟩;rw[hnb] at ha nd lo
  have hden:(model PR w).den (jX (tN.ev K) (A jb) (nb+817))=Fast.tw4202317264376624991 (GG (tN.ev K) (A jb) (nb+817)):=by
   rw[<-Fast.te4202317264376624991];unfold jX;exact eM (by rw[<-aG2];exact entryFor_of_fast (by kernel_rfl)) _
  show wpCode (model PR w) ⟨jX (tN.ev K) (A jb) (A jnb),none,none,bl,none⟩ _ p s;rw[hnb];rw[wpCode];show ∃r s',Runs (model PR w) ⟨jX (tN.ev K) (A jb) (nb+817),none,none,bl,none⟩ p ((model PR w).den (jX (tN.ev K) (A jb) (nb+817))) [] s (.ret r) s'/\_;rw[hden];refine tO (fun ad tb=>aId w s.gens.size ad tb bl p (tN.ev K) (A jb) nb (A jsl) (A jfi) (A jfl) (A jfg) (A jfe) (A jfle) (A jfge) (A jst) tslv tstv (A jmc) (A jci) (A jcl) (A jcg) (A jce) (A jcle) (A jcge) (A jxl) (A jxg) (A jxe) (A jxle) (A jxge) τv) (aD (aI9 dT)) B ha rfl nd lo hd fun ad tb px s₁ Q=> ?_
  have nw:∀j,10<=j->j<13->s.heap.objs.size<=ad j+817:=fun j x y=>by
   have z:=(Q.new j x y).1;rw[<-Nat.sub_add_cancel x] at z ⊢;exact z
  have lt:∀y∈[A jb,nb+817,A jsl,A jfi,A jfl,A jfg,A jfe,A jfle,A jfge,A jst],∀j,10<=j->j<13->ad j+817≠y:=fun y hy j x z q=>by
   have hsz:y<s.heap.objs.size:=by
    obtain⟨k,hk,rfl⟩:=List.mem_iff_getElem.mp hy;have hk':k<10:=hk;exact Heap.lt_size (ha.get k _ _ (List.getElem?_eq_getElem hk) (List.getElem?_eq_getElem (by show k<10;exact hk')))
   have:=nw j x z
   lia
  have i12:ad 11+817≠ad 12+817:=fun e=>absurd (Q.inj 11 12 dT dT e) dT
  have nd12:((ad 11+817)::(ad 12+817)::[A jb,nb+817,A jsl,A jfi,A jfl,A jfg,A jfe,A jfle,A jfge,A jst]).Nodup:=
   List.nodup_cons.mpr ⟨fun h=>by
    rcases List.mem_cons.mp h with h |h
    ·exact i12 h
    ·exact lt _ h 11 dT dT rfl,List.nodup_cons.mpr ⟨fun h=>lt _ h 12 dT dT rfl,nd⟩⟩
  have lo12:∀a∈((ad 11+817)::(ad 12+817)::[A jb,nb+817,A jsl,A jfi,A jfl,A jfg,A jfe,A jfle,A jfge,A jst]),817<=a:=aB (Nat.le_add_left _ _) (aB (Nat.le_add_left _ _) lo)
  refine bL (fun ad' tb'=>aIf w s₁.gens.size ad' tb' bl px s.gens.size ad tb p (tN.ev K) (A jb) nb (A jsl) (A jfi) (A jfl) (A jfg) (A jfe) (A jfle) (A jfge) (A jst) tslv tstv (A jmc) (A jci) (A jcl) (A jcg) (A jce) (A jcle) (A jcge) (A jxl) (A jxg) (A jxe) (A jxle) (A jxge) τv)
   (aB (aIb dT dT dT) (aD (aIc dT dT dT dT dT rfl))) (B.ext Q.ext lo)
   (Q.ats [11,12,0,1,2,3,4,5,6,7,8,9]) rfl nd12 lo12 hd fun ad' tb' s₂ Q₂=> ?_
  have n12:s₁.heap.objs.size<=ad' 12+817:=(Q₂.new 12 (by show 12<=12;decide) (by show 12<15;decide)).1;have h12:ad 12+817<s₁.heap.objs.size:=(Q.new 12 (by show 10<=12;decide) (by show 12<13;decide)).2;have h11:ad 11+817<s₁.heap.objs.size:=(Q.new 11 (by show 10<=11;decide) (by show 11<13;decide)).2;have X₂:aJ ((ad 11+817)::(ad 12+817)::[A jb,nb+817,A jsl,A jfi,A jfl,A jfg,A jfe,A jfle,A jfge,A jst]) s₁ s₂:=Q₂.ext;have X₁:aJ [A jb,nb+817,A jsl,A jfi,A jfl,A jfg,A jfe,A jfle,A jfge,A jst] s s₁:=Q.ext;have X:aJ [A jb,nb+817,A jsl,A jfi,A jfl,A jfg,A jfe,A jfle,A jfge,A jst] s s₂:=(X₁.trans X₂).less fun y h=>(List.mem_append.mp h).elim .inl (aB (Q:=fun y=>y∈[A jb,nb+817,A jsl,A jfi,A jfl,A jfg,A jfe,A jfle,A jfge,A jst]\/s.heap.objs.size<=y) (.inr (nw 11 dT dT)) (aB (.inr (nw 12 dT dT)) fun u h=> .inl h) y);refine⟨[ad 11+817,ad 12+817,ad' 12+817],[aC tb' 0,aC tb' 1,aC tb' 2],rfl,?_,aB (nw 11 dT dT) (aB (nw 12 dT dT) (aD (Nat.le_trans X₁.size n12))),aB (bB tb' 0) (aB (bB tb' 1) (aD (bB tb' 2))),?_,?_,?_,?_⟩
  ·exact TJ (aB i12 (aD fun e=>absurd h11 (Nat.not_lt.mpr (e▸n12)))) (TJ (aD fun e=>absurd h12 (Nat.not_lt.mpr (e▸n12))) (by simp))
  ·show aJ [A jb,A jnb,A jsl,A jfi,A jfl,A jfg,A jfe,A jfle,A jfge,A jst] s s₂
   rw[hnb];exact X
  ·rw[hin]
   show At s₂ [A jb,A jnb,A jsl,A jfi,A jfl,A jfg,A jfe,A jfle,A jfge,A jst] (mH w.params τl tsl tst jsl jfi jfl jfg jfe jfle jfge jst jmc jci jcl jcg jce jcle jcge jxl jxg jxe jxle jxge A K);unfold mH;rw[hτv,hts,htt,hnb];exact(Q₂.ats [2,3,4,5,6,7,8,9,10,11])
  ·have u1:upd A n [ad 11+817,ad 12+817,ad' 12+817] (n+1)=ad 12+817:=tG
   have u2:upd A n [ad 11+817,ad 12+817,ad' 12+817] (n+2)=ad' 12+817:=iP (l:=[ad 11+817,ad 12+817,ad' 12+817]) (j:=2) (by simp);have v1:upd K i [aC tb' 0,aC tb' 1,aC tb' 2] (i+1)=aC tb' 1:=tG;have v2:upd K i [aC tb' 0,aC tb' 1,aC tb' 2] (i+2)=aC tb' 2:=iP (l:=[aC tb' 0,aC tb' 1,aC tb' 2]) (j:=2) (by simp);have ua:∀j,j<n->upd A n [ad 11+817,ad 12+817,ad' 12+817] j=A j:=fun j h=>fN h;have uk:∀j,j<i->upd K i [aC tb' 0,aC tb' 1,aC tb' 2] j=K j:=fun j h=>fN h;have k':cO (upd K i [aC tb' 0,aC tb' 1,aC tb' 2]) τl=τv:=(nY uk τl hτ hi).trans hτv;have g:=Q₂.ats [0,1,12];refine⟨?_,?_,?_,trivial⟩
   ·show s₂.heap.get? _=some (iT w.params (BH (cO (upd K i _) τl) (upd K i _ (i+1)) (upd K i _ (i+2))) (upd A n _ jsl) (upd A n _ jfi) (upd A n _ jfl) (upd A n _ jfg) (upd A n _ jfe) (upd A n _ jfle) (upd A n _ jfge) (upd A n _ jst) (upd A n _ (n+2)))
    rw[u2,v1,v2,k',ua jsl (hj _ (mI 2)),ua jfi (hj _ (mI 3)),ua jfl (hj _ (mI 4)),ua jfg (hj _ (mI 5)),ua jfe (hj _ (mI 6)),ua jfle (hj _ (mI 7)),ua jfge (hj _ (mI 8)),ua jst (hj _ (mI 9))];exact g.1
   ·show s₂.heap.get? _=some (bY (upd A n _ (n+1)) (upd A n _ n) (upd A n _ jb) (tN.ev (upd K i _)) (cO (upd K i _) τl 14))
    rw[u1,k',TR.lcc hN uk,iG,ua jb (hj _ (mI 0))];exact g.2.1
   ·show s₂.heap.get? _=some (dE (upd A n _ (n+1)) (upd K i _ i))
    rw[u1,iG];exact g.2.2.1
  ·rw[tG]
end
end
noncomputable def dF:Stmt:=dK (bF jH) 7
noncomputable def lL(loc cr ck ca cw it:Nat):Code:= .forLoop (bR dF) (.ref it) (bF dF) (fV dF) (aU loc cr ck ca cw)
noncomputable def cE(loc cr ck ca cw:Nat)(p4 p5:Pos):List (Code×Pos):=RM (bF jH) (aU loc cr ck ca cw) p4 p5
structure aH(m:List Nat)(s s':Shared):Prop where
 frame:∀(b:Nat) x,s.heap.get? b=some x->b∉m->s'.heap.get? b=some x
 size:s.heap.objs.size<=s'.heap.objs.size
 toks:s.toks<=s'.toks
 drawn:s'.drawn=s.drawn
 os:s'.os=s.os
 gens:s'.gens=s.gens
theorem aH.toN (h:aH m s s'):cU m s s':=⟨h.1,h.2,h.3,h.4,h.5⟩
theorem aH.trans (h:aH m s s')(h':aH m s' s''):aH m s s'':=
 have z:=h.toN.trans h'.toN
 ⟨z.1,z.2,z.3,z.4,z.5,h'.gens.trans h.gens⟩
theorem aH.mono (h:aH m s s')(hm:∀a∈m,a∈m'):aH m' s s':=⟨fun b x q1 q2=>h.frame b x q1 fun z=>q2 (hm b z),h.size,h.toks,h.drawn,h.os,h.gens⟩
theorem aT.extB (b:aT w s)(e:aH m s s')(hm:∀a∈m,817<=a):aT w s':=b.extN e.toN hm
theorem aJ.dropB (X:aJ olds s s')(h:∀y∈olds,y∈m\/∃o,s.heap.get? y=some o/\s'.heap.get? y=some o):aH m s s':=
 have z:=X.drop h
 ⟨z.1,z.2,z.3,z.4,z.5,X.gens⟩
structure KP where
 S:WS
 (bt t0 t1 t2 sl fi st c ns md mc lm cdl cw wl q0 q1 q2 q3 ct epW ca cb cc cdd ce:Nat)
 (τ ρ:Nat->Nat)
 (f d ctm:Nat->Nat)
 (σ m:Nat->Nat->Nat)
noncomputable def TL(m:Nat):List Nat:=[95,95]++(match m with |0=>[108,116] |1=>[103,116] |2=>[101,113] |3=>[108,101] |_=>[103,101])++[95,95]
noncomputable def qnK:List Nat:=[99,109,112,95,116,111,95,107,101,121,46,60,108,111,99,97,108,115,62,46,75,46]
noncomputable def qV(m:Nat)(σ:Nat->Nat)(a b c d e:Nat):Obj:=jW (TL m) (qnK++TL m) (16+3*m) σ a b c d e
noncomputable def mJ(m mc cd ct:Nat):Obj:=match m with |0=>pN mc cd ct |1=>pO mc cd ct |2=>pP mc cd ct |3=>pQ mc cd ct |_=>pR mc cd ct
noncomputable def uG(m:Nat):CmpOp:=match m with |0=> .Lt |1=> .Gt |2=> .Eq |3=> .LtE |4=> .GtE |_=> .NotEq
noncomputable def GJ(m:Nat):String:=match m with |0=>yP |1=>DJ |2=>vQ |3=>DI |_=>yO
noncomputable def mB(m:Nat)(z:Int):Bool:=match m with |0=>decide (z<0) |1=>decide (z>0) |2=>z == 0 |3=>decide (z<=0) |_=>decide (z>=0)
noncomputable def KP.L(K:KP)(m x y:Nat):List Nat:=[K.f m,K.d m,K.mc,K.c,K.ns,K.md,x,y,K.lm,K.cdl,K.cw,K.wl,K.q0,K.q1,K.q2,K.q3]
noncomputable def KP.kn(K:KP)(P:Params):Obj:=iT P K.τ K.sl K.fi (K.f 0) (K.f 1) (K.f 2) (K.f 3) (K.f 4) K.st K.md
noncomputable def KP.P(K:KP)(P:Params)(m k1 k2 ddx ddy tx ty:Nat):List Obj:=[mJ m K.mc (K.d m) (K.ctm m),qV m (K.σ m) (K.m m 1) (K.m m 2) (K.m m 3) (K.m m 4) (K.m m 5),aN (some (.ref K.lm)),bY K.c K.ns K.bt K.t0 K.t1,K.kn P,dE K.c K.t2,cZ K.c ddx (.ofNat k1) tx,cZ K.c ddy (.ofNat k2) ty,mF K.cw K.cdl K.ct,mG K.ρ K.ca K.cb K.cc K.cdd K.ce,aN (some (.ref K.wl)),oI K.epW K.q0 K.q1 K.q2 K.q3,K.S.o 0,K.S.o 1,K.S.o 2,K.S.o 3]
noncomputable def KP.at(K:KP)(m:Nat)(A:Nat->Nat):KP:={K with f:=fun i=>match Nat.beq i m with |true=>A 0 |false=>K.f i,d:=fun u=>A 1,mc:=A 2,c:=A 3,ns:=A 4,md:=A 5,lm:=A 8,cdl:=A 9,cw:=A 10,wl:=A 11,q0:=A 12,q1:=A 13,q2:=A 14,q3:=A 15}
noncomputable def kR:List Nat:=[0,1,2,3,4,5,6,7,8,9,10,11,12,13,14,15]
noncomputable def hM(P:Params)(K:KP)(m:Nat)(b:Bool)(k1 k2 ddx ddy tx ty n i:Nat):HF:=
 dP (fun A u=>AY (A 0) (A 6) (A 7)) kR (fun A u=>(K.at m A).P P m k1 k2 ddx ddy tx ty) (fun A u=>(K.at m A).P P m k1 k2 ddx ddy tx ty) (fun u u=>[]) (fun u u=> .ok (.ret (.bool b))) 0 n i 310
theorem e_m(w:World)(g₀:Nat)(ad tb:Nat->Nat)(bl:List (Code×Pos))(p:Pos)(K:KP){m:Nat}(hm:m<5)(vb:Bool)(z:Int)(x y k1 k2 ddx ddy tx ty:Nat):
 aZ w g₀ (K.L m x y) ad tb [GE w.params K.τ (Int.ofNat k1) tx K.bt K.t0 K.t1 K.t2 K.sl K.fi (K.f 0) (K.f 1) (K.f 2) (K.f 3) (K.f 4) K.st ddx 3 4 5 6 (TR.k 2) 17 3,GE w.params K.τ (Int.ofNat k2) ty K.bt K.t0 K.t1 K.t2 K.sl K.fi (K.f 0) (K.f 1) (K.f 2) (K.f 3) (K.f 4) K.st ddy 3 4 5 7 (TR.k 3) 17 4,TA K.S K.ρ k1 k2 z tx ty K.ct K.epW K.ca K.cb K.cc K.cdd K.ce 8 9 10 11 12 13 14 15 17 4,aV (GJ m) (.bool vb) [AV.int z (TR.k 4),AV.int (Int.ofNat 0) (TR.k 5)] 17 6] 45 0x160130050040040080118028020020038088018000044044022022002001 (AY (K.f m) x y) bl p 310 (K.P w.params m k1 k2 ddx ddy tx ty) kR (.pure (.done (.ret (.bool vb)))) (K.P w.params m k1 k2 ddx ddy tx ty) 17:=by
 match m,hm with
 |0,_ |1,_ |2,_ |3,_ |4,_=>unfold aZ;kernel_rfl
theorem TM {K:KP}{m:Nat}(hm:m<5)(hS:K.S.Ok)(h1:k1<4)(h2:k2<4)(h12:k1≠k2)(hb:mB m (K.S.z k1 k2)=b)(hn:16<=n):
  aG (model PR w) (aX w.params) (hM w.params K m b k1 k2 ddx ddy tx ty n i):=by
 have hj:∀j∈kR,j<n:=fun j q=>Nat.lt_of_lt_of_le ((by decide:∀j∈kR,j<16) j q) hn
 have lk:∀{A A':Nat->Nat},(∀j,j<n->A' j=A j)->K.at m A'=K.at m A:=fun {A A'} a1=>by
  have g:∀j,j<16->A' j=A j:=fun j q=>a1 j (Nat.lt_of_lt_of_le q hn);unfold KP.at;rw[g 0 dT,g 1 dT,g 2 dT,g 3 dT,g 4 dT,g 5 dT,g 8 dT,g 9 dT,g 10 dT,g 11 dT,g 12 dT,g 13 dT,g 14 dT,g 15 dT]
 have lc:∀(A A':Nat->Nat),(∀j,j<n->A' j=A j)->(K.at m A').P w.params m k1 k2 ddx ddy tx ty=(K.at m A).P w.params m k1 k2 ddx ddy tx ty:=fun A A' a1=>by rw[lk a1]
 have key:aG (model PR w) (aX w.params) (aV (GJ m) (.bool b) [AV.int (K.S.z k1 k2) (TR.k 4),AV.int (Int.ofNat 0) (TR.k 5)] 17 6):=MG (P:=fun m=>mB m (K.S.z k1 k2)=b->aG (model PR w) (aX w.params) (aV (GJ m) (.bool b) [AV.int (K.S.z k1 k2) (TR.k 4),AV.int (Int.ofNat 0) (TR.k 5)] 17 6)) (fun h=>aGi h rfl) (fun h=>aGk h rfl) (fun h=>zW h rfl) (fun h=>aGj h rfl) (fun h=>aGl h rfl) m hm hb;refine eN 0 (fun u u=>rfl) (fun A K A' K' a1 u=> ?_) (fun A K A' K' a1 u=>lc A A' a1) (fun A K A' K' a1 u=>lc A A' a1) (fun u u u u u u=>rfl) (fun u u u u u u=>rfl) (fun u u=>rfl) (fun u u=>rfl) hj dT fun A K₀ bl p s hA hK hd B ha nd lo=> ?_
 ·show AY (A' 0) (A' 6) (A' 7)=AY (A 0) (A 6) (A 7)
  rw[a1 0 (Nat.lt_of_lt_of_le dT hn),a1 6 (Nat.lt_of_lt_of_le dT hn),a1 7 (Nat.lt_of_lt_of_le dT hn)]
 ·have fin:∀ad s',dX (bM A kR) ad s s' kR (((K.at m A).P w.params m k1 k2 ddx ddy tx ty).map some) 17->∃la lk:List Nat,la.length=0/\la.Nodup/\(∀a∈la,s.heap.objs.size<=a)/\(∀t∈lk,1335<=t)/\aJ (bM A kR) s s'/\
    At s' (bM A kR) ((K.at m (upd A n la)).P w.params m k1 k2 ddx ddy tx ty)/\At s' la []/\(Except.ok (.ret (.bool b)):Result)= .ok (.ret (.bool b)):=fun ad s' Q=>
   ⟨[],[],rfl,List.nodup_nil,aE,aE,Q.ext,by rw[iY];exact(Q.ats [0,1,2,3,4,5,6,7,8,9,10,11,12,13,14,15]),trivial,rfl⟩
  have eL:(K.at m A).L m (A 6) (A 7)=bM A kR/\(K.at m A).f m=A 0:=by
   have:(K.at m A).f m=A 0:=by
    show (match Nat.beq m m with |true=>A 0 |false=>K.f m)=A 0;rw[Nat.beq_refl]
   exact⟨by unfold KP.L;rw[this];rfl,this⟩
  have E:=fun ad tb=>e_m w s.gens.size ad tb bl p (K.at m A) hm b (K.S.z k1 k2) (A 6) (A 7) k1 k2 ddx ddy tx ty;rw[eL.1,eL.2] at E;exact cT E (aB (SX dT dT dT dT dT rfl) (aB (SX dT dT dT dT dT rfl) (aB (aI2 hS h1 h2 h12 rfl dT dT) (aD key)))) B ha rfl nd lo hd dT fun ad tb s' Q=>fin ad s' Q
noncomputable def mU(m:Nat):Nat:=match m with |5=>2 |m=>m
noncomputable def mR(m:Nat)(b:Bool):Bool:=match m with |5=> !b |_=>b
noncomputable def GK(m x y:Nat):Sem Fin:=bindR (Fast.tw9423741818375054981 (uG m) (.ref x) (.ref y)) fun v=> .pure (.done (.ret v))
noncomputable def GL(w:World)(sg:Bool)(g:Nat)(ad tb:Nat->Nat)(hs:List HF)(f h:Nat)(t:Sem Fin)(p:Pos)(K:KP)(m x y k1 k2 ddx ddy tx ty loc cr ck cah it:Nat)(p4 p5:Pos):St:=
 qM w sg g (K.L (mU m) x y) ad tb hs f h (lL loc cr ck cah K.cw it) t (cE loc cr ck cah K.cw p4 p5) p 303 (K.P w.params (mU m) k1 k2 ddx ddy tx ty)
theorem aIi(w:World)(g₀:Nat)(ad tb:Nat->Nat)(p:Pos)(K:KP){m:Nat}(hm:m<6)(sg:Bool)(x y k1 k2 ddx ddy tx ty loc cr ck cah it:Nat)(p4 p5:Pos):
 let r:=GL w sg g₀ ad tb [] 3 32775 (GK m x y) p K m x y k1 k2 ddx ddy tx ty loc cr ck cah it p4 p5
 pG r kR=pH r [bZ ⟨lL loc cr ck cah K.cw it,none,none,cE loc cr ck cah K.cw p4 p5,none⟩ p 303] ⟨lL loc cr ck cah K.cw it,none,none,cE loc cr ck cah K.cw p4 p5,none⟩ ((K.P w.params (mU m) k1 k2 ddx ddy tx ty).map some) [] 16:=by
 match m,hm with
 |0,_ |1,_ |2,_ |3,_ |4,_ |5,_=>cases sg <;> (intro r;kernel_rfl)
noncomputable def rcF(m:Nat):Nat:=match m with |5=>19 |_=>8
noncomputable def rcH(m:Nat):Nat:=match m with |5=>0x1001002802002003801001c005004004007 |_=>0x2002005004004007
def GM(w:World)(sg:Bool)(g₀:Nat)(ad tb:Nat->Nat)(p:Pos)(K:KP)(m:Nat)(vb:Bool)(x y k1 k2 ddx ddy tx ty loc cr ck cah it:Nat)(p4 p5:Pos)(x_:St):Prop:=
 let r:=GL w sg g₀ ad tb [hM w.params K (mU m) vb k1 k2 ddx ddy tx ty 16 0] (rcF m) (rcH m) x_.t p K m x y k1 k2 ddx ddy tx ty loc cr ck cah it p4 p5
 dI r kR=dJ r [] ⟨lL loc cr ck cah K.cw it,none,none,cE loc cr ck cah K.cw p4 p5,none⟩ (.pure (.done (.ret (.bool (mR m vb))))) ((K.P w.params (mU m) k1 k2 ddx ddy tx ty).map some) [] 16
theorem aIj(w:World)(g₀:Nat)(ad tb:Nat->Nat)(p:Pos)(g1:Nat)(ad1 tb1:Nat->Nat)(p1:Pos)(K:KP){m:Nat}(hm:m<6)(sg vb:Bool)(x y k1 k2 ddx ddy tx ty loc cr ck cah it:Nat)(p4 p5:Pos):
 GM w sg g₀ ad tb p K m vb x y k1 k2 ddx ddy tx ty loc cr ck cah it p4 p5 (GL w sg g1 ad1 tb1 [] 3 32775 (GK m x y) p1 K m x y k1 k2 ddx ddy tx ty loc cr ck cah it p4 p5):=by
 match m,hm with
 |0,_ |1,_ |2,_ |3,_ |4,_ |5,_=>
  delta GK Fast.tw9423741818375054981
  generalize hF:(@bne Value (@instBEqOfDecidableEq Value Fast.tw7966671052430208091))=FR;revert FR;cases sg <;> cases vb <;>
  (refine @qO _ _ (GM w _ g₀ ad tb p K _ _ x y k1 k2 ddx ddy tx ty loc cr ck cah it p4 p5) (@bne Value (@instBEqOfDecidableEq Value Fast.tw7966671052430208091)) (fun u u=>false) _ (fun v u u=>v) (fun F=>F (.ref K.c) (.ref K.c)) ?_ ?_ ?_
   ·intro F
    kernel_rfl
   ·exact GH _
   ·unfold GM
    intro r;kernel_rfl)
theorem eY(loc cr ck cah cw:Nat)(p4 p5:Pos):frameCount (cE loc cr ck cah cw p4 p5)<=303:=by
 unfold cE RM;simp only[frameCount_cons];show _+(_+0)<=_;have h1:(Code.func (bF jH) (aU loc cr ck cah cw)).weight=1:=rfl;have h2:(Code.builtin pL ⟨[],[]⟩).weight=301:=by kernel_rfl
 rw[h1,h2];decide
noncomputable def KP.B(K:KP)(x y:Nat):List Nat:=[K.f 0,K.f 1,K.f 2,K.f 3,K.f 4,K.d 0,K.d 1,K.d 2,K.d 3,K.d 4,K.mc,K.c,K.ns,K.md,x,y,K.lm,K.cdl,K.cw,K.wl,K.q0,K.q1,K.q2,K.q3]
noncomputable def KP.PB(K:KP)(P:Params)(k1 k2 ddx ddy tx ty:Nat):List Obj:=[mJ 0 K.mc (K.d 0) (K.ctm 0),mJ 1 K.mc (K.d 1) (K.ctm 1),mJ 2 K.mc (K.d 2) (K.ctm 2),mJ 3 K.mc (K.d 3) (K.ctm 3),mJ 4 K.mc (K.d 4) (K.ctm 4),qV 0 (K.σ 0) (K.m 0 1) (K.m 0 2) (K.m 0 3) (K.m 0 4) (K.m 0 5),qV 1 (K.σ 1) (K.m 1 1) (K.m 1 2) (K.m 1 3) (K.m 1 4) (K.m 1 5),qV 2 (K.σ 2) (K.m 2 1) (K.m 2 2) (K.m 2 3) (K.m 2 4) (K.m 2 5),qV 3 (K.σ 3) (K.m 3 1) (K.m 3 2) (K.m 3 3) (K.m 3 4) (K.m 3 5),qV 4 (K.σ 4) (K.m 4 1) (K.m 4 2) (K.m 4 3) (K.m 4 4) (K.m 4 5)]++(K.P P 0 k1 k2 ddx ddy tx ty).drop 2
theorem aJ.rest {os:List Obj}(X:aJ (m++ks) s s')(h:At s ks os)(h':At s' ks os):aH m s s':=X.dropB fun y hy=>by
 rcases List.mem_append.mp hy with q |q
 ·exact .inl q
 ·obtain⟨j,hj,e⟩:=List.getElem_of_mem q
  have:∀(ks:List Nat) (os:List Obj),At s ks os->At s' ks os->y∈ks->∃o,s.heap.get? y=some o/\s'.heap.get? y=some o:=by
   intro ks;induction ks with
   |nil=>intro _ _ _ q;nomatch q
   |cons a ks ih=>
    intro os h h' q;cases os with
    |nil=>exact h.elim
    |cons o os=>
     rcases List.mem_cons.mp q with rfl |q
     ·exact⟨o,h.1,h'.1⟩
     ·exact ih os h.2 h'.2 q
  exact .inr (this ks os h h' q)
theorem KP.pick {K:KP}{P:Params}(hj:j<5)(ha:At s (K.B x y) (K.PB P k1 k2 ddx ddy tx ty))(nd:(K.B x y).Nodup)(lo:∀a∈K.B x y,817<=a):
  (K.L j x y).Nodup/\(∀a∈K.L j x y,817<=a)/\At s (K.L j x y) (K.P P j k1 k2 ddx ddy tx ty):=by
 have go:∀{j},List.Sublist (K.L j x y) (K.B x y)->At s (K.L j x y) (K.P P j k1 k2 ddx ddy tx ty)->(K.L j x y).Nodup/\(∀a∈K.L j x y,817<=a)/\At s (K.L j x y) (K.P P j k1 k2 ddx ddy tx ty):=fun sl h=>⟨nd.sublist sl,fun a q=>lo a (sl.subset q),h⟩;have tl:=ha.2.2.2.2.2.2.2.2.2.2;refine MG (P:=fun j=>(K.L j x y).Nodup/\(∀a∈K.L j x y,817<=a)/\At s (K.L j x y) (K.P P j k1 k2 ddx ddy tx ty)) ?_ ?_ ?_ ?_ ?_ j hj
 ·exact go (.cons_cons _ (.cons _ (.cons _ (.cons _ (.cons _ (.cons_cons _ (.cons _ (.cons _ (.cons _ (.cons _ (List.Sublist.refl _))))))))))) ⟨ha.get 0 _ _ rfl rfl,ha.get 5 _ _ rfl rfl,tl⟩
 ·exact go (.cons _ (.cons_cons _ (.cons _ (.cons _ (.cons _ (.cons _ (.cons_cons _ (.cons _ (.cons _ (.cons _ (List.Sublist.refl _))))))))))) ⟨ha.get 1 _ _ rfl rfl,ha.get 6 _ _ rfl rfl,tl⟩
 ·exact go (.cons _ (.cons _ (.cons_cons _ (.cons _ (.cons _ (.cons _ (.cons _ (.cons_cons _ (.cons _ (.cons _ (List.Sublist.refl _))))))))))) ⟨ha.get 2 _ _ rfl rfl,ha.get 7 _ _ rfl rfl,tl⟩
 ·exact go (.cons _ (.cons _ (.cons _ (.cons_cons _ (.cons _ (.cons _ (.cons _ (.cons _ (.cons_cons _ (.cons _ (List.Sublist.refl _))))))))))) ⟨ha.get 3 _ _ rfl rfl,ha.get 8 _ _ rfl rfl,tl⟩
 ·exact go (.cons _ (.cons _ (.cons _ (.cons _ (.cons_cons _ (.cons _ (.cons _ (.cons _ (.cons _ (.cons_cons _ (List.Sublist.refl _))))))))))) ⟨ha.get 4 _ _ rfl rfl,ha.get 9 _ _ rfl rfl,tl⟩
theorem GN {K:KP}{P:Params}(Q:dX (K.L j x y) ad s s' kR ((K.P P j k1 k2 ddx ddy tx ty).map some) n):At s' (K.L j x y) (K.P P j k1 k2 ddx ddy tx ty):=
 (Q.ats [0,1,2,3,4,5,6,7,8,9,10,11,12,13,14,15])
theorem aIk {K:KP}(m:Nat)(hm:m<6)(hS:K.S.Ok)(h1:k1<4)(h2:k2<4)(h12:k1≠k2)(hb:mB (mU m) (K.S.z k1 k2)=b)(B:aT w s)(ha:At s (K.B x y) (K.PB w.params k1 k2 ddx ddy tx ty))(nd:(K.B x y).Nodup)(lo:∀a∈K.B x y,817<=a):
  Sem.wp (model PR w) ⟨lL loc cr ck cah K.cw it,none,none,cE loc cr ck cah K.cw p4 p5,none⟩ (richCompare (uG m) (.ref x) (.ref y)) (fun v u s'=>v= .bool (mR m b)/\aH [] s s') (fun u u u=>False) p s:=by
 have hU:mU m<5:=(by decide:∀m,m<6->mU m<5) m hm;obtain⟨nd',lo',ha'⟩:=KP.pick hU ha nd lo;rw[Fast.te9423741818375054981];refine Sem.wp_mono _ _ _ (fun v u s' h=> ?_) (fun e u s' h=>absurd h.1 (by intro q;nomatch q)) _ _ (iX (R:=fun r s'=>r= .ok (.ret (.bool (mR m b)))/\aH [] s s') (enc:=Flow.ret) ?_)
 ·obtain⟨e,h⟩:=h
  injection e with e
  injection e with e
  exact⟨e,h⟩
 have key:aY w=qM w _:=zK rfl;refine tO (fun ad1 tb1=>by rw[key];exact aIi w s.gens.size ad1 tb1 p K hm _ x y k1 k2 ddx ddy tx ty loc cr ck cah it p4 p5) aE B ha' rfl nd' lo' (eY ..) fun ad1 tb1 px s' Q=> ?_;rw[key];have a2:=GN Q;refine bL (hs:=[hM w.params K (mU m) b k1 k2 ddx ddy tx ty 16 0]) (fun ad tb=>by rw[key];exact aIj w s'.gens.size ad tb px s.gens.size ad1 tb1 p K hm _ b x y k1 k2 ddx ddy tx ty loc cr ck cah it p4 p5) (aD (TM hU hS h1 h2 h12 hb (Nat.le_refl _))) (B.ext Q.ext lo') a2 rfl nd' lo' (eY ..) fun ad tb s'' Q2=>⟨rfl,?_⟩;exact(aJ.rest (m:=[]) Q.ext ha' a2).trans (aJ.rest (m:=[]) Q2.ext a2 (GN Q2))
structure SC where
 a:Nat
 l:Array (Option Value)
noncomputable def cV(P:Params)(τ:Nat->Nat)(sc:SC)(ln wr od:Nat):Obj:=⟨fI,none,.dict ⟨[de P sr (τ 0) (.ref sc.a),de P sJ (τ 1) (.ref ln),de P sW (τ 2) (.ref wr),de P xR (τ 3) (.ref od)]⟩ 4,sc.l⟩
noncomputable def lw6(P:Params)(τ:Nat->Nat)(sc:SC)(ln wr od x y:Nat):Obj:=⟨fI,none,.dict ⟨[de P sr (τ 0) (.ref sc.a),de P sJ (τ 1) (.ref ln),de P sW (τ 2) (.ref wr),de P xR (τ 3) (.ref od),de P [111,110,101] (τ 4) (.ref x),de P [116,119,111] (τ 5) (.ref y)]⟩ 6,sc.l⟩
noncomputable def lw7(P:Params)(τ:Nat->Nat)(sc:SC)(ln wr od x y td:Nat):Obj:=⟨fI,none,.dict ⟨[de P sr (τ 0) (.ref sc.a),de P sJ (τ 1) (.ref ln),de P sW (τ 2) (.ref wr),de P xR (τ 3) (.ref od),de P [111,110,101] (τ 4) (.ref x),de P [116,119,111] (τ 5) (.ref y),de P [116,111,108,100] (τ 6) (.ref td)]⟩ 7,sc.l⟩
noncomputable def nM(P:Params)(τ:Nat->Nat)(sc:SC)(ln wr od x y td a b:Nat):Obj:=⟨fI,none,.dict ⟨[de P sr (τ 0) (.ref sc.a),de P sJ (τ 1) (.ref ln),de P sW (τ 2) (.ref wr),de P xR (τ 3) (.ref od),de P [111,110,101] (τ 4) (.ref x),de P [116,119,111] (τ 5) (.ref y),de P [116,111,108,100] (τ 6) (.ref td),de P [97] (τ 7) (.ref a),de P [98] (τ 8) (.ref b)]⟩ 9,sc.l⟩
noncomputable def eI(l:List Stmt)(env:Env):Sem Fin:=bindR (Fast.tw12563942051412417395 l env) fun x=> .pure (.done x)
noncomputable def evT(e:Expr)(env:Env):Sem Fin:=bindR (Fast.tw14044960220447912780 e env) fun x=> .pure (.done (.ret x))
noncomputable def uH(v:Value):Sem Fin:=bindR (Fast.tw9404975358583537561 v) fun x=> .pure (.done (match x with |some v=> .ret v |none=> .next))
noncomputable def TN(e:Expr)(env:Env)(v:Value):Sem Fin:=bindR (Fast.tw17772580674575903948 e env v) fun u=> .pure (.done .next)
noncomputable def BI(l:List Expr):Expr:=match l with
 |e::_=>e
 | []=>default
noncomputable def bV(i:Nat):Expr:=BI (List.drop i (yL (bR (dK (bF dF) 2))))
noncomputable def iO(e:Expr):Expr:=BI (yL e)
noncomputable def fA(j m:Nat):Obj:=⟨.type SL.s15992201931430999065x14,none,.fields ⟨[.int (Int.ofNat j) 0,.int (Int.ofNat m) 0,.int (Int.ofNat 1) 0]⟩,⟨[]⟩⟩
section
noncomputable abbrev T5:=Option (Nat×Nat×Nat×Nat×Nat)
noncomputable def GO(P:Params)(τ:Nat->Nat)(sc:SC)(ln wr od:Nat):T5->Obj
 |none=>cV P τ sc ln wr od
 |some (x,y,td,a,b)=>nM P τ sc ln wr od x y td a b
noncomputable def pX(P:Params)(τ:Nat->Nat)(sc:SC)(ln wr od x y:Nat):T5->Obj
 |none=>lw6 P τ sc ln wr od x y
 |some (_,_,td,a,b)=>nM P τ sc ln wr od x y td a b
noncomputable def xA(P:Params)(τ:Nat->Nat)(sc:SC)(ln wr od x y td:Nat):T5->Obj
 |none=>lw7 P τ sc ln wr od x y td
 |some (_,_,_,a,b)=>nM P τ sc ln wr od x y td a b
noncomputable def GP(o:T5)(a b:Nat->Nat):Nat->Nat:=match o with
 |none=>a
 |some _=>b
noncomputable def xB(ρ:Nat->Nat)(a b c d e:Nat):Obj:=jW sa s7 13 ρ a b c d e
section
variable(w:World)(g₀:Nat)(ad tb:Nat->Nat)(p:Pos)(loc cr ck cah cw it:Nat)(p4 p5:Pos)(sc:SC)(ln wr od x y td:Nat)(o:T5)(τ:Nat->Nat)
theorem aIl(c ns md fi fid bt t0 t1 t2 sl fl fg fe fle fge st ca cb cc cd ce tz:Nat)(τ2 ρ:Nat->Nat)(k k2:Nat):
 aW w g₀ [loc,ck,c,ns,md,fi,fid] ad tb [GF w.params τ2 ρ (Int.ofNat k) (TR.l tz) bt t0 t1 t2 sl fl fg fe fle fge st ca cb cc cd ce 2 3 4 5 6 7 0,aI yQ (Int.ofNat (k+3)) [AV.int (Int.ofNat k) (TR.l tz),AV.int (Int.ofNat 3) (TR.k 1)] 9 2,aI lV (Int.ofNat k2) [AV.int (Int.ofNat (k+3)) (TR.k 2),AV.int (Int.ofNat 4) (TR.k 3)] 9 4,GF w.params τ2 ρ (Int.ofNat k2) (TR.k 4) bt t0 t1 t2 sl fl fg fe fle fge st ca cb cc cd ce 2 3 4 5 6 9 5] 43 0x1001400c00e8008004004005003003002001 (lL loc cr ck cah cw it) (eI (List.take 2 (bF dF)) (aU loc cr ck cah cw)) (cE loc cr ck cah cw p4 p5) p 303 [GO w.params τ sc ln c od o,aN (some (.int (Int.ofNat k) tz)),bY c ns bt t0 t1,iT w.params τ2 sl fi fl fg fe fle fge st md,dE c t2,iM fid,xB ρ ca cb cc cd ce] [0,1,2,3,4,5,6,7,8,9,10] (.pure (.done .next)) [pX w.params (GP o (bX (bX τ 4 (aC tb 0)) 5 (aC tb 5)) τ) sc ln c od (ad 8+817) (ad 10+817) o,aN (some (.int (Int.ofNat k) tz)),bY c ns bt t0 t1,iT w.params τ2 sl fi fl fg fe fle fge st md,dE c t2,iM fid,xB ρ ca cb cc cd ce,nJ,cZ c (ad 7+817) (.ofNat k) tz,nJ,cZ c (ad 9+817) (.ofNat k2) (aC tb 4)] 11:=by
 rcases o with _ |⟨x0,y0,td0,a0,b0⟩ <;> (unfold aW;kernel_rfl)
theorem TO (hi:i<6)(b:Bool):
 aW w g₀ [loc] ad tb [] 3 1 (lL loc cr ck cah cw it) (evT ((match b with |true=>fW |false=>iO) (bV i)) (aU loc cr ck cah cw)) (cE loc cr ck cah cw p4 p5) p 303 [pX w.params τ sc ln wr od x y o] [0] (.pure (.done (.ret (.ref (match b with |true=>x |false=>y))))) [pX w.params τ sc ln wr od x y o] 1:=by
 match i,hi with
 |0,_ |1,_ |2,_ |3,_ |4,_ |5,_=>cases b <;> rcases o with _ |⟨x0,y0,td0,a0,b0⟩ <;> (unfold aW;kernel_rfl)
theorem aIm:
 aW w g₀ [loc] ad tb [] 8 8194 (lL loc cr ck cah cw it) (TN (BI (KD (dK (bF dF) 2))) (aU loc cr ck cah cw) (.ref td)) (cE loc cr ck cah cw p4 p5) p 303 [pX w.params τ sc ln wr od x y o] [0] (.pure (.done .next)) [xA w.params (GP o (bX τ 6 (aC tb 0)) τ) sc ln wr od x y td o] 1:=by
 rcases o with _ |⟨x0,y0,td0,a0,b0⟩ <;> (unfold aW;kernel_rfl)
end
end
theorem aIn(w:World)(g₀:Nat)(ad tb:Nat->Nat)(bl:List (Code×Pos))(p:Pos)(loc cr ck cah cw it:Nat)(b1 b2 b3 b4 b5 b6:Bool)(p4 p5:Pos):
 aW w g₀ [] ad tb [] 2 0 (lL loc cr ck cah cw it) (bindR (Fast.tw2244487426110161322 [.bool b1,.bool b2,.bool b3,.bool b4,.bool b5,.bool b6]) fun x=> .pure (.done (.ret x))) (cE loc cr ck cah cw p4 p5) p 303 [] [0] (.pure (.done (.ret (.ref (bG [] ad 0))))) [aA [.bool b1,.bool b2,.bool b3,.bool b4,.bool b5,.bool b6] 0] 1:=by unfold aW;kernel_rfl
section
theorem toE:bR (dK (bF dF) 2)= .List [bV 0,bV 1,bV 2,bV 3,bV 4,bV 5] (bR (dK (bF dF) 2)).pos:=by kernel_rfl
theorem aIo:bV 0= .Compare (fW (bV 0)) [.Lt] [iO (bV 0)] (bV 0).pos:=by kernel_rfl
theorem aIp:bV 1= .Compare (fW (bV 1)) [.LtE] [iO (bV 1)] (bV 1).pos:=by kernel_rfl
theorem aIq:bV 2= .Compare (fW (bV 2)) [.Eq] [iO (bV 2)] (bV 2).pos:=by kernel_rfl
theorem aIr:bV 3= .Compare (fW (bV 3)) [.NotEq] [iO (bV 3)] (bV 3).pos:=by kernel_rfl
theorem aIs:bV 4= .Compare (fW (bV 4)) [.GtE] [iO (bV 4)] (bV 4).pos:=by kernel_rfl
theorem aIt:bV 5= .Compare (fW (bV 5)) [.Gt] [iO (bV 5)] (bV 5).pos:=by kernel_rfl
theorem bm0:behindInMarks .Lt (iO (bV 0))=false:=by kernel_rfl
theorem bm1:behindInMarks .LtE (iO (bV 1))=false:=by kernel_rfl
theorem bm2:behindInMarks .Eq (iO (bV 2))=false:=by kernel_rfl
theorem bm3:behindInMarks .NotEq (iO (bV 3))=false:=by kernel_rfl
theorem bm4:behindInMarks .GtE (iO (bV 4))=false:=by kernel_rfl
theorem bm5:behindInMarks .Gt (iO (bV 5))=false:=by kernel_rfl
theorem aH.refl(s:Shared):aH [] s s:=⟨fun u u h u=>h,Nat.le_refl _,Nat.le_refl _,rfl,rfl,rfl⟩
theorem At.extB {os:List Obj}(h:At s as os)(X:aH [] s s'):At s' as os:=h.keep fun y o u q=>X.frame y o q (by simp)
def nN(w:World)(Γ:PySem.Ctx)(m:Sem Value)(v:Value)(s:Shared):Prop:=∀p,Sem.wp (model PR w) Γ m (fun u z s'=>u=v/\aH [] s s') (fun z z z=>False) p s
section
variable{w:World}{s:Shared}{Γ:PySem.Ctx}
theorem aIu {op:CmpOp}{e l r:Expr}{pos:Pos}{x y v:Value}(he:e= .Compare l [op] [r] pos)(hm:behindInMarks op r=false)(ho:compareOp op x y=richCompare op x y)(hl:nN w Γ (eval l env) x s)(hr:∀s',aH [] s s'->nN w Γ (eval r env) y s')(hc:∀s',aH [] s s'->nN w Γ (richCompare op x y) v s'):nN w Γ (eval e env) v s:=by
 intro p;rw[he,eval_Compare1,markedBehindIn_of_false hm,Sem.wp_bind'];refine Sem.wp_mono _ _ _ (fun u p1 s1 h1=> ?_) (fun z z z h=>h) _ _ (hl p);obtain⟨rfl,X1⟩:=h1;rw[Sem.wp_bind',Sem.wp_holding];refine Sem.wp_mono _ _ _ (fun u2 p2 s2 h2=> ?_) (fun z z z h=>h) _ _ (hr s1 X1 p1);obtain⟨rfl,X2⟩:=h2;rw[Sem.wp_bind',Sem.wp_cmd_standAt,Sem.wp_operate,ho];refine Sem.wp_mono _ _ _ (fun u3 p3 s3 h3=> ?_) (fun z z z h=>h) _ _ (hc s2 (X1.trans X2) _);exact⟨h3.1,(X1.trans X2).trans h3.2⟩
theorem uI {x:Sem Value}{rest:List (Bool×Sem Value)}{Q:List Value->Pos->Shared->Prop}{E:Value->Pos->Shared->Prop}(h:Sem.wp (model PR w) Γ x (fun v p' s'=>Sem.wp (model PR w) Γ (spliced rest) (fun vs p'' s''=>Q (v::vs) p'' s'') E p' s') E p s):
  Sem.wp (model PR w) Γ (spliced ((false,x)::rest)) Q E p s:=by
 rw[spliced,Sem.wp_bind'];refine Sem.wp_mono _ _ _ (fun u p1 s1 h1=> ?_) (fun z z z h=>h) _ _ h;simp only[Bool.false_eq_true,if_false];rw[Sem.wp_bind'];show Sem.wp _ _ (holding [u] (spliced rest)>>= _) _ _ p1 s1;rw[Sem.wp_bind',Sem.wp_holding];exact Sem.wp_mono _ _ _ (fun u p1 s1 h1=>h1) (fun z z z h=>h) _ _ h1
end
end
section
noncomputable abbrev mK(loc cr ck cah cw it:Nat)(p4 p5:Pos):PySem.Ctx:=⟨lL loc cr ck cah cw it,none,none,cE loc cr ck cah cw p4 p5,none⟩
section
variable{w:World}{s:Shared}{Γ:PySem.Ctx}
theorem TP{m:Sem Value}{v:Value}(h:∀p,∃r s',Runs (model PR w) Γ p (bindR m fun x=> .pure (.done (.ret x))) [] s (.ret r) s'/\(r= .ok (.ret v)/\aH [] s s')):nN w Γ m v s:=fun p=>
 Sem.wp_mono _ _ _ (fun u k s' q=>by
  obtain⟨q1,q2⟩:=q;injection q1 with q1
  injection q1 with q1
  exact⟨q1,q2⟩) (fun e k s' q=>absurd q.1 (by intro z;nomatch z)) _ _ (iX (R:=fun r s'=>r= .ok (.ret v)/\aH [] s s') (enc:=Flow.ret) (h p))
theorem TQ {o:Obj}(X:aJ [a] s s')(h:s.heap.get? a=some o)(h':s'.heap.get? a=some o):aH [] s s':=X.dropB fun y hy=>by
 cases hy with
 |head=>exact .inr ⟨o,h,h'⟩
 |tail _ q=>nomatch q
end
theorem nms {sc:SC}{o:T5}(B:aT w s)(h:s.heap.get? loc=some (pX w.params τ sc ln wr od x y o))(lo:817<=loc)(i:Nat)(hi:i<6):nN w (mK loc cr ck cah cw it p4 p5) (eval (fW (bV i)) (aU loc cr ck cah cw)) (.ref x) s/\nN w (mK loc cr ck cah cw it p4 p5) (eval (iO (bV i)) (aU loc cr ck cah cw)) (.ref y) s:=by
 constructor <;> rw[Fast.te14044960220447912780]
 ·exact TP fun p=>bL (R:=fun r s'=>r= .ok (.ret (.ref x))/\aH [] s s') (fun ad tb=>TO w _ ad tb p loc cr ck cah cw it p4 p5 sc ln wr od x y o τ hi true) aE B ⟨h,trivial⟩ rfl (by simp) (aD lo) (eY ..) fun ad tb s' Q=>⟨rfl,TQ Q.ext h (Q.at_ 0 0 _ rfl rfl)⟩
 ·exact TP fun p=>bL (R:=fun r s'=>r= .ok (.ret (.ref y))/\aH [] s s') (fun ad tb=>TO w _ ad tb p loc cr ck cah cw it p4 p5 sc ln wr od x y o τ hi false) aE B ⟨h,trivial⟩ rfl (by simp) (aD lo) (eY ..) fun ad tb s' Q=>⟨rfl,TQ Q.ext h (Q.at_ 0 0 _ rfl rfl)⟩
theorem aIv {K:KP}{D:Obj}(hS:K.S.Ok)(h1:k1<4)(h2:k2<4)(h12:k1≠k2)(B:aT w s)(ha:At s (K.B x y) (K.PB w.params k1 k2 ddx ddy tx ty))(nd:(K.B x y).Nodup)(lo:∀a∈K.B x y,817<=a)(hD:s.heap.get? loc=some D)(hN:∀s,aT w s->s.heap.get? loc=some D->∀i,i<6->nN w (mK loc cr ck cah K.cw it p4 p5) (eval (fW (bV i)) (aU loc cr ck cah K.cw)) (.ref x) s/\nN w (mK loc cr ck cah K.cw it p4 p5) (eval (iO (bV i)) (aU loc cr ck cah K.cw)) (.ref y) s):
  Sem.wp (model PR w) (mK loc cr ck cah K.cw it p4 p5) (eval (bR (dK (bF dF) 2)) (aU loc cr ck cah K.cw)) (fun u v s'=>∃l,u= .ref l/\aH [] s s'/\s.heap.objs.size<=l/\s'.heap.get? l=some (aA [.bool (decide (K.S.z k1 k2<0)),.bool (decide (K.S.z k1 k2<=0)),.bool ((K.S.z k1 k2 == 0)),.bool (!(K.S.z k1 k2 == 0)),.bool (decide (K.S.z k1 k2>=0)),.bool (decide (K.S.z k1 k2>0))] 0)) (fun v v v=>False) p s:=by
 have gg:∀(i m:Nat) (hi:i<6) (hm:m<6) (he:bV i= .Compare (fW (bV i)) [uG m] [iO (bV i)] (bV i).pos) (hm':behindInMarks (uG m) (iO (bV i))=false) (ho:compareOp (uG m) (.ref x) (.ref y)=richCompare (uG m) (.ref x) (.ref y)),∀s',aH [] s s'->
   nN w (mK loc cr ck cah K.cw it p4 p5) (eval (bV i) (aU loc cr ck cah K.cw)) (.bool (mR m (mB (mU m) (K.S.z k1 k2)))) s':=fun i m hi hm he hm' ho s' X=>
  aIu he hm' ho (hN s' (B.extB X aE) (X.frame _ _ hD (by simp)) i hi).1 (fun s2 X2=>(hN s2 (B.extB (X.trans X2) aE) ((X.trans X2).frame _ _ hD (by simp)) i hi).2) fun s2 X2 p=>aIk m hm hS h1 h2 h12 rfl (B.extB (X.trans X2) aE) (ha.extB (X.trans X2)) nd lo
 have g0:=gg 0 0 dT dT aIo bm0 rfl;have g1:=gg 1 3 dT dT aIp bm1 rfl;have g2:=gg 2 2 dT dT aIq bm2 rfl;have g3:=gg 3 5 dT dT aIr bm3 rfl;have g4:=gg 4 4 dT dT aIs bm4 rfl;have g5:=gg 5 1 dT dT aIt bm5 rfl;rw[toE,arm_eval_List,Sem.wp_bind',Sem.wp_cmd_standAt,Sem.wp_bind'];show Sem.wp _ _ (spliced [(false,eval (bV 0) _),(false,eval (bV 1) _),(false,eval (bV 2) _),(false,eval (bV 3) _),(false,eval (bV 4) _),(false,eval (bV 5) _)]) _ _ _ _;refine uI (Sem.wp_mono _ _ _ (fun u0 p10 s0 q0=> ?_) (fun v v v h=>h) _ _ (g0 s (aH.refl s) _));obtain⟨rfl,X0⟩:=q0;have Y0:=(aH.refl s).trans X0;refine uI (Sem.wp_mono _ _ _ (fun u1 p11 s1 q1=> ?_) (fun v v v h=>h) _ _ (g1 s0 Y0 _));obtain⟨rfl,X1⟩:=q1;have Y1:=Y0.trans X1;refine uI (Sem.wp_mono _ _ _ (fun u2 p12 s2 q2=> ?_) (fun v v v h=>h) _ _ (g2 s1 Y1 _));obtain⟨rfl,X2⟩:=q2;have Y2:=Y1.trans X2;refine uI (Sem.wp_mono _ _ _ (fun u3 p13 s3 q3=> ?_) (fun v v v h=>h) _ _ (g3 s2 Y2 _));obtain⟨rfl,X3⟩:=q3;have Y3:=Y2.trans X3;refine uI (Sem.wp_mono _ _ _ (fun u4 p14 s4 q4=> ?_) (fun v v v h=>h) _ _ (g4 s3 Y3 _));obtain⟨rfl,X4⟩:=q4;have Y4:=Y3.trans X4;refine uI (Sem.wp_mono _ _ _ (fun u5 p15 s5 q5=> ?_) (fun v v v h=>h) _ _ (g5 s4 Y4 _));obtain⟨rfl,X5⟩:=q5;have Y5:=Y4.trans X5;show Sem.wp _ _ (newList _) _ _ _ _;rw[Fast.te2244487426110161322]
 refine Sem.wp_mono _ _ _ (fun u v s' q=> ?_) (fun e v s' q=> ?_) _ _ (iX (R:=fun r s'=>∃l,r= .ok (.ret (.ref l))/\aH [] s5 s'/\s5.heap.objs.size<=l/\s'.heap.get? l=some (aA [.bool (decide (K.S.z k1 k2<0)),.bool (decide (K.S.z k1 k2<=0)),.bool ((K.S.z k1 k2 == 0)),.bool (!(K.S.z k1 k2 == 0)),.bool (decide (K.S.z k1 k2>=0)),.bool (decide (K.S.z k1 k2>0))] 0)) (enc:=Flow.ret)
  (bL (fun ad tb=>aIn w _ ad tb [] _ loc cr ck cah K.cw it _ _ _ _ _ _ p4 p5) aE (B.extB Y5 aE) trivial rfl List.nodup_nil aE (eY ..) fun ad tb s' Q=>⟨_,rfl,Q.ext.dropB (fun v q=>nomatch q),(Q.new 0 (Nat.zero_le _) dT).1,Q.at_ 0 0 _ rfl rfl⟩))
 ·obtain⟨l,q1,q2,q3,q4⟩:=q
  injection q1 with q1
  injection q1 with q1
  exact⟨l,q1,Y5.trans q2,Nat.le_trans Y5.size q3,q4⟩
 ·obtain⟨l,q1,_⟩:=q
  exact absurd q1 (by intro z;nomatch z)
end
section
noncomputable def oJ:Expr:=BI (KD (dK (bF dF) 2))
theorem aIw:oJ= .Name (yM oJ) oJ.pos:=by kernel_rfl
theorem aIx:dK (bF dF) 2= .Assign [oJ] (bR (dK (bF dF) 2)) (yK (dK (bF dF) 2)):=by kernel_rfl
theorem aIy(loc cr ck cah cw:Nat):swapsWith (bR (dK (bF dF) 2)) (some oJ) (yK (dK (bF dF) 2)).line (aU loc cr ck cah cw)=pure false:=by kernel_rfl
theorem aIz:bF dF=List.take 2 (bF dF)++[dK (bF dF) 2]++List.drop 3 (bF dF):=by kernel_rfl
section
variable{w:World}{s:Shared}{Γ:PySem.Ctx}
theorem BJ {l1 l2:List Stmt}{Q:Flow->Pos->Shared->Prop}{E:Value->Pos->Shared->Prop}:∀{p:Pos} {s:Shared},
  Sem.wp (model PR w) Γ (execs l1 env) (fun f p' s'=>match f with | .next=>Sem.wp (model PR w) Γ (execs l2 env) Q E p' s' |f=>Q f p' s') E p s->Sem.wp (model PR w) Γ (execs (l1++l2) env) Q E p s:=by
 induction l1 with
 |nil=>intro p s h;exact h
 |cons a l1 ih=>
  intro p s h;rw[List.cons_append,execs_cons,Sem.wp_bind'];rw[execs_cons,Sem.wp_bind'] at h;refine Sem.wp_mono _ _ _ (fun f p1 s1 h1=> ?_) (fun u u u h=>h) _ _ h;cases f with
  |next=>exact ih h1
  |brk=>exact h1
  |cont=>exact h1
  |ret v=>exact h1
theorem aJ0 {a:Stmt}{Q:Flow->Pos->Shared->Prop}{E:Value->Pos->Shared->Prop}(h:Sem.wp (model PR w) Γ (exec a env) Q E p s):Sem.wp (model PR w) Γ (execs [a] env) Q E p s:=by
 rw[execs_cons,Sem.wp_bind'];refine Sem.wp_mono _ _ _ (fun f p1 s1 h1=> ?_) (fun u u u h=>h) _ _ h;cases f <;> exact h1
theorem aJ1 {Q:Flow->Pos->Shared->Prop}{E:Value->Pos->Shared->Prop}(h:∀p,Sem.wp (model PR w) Γ (eval (bR (dK (bF dF) 2)) (aU loc cr ck cah cw)) (fun v p' s'=>Sem.wp (model PR w) Γ (assign oJ (aU loc cr ck cah cw) v) (fun _ p' s'=>Q .next p' s') E p' s') E p s):
  Sem.wp (model PR w) Γ (exec (dK (bF dF) 2) (aU loc cr ck cah cw)) Q E p s:=by
 have hs:=aIy loc cr ck cah cw;rw[aIx];generalize hv:bR (dK (bF dF) 2)=v at h hs ⊢;generalize hp:yK (dK (bF dF) 2)=ps at hs ⊢;rw[aIw] at h hs ⊢;generalize yM oJ=x at h hs ⊢;generalize oJ.pos=px at h hs ⊢;rw[exec_Assign_Name (hs:=hs),Sem.wp_bind',Sem.wp_cmd_standAt,Sem.wp_bind'];refine Sem.wp_mono _ _ _ (fun u p1 s1 h1=> ?_) (fun _ _ _ h=>h) _ _ (h _);have e:assign (.Name x px) (aU loc cr ck cah cw) u=(do standAt px;bindName (aU loc cr ck cah cw) x u):=rfl;rw[e,Sem.wp_bind',Sem.wp_cmd_standAt] at h1;rw[Sem.wp_bind',Sem.wp_cmd_standAt,Sem.wp_bind'];exact h1
end
end
section
def TS(c loc k k2 tz:Nat)(D:(Nat->Nat)->Nat->Nat->Obj)(s s':Shared):Prop:=
 ∃x y ddx ddy ty τ',aH [loc] s s'/\s'.heap.get? loc=some (D τ' x y)/\s'.heap.get? x=some (cZ c ddx (.ofNat k) tz)/\s'.heap.get? y=some (cZ c ddy (.ofNat k2) ty)/\s.heap.objs.size<=x/\s.heap.objs.size<=y/\x≠y
theorem lM {m:Sem Flow}{P:Shared->Prop}(h:∃r s',Runs (model PR w) Γ p (bindR m fun x=> .pure (.done x)) [] s (.ret r) s'/\(r= .ok .next/\P s')):
  Sem.wp (model PR w) Γ m (fun f v s'=>f= .next/\P s') (fun v v v=>False) p s:=
 Sem.wp_mono _ _ _ (fun u v s' q=>by
  obtain⟨q1,q2⟩:=q;injection q1 with q1
  exact⟨q1,q2⟩) (fun e v s' q=>absurd q.1 (by intro z;nomatch z)) _ _ (iX (R:=fun r s'=>r= .ok .next/\P s') (enc:=fun x=>x) h)
section
variable{w:World}{s:Shared}{p:Pos}
theorem TU {kt:KT}{a b c:Int}{t u:TR}(h:a+b=c)(hl:bQ n i [AV.int a t,AV.int b u]=true):aG (model prog w) kt (aI yQ c [AV.int a t,AV.int b u] n i):=
 qK _ aAm F.entry_int_add hl fun A K=>by subst h;exact AutoIntG4.int___add___int_int_0 a (t.ev K) b (u.ev K)
theorem aJ2 {ns:Nat}{sc:SC}{bt st:Nat}{o:T5}{τ2:Nat->Nat}(h2:(k+3) % 4=k2)(B:aT w s)(ha:At s [loc,ck,c,ns,md,fi,fid] [GO w.params τ sc ln c od o,aN (some (.int (Int.ofNat k) tz)),bY c ns bt t0 t1,iT w.params τ2 sl fi fl fg fe fle fge st md,dE c t2,iM fid,xB ρ ca cb cc cd ce])(nd:[loc,ck,c,ns,md,fi,fid].Nodup)(lo:∀a∈[loc,ck,c,ns,md,fi,fid],817<=a):
  Sem.wp (model PR w) (mK loc cr ck cah cw it p4 p5) (execs (List.take 2 (bF dF)) (aU loc cr ck cah cw)) (fun f u s'=>f= .next/\TS c loc k k2 tz (fun τ' x y=>pX w.params τ' sc ln c od x y o) s s') (fun u u u=>False) p s:=by
 rw[Fast.te12563942051412417395]
 exact lM (bL (R:=fun r s'=>r= .ok .next/\TS c loc k k2 tz (fun τ' x y=>pX w.params τ' sc ln c od x y o) s s') (fun ad tb=>aIl w _ ad tb p loc cr ck cah cw it p4 p5 sc ln od o τ c ns md fi fid bt t0 t1 t2 sl fl fg fe fle fge st ca cb cc cd ce tz τ2 ρ k k2)
  (aB (SZ dT dT dT dT dT dT rfl) (aB (TU rfl rfl) (aB (nZ (by subst h2;rfl) dT rfl) (aD (SZ dT dT dT dT dT dT rfl)))))
  B ha rfl nd lo (eY ..) fun ad tb s' Q=>⟨rfl,ad 8+817,ad 10+817,ad 7+817,ad 9+817,aC tb 4,_,aJ.rest (m:=[loc]) Q.ext ha.2 (Q.ats [1,2,3,4,5,6]),Q.at_ 0 0 _ rfl rfl,Q.at_ 8 8 _ rfl rfl,Q.at_ 10 10 _ rfl rfl,(Q.new 8 (Nat.le_of_ble_eq_true rfl) dT).1,(Q.new 10 (Nat.le_of_ble_eq_true rfl) dT).1,fun q=>absurd (Q.inj 8 10 dT dT q) dT⟩)
end
end
section
open MeetsSeq MeetsSeq3 SeqAt
noncomputable def jZ(xs ys:List (Int×Nat)):Bool:=decide (xs.map (·.1)=ys.map (·.1))
noncomputable def pY(xs ys:List (Int×Nat))(j:Nat):Bool:=match xs[j]?,ys[j]? with
 |some x,some y=>x.1 == y.1
 |_,_=>false
theorem TV {ys:List (Int×Nat)}(h:xs.length=ys.length):(List.range xs.length).all (pY xs ys)=jZ xs ys:=by
 unfold jZ;rw[Bool.eq_iff_iff,List.all_eq_true,decide_eq_true_iff];constructor
 ·intro q
  apply List.ext_getElem?;intro i;rw[List.getElem?_map,List.getElem?_map]
  by_cases hi:i<xs.length
  ·have z:=q i (List.mem_range.mpr hi)
   unfold pY at z;rw[List.getElem?_eq_getElem hi,List.getElem?_eq_getElem (h▸hi)] at z ⊢;simpa using z
  ·rw[List.getElem?_eq_none (by lia),List.getElem?_eq_none (by lia)]
 ·intro q i hi
  have hi:=List.mem_range.mp hi;have z:=congrArg (·[i]?) q;simp only[List.getElem?_map] at z;unfold pY;rw[List.getElem?_eq_getElem hi,List.getElem?_eq_getElem (h▸hi)] at z ⊢;simpa using z
theorem lN(xs:List (Int×Nat)):(⟨aR xs⟩:Array Value).size=xs.length:=pV xs
theorem TX {ys:List (Int×Nat)}(j:Nat)(h1:j<(⟨aR xs⟩:Array Value).size)(h2:j<(⟨aR ys⟩:Array Value).size):EqGives (⟨aR xs⟩:Array Value)[j] (⟨aR ys⟩:Array Value)[j] (pY xs ys j):=by
 have l1:j<xs.length:=by rw[lN] at h1;exact h1
 have l2:j<ys.length:=by rw[lN] at h2;exact h2
 have e1:(⟨aR xs⟩:Array Value)[j]= .int xs[j].1 xs[j].2:=by
  have:=wX xs j;rw[List.getElem?_eq_getElem l1] at this;have h3:j<(aR xs).length:=by rw[pV];exact l1
  rw[List.getElem?_eq_getElem h3] at this;exact Option.some.inj this
 have e2:(⟨aR ys⟩:Array Value)[j]= .int ys[j].1 ys[j].2:=by
  have:=wX ys j;rw[List.getElem?_eq_getElem l2] at this;have h3:j<(aR ys).length:=by rw[pV];exact l2
  rw[List.getElem?_eq_getElem h3] at this;exact Option.some.inj this
 rw[e1,e2];unfold pY;rw[List.getElem?_eq_getElem l1,List.getElem?_eq_getElem l2];exact EqGives.int _ _ _ _
section
variable (l b n n2:Nat)(xs ys:List (Int×Nat))
theorem aJ3:
  Meets (Builtin.«list.__eq__» ⟨[.ref l,.ref b],[]⟩)
   (fun u R s=>lI l xs n s/\lI b ys n2 s/\
    R (.ok (.ret (.bool (jZ xs ys)))) s):=by
 by_cases h:xs.length=ys.length
 ·have z:=list_eq l b ⟨aR xs⟩ ⟨aR ys⟩ n n2 (by rw[lN,lN];exact h) (pY xs ys) TX
  rw[lN,TV h] at z;exact z
 ·have e:jZ xs ys=false:=by
   unfold jZ;rw[decide_eq_false_iff_not];intro q;exact h (by simpa using congrArg List.length q)
  rw[e];exact list_eq_lengthsAt l b ⟨aR xs⟩ ⟨aR ys⟩ n n2 none none #[] #[] (by rw[lN,lN];simpa using h)
theorem aJ4:
  Meets (Builtin.«list.__ne__» ⟨[.ref l,.ref b],[]⟩)
   (fun u R s=>lI l xs n s/\lI b ys n2 s/\
    R (.ok (.ret (.bool (!(jZ xs ys))))) s):=by
 by_cases h:xs.length=ys.length
 ·have z:=list_neAt l b ⟨aR xs⟩ ⟨aR ys⟩ n n2 none none #[] #[] (by rw[lN,lN];exact h) (pY xs ys)
  have e:(List.range (⟨aR xs⟩:Array Value).size).all (pY xs ys)=jZ xs ys:=by rw[lN,TV h]
  rw[e] at z;intro prog w A R s q;exact z prog w A R s ⟨q.1,q.2.1,fun j h1 h2=>(TX j h1 h2).at _ _,q.2.2⟩
 ·have e:jZ xs ys=false:=by
   unfold jZ;rw[decide_eq_false_iff_not];intro q;exact h (by simpa using congrArg List.length q)
  rw[e];exact list_ne_lengthsAt l b ⟨aR xs⟩ ⟨aR ys⟩ n n2 none none #[] #[] (by rw[lN,lN];simpa using h)
end
section
variable{prog:Program}{w:World}{kt:KT}
noncomputable def qW(id:String)(b:Bool)(j1 j2:Nat)(va vb:List Value)(e1 e2 n i:Nat):HF:=fun A K=>⟨.builtin id ⟨[.ref (A j1),.ref (A j2)],[]⟩,[(j1,aA va e1),(j2,aA vb e2)],[],[],.ok (.ret (.bool b)),0,n,i,900,none⟩
theorem uJ {B:Builtin}(he:entryFor table id=some B){f:List (Int×Nat)->List (Int×Nat)->Bool}(hm:∀(l b n n2:Nat) (xs ys:List (Int×Nat)),Meets (B ⟨[.ref l,.ref b],[]⟩) (fun u R s=>lI l xs n s/\lI b ys n2 s/\R (.ok (.ret (.bool (f xs ys)))) s)){ys:List (Int×Nat)}(h:f xs ys=b)(h1:j1<n)(h2:j2<n):aG (model prog w) kt (qW id b j1 j2 (aR xs) (aR ys) e1 e2 n i):=by
 subst h;refine zU (B:=B) he (fun A K=>[.ref (A j1),.ref (A j2)]) (fun u u=>[(j1,aA (aR xs) e1),(j2,aA (aR ys) e2)]) (fun u u=> .bool (f xs ys)) n i ?_ (fun u u u u u u=>rfl) (fun u u u u u u=>rfl) fun A K=> ?_
 ·intro A K A' K' a1 a2
  show[Value.ref (A' j1),.ref (A' j2)]=[Value.ref (A j1),.ref (A j2)];rw[a1 j1 h1,a1 j2 h2]
 ·intro prog w A' R s q
  exact hm (A j1) (A j2) e1 e2 xs ys prog w A' R s ⟨q.1 (j1,aA (aR xs) e1) (.head _),q.1 (j2,aA (aR ys) e2) (.tail _ (.head _)),q.2⟩
section
variable{b:Bool}{j1 j2:Nat}{xs ys:List (Int×Nat)}{e1 e2 n i:Nat}
noncomputable def TY:Bool->Nat->Nat->List Value->List Value->Nat->Nat->Nat->Nat->HF:=qW MZ
theorem aJ5(h:cB .Lt (sL xs ys)=b):j1<n->j2<n->aG (model prog w) kt (TY b j1 j2 (aR xs) (aR ys) e1 e2 n i):=uJ (by rw[<-aB9];exact F.entry_list_lt) (f:=fun xs ys=>cB .Lt (sL xs ys)) (fun u u u u u u=>aHl) h
noncomputable def BK:Bool->Nat->Nat->List Value->List Value->Nat->Nat->Nat->Nat->HF:=qW MX
theorem GQ(h:cB .LtE (sL xs ys)=b):j1<n->j2<n->aG (model prog w) kt (BK b j1 j2 (aR xs) (aR ys) e1 e2 n i):=uJ (by rw[<-aB8];exact F.entry_list_le) (f:=fun xs ys=>cB .LtE (sL xs ys)) (fun u u u u u u=>aHm) h
noncomputable def TZ:Bool->Nat->Nat->List Value->List Value->Nat->Nat->Nat->Nat->HF:=qW NB
theorem aJ6(h:jZ xs ys=b):j1<n->j2<n->aG (model prog w) kt (TZ b j1 j2 (aR xs) (aR ys) e1 e2 n i):=uJ (by rw[<-aBa];exact F.entry_list_eq) aJ3 h
noncomputable def GR:Bool->Nat->Nat->List Value->List Value->Nat->Nat->Nat->Nat->HF:=qW FM
theorem UA(h:(!(jZ xs ys))=b):j1<n->j2<n->aG (model prog w) kt (GR b j1 j2 (aR xs) (aR ys) e1 e2 n i):=uJ (by rw[<-RV];exact F.entry_list_ne) aJ4 h
noncomputable def UB:Bool->Nat->Nat->List Value->List Value->Nat->Nat->Nat->Nat->HF:=qW SA
theorem aJ7(h:cB .GtE (sL xs ys)=b):j1<n->j2<n->aG (model prog w) kt (UB b j1 j2 (aR xs) (aR ys) e1 e2 n i):=uJ (by rw[<-aG5];exact F.entry_list_ge) (f:=fun xs ys=>cB .GtE (sL xs ys)) (fun u u u u u u=>aHo) h
noncomputable def UC:Bool->Nat->Nat->List Value->List Value->Nat->Nat->Nat->Nat->HF:=qW RY
theorem aJ8(h:cB .Gt (sL xs ys)=b):j1<n->j2<n->aG (model prog w) kt (UC b j1 j2 (aR xs) (aR ys) e1 e2 n i):=uJ (by rw[<-aG4];exact F.entry_list_gt) (f:=fun xs ys=>cB .Gt (sL xs ys)) (fun u u u u u u=>aHn) h
end
end
end
noncomputable def qX(z:Int):List Value:=[.bool (decide (z<0)),.bool (decide (z<=0)),.bool (z == 0),.bool (!(z == 0)),.bool (decide (z>=0)),.bool (decide (z>0))]
theorem aJ9(w:World)(g₀:Nat)(ad tb:Nat->Nat)(p:Pos)(loc cr ck cah cw it:Nat)(p4 p5:Pos)(sc:SC)(ln wr od x y td:Nat)(o:T5)(τ:Nat->Nat){z:Int}(hz:z= -1\/z=0\/z=1)(rl ra rb tz er ea eb k k2:Nat)(rvs va vb:List Value):
 aW w g₀ [loc,cr,ck,td,rl,ra,rb] ad tb [lX (Value.ref ra) 4 (Int.ofNat k) rvs er (TR.l tz) 7 0,aI yQ (Int.ofNat (k+3)) [AV.int (Int.ofNat k) (TR.l tz),AV.int (Int.ofNat 3) (TR.k 1)] 7 2,aI lV (Int.ofNat k2) [AV.int (Int.ofNat (k+3)) (TR.k 2),AV.int (Int.ofNat 4) (TR.k 3)] 7 4,lX (Value.ref rb) 4 (Int.ofNat k2) rvs er (TR.k 4) 7 5,
   TY (decide (z<0)) 5 6 va vb ea eb 7 6,BK (decide (z<=0)) 5 6 va vb ea eb 7 6,TZ (z == 0) 5 6 va vb ea eb 7 6,GR (!(z == 0)) 5 6 va vb ea eb 7 6,UB (decide (z>=0)) 5 6 va vb ea eb 7 6,UC (decide (z>0)) 5 6 va vb ea eb 7 6] 179 0x2001002001001000800800400400200200100100080080040040020040011004008004803200c00e00c002003006401801c01800400600c803003803000800c019006007006001001803200c00e00c002003006401801c018004004004004005005002802802d001801000800a00a005005005003002 (lL loc cr ck cah cw it) (eI (List.drop 3 (bF dF)) (aU loc cr ck cah cw)) (cE loc cr ck cah cw p4 p5) p 303 [xA w.params τ sc ln wr od x y td o,aN (some (.ref rl)),aN (some (.int (Int.ofNat k) tz)),aA (qX z) 0,aA rvs er,aA va ea,aA vb eb] [0,1,2,3,4,5,6] (.pure (.done .next)) [nM w.params (GP o (bX (bX τ 7 (aC tb 0)) 8 (aC tb 5)) τ) sc ln wr od x y td ra rb,aN (some (.ref rl)),aN (some (.int (Int.ofNat k) tz)),aA (qX z) 0,aA rvs er,aA va ea,aA vb eb] 8:=by
 rcases hz with rfl |rfl |rfl <;> rcases o with _ |⟨x0,y0,td0,a0,b0⟩ <;> (unfold aW;kernel_rfl)
section
def kA(z:Int)(xs ys:List (Int×Nat)):Prop:=(sL xs ys).sign=z.sign/\jZ xs ys=(z == 0)
section
variable{w:World}{s:Shared}{p:Pos}
theorem aJa {sc:SC}{td:Nat}{o:T5}(B:aT w s)(h:s.heap.get? loc=some (pX w.params τ sc ln wr od x y o))(lo:817<=loc):
  Sem.wp (model PR w) (mK loc cr ck cah cw it p4 p5) (assign oJ (aU loc cr ck cah cw) (.ref td)) (fun v v s'=>aH [loc] s s'/\∃τ',s'.heap.get? loc=some (xA w.params τ' sc ln wr od x y td o)) (fun v v v=>False) p s:=by
 rw[Fast.te17772580674575903948]
 refine Sem.wp_mono _ _ _ (fun u v s' q=>q.2) (fun e v s' q=>absurd q.1 (by intro z;nomatch z)) _ _ (iX (R:=fun r s'=>r= .ok .next/\(aH [loc] s s'/\∃τ',s'.heap.get? loc=some (xA w.params τ' sc ln wr od x y td o))) (enc:=fun v=>Flow.next)
  (bL (fun ad tb=>aIm w _ ad tb p loc cr ck cah cw it p4 p5 sc ln wr od x y td o τ) aE B ⟨h,trivial⟩ rfl (by simp) (aD lo) (eY ..) fun ad tb s' Q=>⟨rfl,Q.ext.dropB (fun y hy=> .inl hy),_,Q.at_ 0 0 _ rfl rfl⟩))
theorem UD{P:Int->Int->Prop}(h0:P 0 0)(h1:∀n,P (.ofNat (n+1)) 1)(h2:∀n,P (.negSucc n) (-1)):∀z:Int,P z z.sign
 | .ofNat 0=>h0
 | .ofNat (n+1)=>h1 n
 | .negSucc n=>h2 n
theorem uK(o:CmpOp):∀z:Int,cB o z=cB o z.sign:=UD (P:=fun z c=>cB o z=cB o c) rfl (fun n=>by
 cases o <;> first |rfl |exact decide_eq_decide.mpr (iff_of_true (Int.ofNat_lt.mpr n.succ_pos) (by decide:(1:Int)>0))) fun n=>by
 cases o <;> first |rfl |exact decide_eq_decide.mpr (iff_of_true (Int.negSucc_lt_zero n) (by decide:(-1:Int)<0))
theorem xC {z:Int}{ys:List (Int×Nat)}(h:kA z xs ys)(o:CmpOp):cB o (sL xs ys)=cB o z.sign:=(uK o _).trans (congrArg (cB o) h.1)
theorem aJb {td ra rb:Nat}{sc:SC}{eb:Nat}{o:T5}{ys:List (Int×Nat)}{z:Int}(h2:(k+3) % 4=k2)(hk:k<4)(hr1:rvs[k]? =some (.ref ra))(hr2:rvs[k2]? =some (.ref rb))(ho:kA z xs ys)(B:aT w s)(ha:At s [loc,cr,ck,td,rl,ra,rb] [xA w.params τ sc ln wr od x y td o,aN (some (.ref rl)),aN (some (.int (Int.ofNat k) tz)),aA (qX z) 0,aA rvs er,aA (aR xs) ea,aA (aR ys) eb])(nd:[loc,cr,ck,td,rl,ra,rb].Nodup)(lo:∀a∈[loc,cr,ck,td,rl,ra,rb],817<=a):
  Sem.wp (model PR w) (mK loc cr ck cah cw it p4 p5) (execs (List.drop 3 (bF dF)) (aU loc cr ck cah cw)) (fun f u s'=>f= .next/\(aH [loc] s s'/\∃τ',s'.heap.get? loc=some (nM w.params τ' sc ln wr od x y td ra rb))) (fun u u u=>False) p s:=by
 have hk2:k2<4:=h2▸Nat.mod_lt _ dT;rw[Fast.te12563942051412417395];have e:(z == 0)=(z.sign == 0)/\(z.sign= -1\/z.sign=0\/z.sign=1):=UD (P:=fun z c=>(z == 0)=(c == 0)/\(c= -1\/c=0\/c=1)) ⟨rfl,.inr (.inl rfl)⟩ (fun u=>⟨rfl,.inr (.inr rfl)⟩) (fun u=>⟨rfl,.inl rfl⟩) z
 rw[show qX z=qX z.sign by
  unfold qX;rw[show decide (z<0)=_ from uK .Lt z,show decide (z<=0)=_ from uK .LtE z,e.1,show decide (z>=0)=_ from uK .GtE z,show decide (z>0)=_ from uK .Gt z];rfl] at ha
 have hc:=e.2;have o3:=ho.2.trans e.1
 exact lM (bL (R:=fun r s'=>r= .ok .next/\(aH [loc] s s'/\∃τ',s'.heap.get? loc=some (nM w.params τ' sc ln wr od x y td ra rb))) (fun ad tb=>aJ9 w _ ad tb p loc cr ck cah cw it p4 p5 sc ln wr od x y td o τ hc rl ra rb tz er ea eb k k2 rvs (aR xs) (aR ys))
  (aB (nD (Int.natCast_nonneg _) (zT (Nat.le_trans (Nat.le_of_lt hk) dT)) hr1 dT rfl) (aB (TU rfl rfl) (aB (nZ (by subst h2;rfl) dT rfl) (aB (nD (Int.natCast_nonneg _) (zT (Nat.le_trans (Nat.le_of_lt hk2) dT)) hr2 dT rfl)
   (aB (aJ5 (xC ho .Lt) dT dT) (aB (GQ (xC ho .LtE) dT dT) (aB (aJ6 o3 dT dT) (aB (UA (congrArg (!·) o3) dT dT) (aB (aJ7 (xC ho .GtE) dT dT) (aD (aJ8 (xC ho .Gt) dT dT)))))))))))
  B ha rfl nd lo (eY ..) fun ad tb s' Q=>⟨rfl,aJ.rest (m:=[loc]) Q.ext ha.2 (Q.ats [1,2,3,4,5,6]),_,Q.at_ 0 0 _ rfl rfl⟩)
end
end
noncomputable def KP.F(K:KP):List Nat:=[K.f 0,K.f 1,K.f 2,K.f 3,K.f 4,K.d 0,K.d 1,K.d 2,K.d 3,K.d 4,K.mc,K.c,K.ns,K.md,K.lm,K.cdl,K.cw,K.wl,K.q0,K.q1,K.q2,K.q3]
noncomputable def KP.cdm(K:KP)(m:Nat):Obj:=qV m (K.σ m) (K.m m 1) (K.m m 2) (K.m m 3) (K.m m 4) (K.m m 5)
noncomputable def KP.PF(K:KP)(P:Params):List Obj:=[mJ 0 K.mc (K.d 0) (K.ctm 0),mJ 1 K.mc (K.d 1) (K.ctm 1),mJ 2 K.mc (K.d 2) (K.ctm 2),mJ 3 K.mc (K.d 3) (K.ctm 3),mJ 4 K.mc (K.d 4) (K.ctm 4),K.cdm 0,K.cdm 1,K.cdm 2,K.cdm 3,K.cdm 4,aN (some (.ref K.lm)),bY K.c K.ns K.bt K.t0 K.t1,iT P K.τ K.sl K.fi (K.f 0) (K.f 1) (K.f 2) (K.f 3) (K.f 4) K.st K.md,dE K.c K.t2,mF K.cw K.cdl K.ct,mG K.ρ K.ca K.cb K.cc K.cdd K.ce,aN (some (.ref K.wl)),oI K.epW K.q0 K.q1 K.q2 K.q3,K.S.o 0,K.S.o 1,K.S.o 2,K.S.o 3]
theorem KP.at_B {K:KP}{P:Params}(h:At s K.F (K.PF P))(hx:s.heap.get? x=some (cZ K.c ddx (.ofNat k1) tx))(hy:s.heap.get? y=some (cZ K.c ddy (.ofNat k2) ty)):At s (K.B x y) (K.PB P k1 k2 ddx ddy tx ty):=
 ⟨h.get 0 _ _ rfl rfl,h.get 1 _ _ rfl rfl,h.get 2 _ _ rfl rfl,h.get 3 _ _ rfl rfl,h.get 4 _ _ rfl rfl,h.get 5 _ _ rfl rfl,h.get 6 _ _ rfl rfl,h.get 7 _ _ rfl rfl,h.get 8 _ _ rfl rfl,h.get 9 _ _ rfl rfl,h.get 10 _ _ rfl rfl,h.get 11 _ _ rfl rfl,h.get 12 _ _ rfl rfl,h.get 13 _ _ rfl rfl,hx,hy,h.get 14 _ _ rfl rfl,h.get 15 _ _ rfl rfl,h.get 16 _ _ rfl rfl,h.get 17 _ _ rfl rfl,h.get 18 _ _ rfl rfl,h.get 19 _ _ rfl rfl,h.get 20 _ _ rfl rfl,h.get 21 _ _ rfl rfl,trivial⟩
theorem KP.perm_B {K:KP}:(K.B x y).Perm (x::y::K.F):=
 List.Perm.trans (List.perm_middle (l₁:=List.take 14 K.F) (a:=x) (l₂:=y::List.drop 14 K.F)) (.cons _ (List.perm_middle (l₁:=List.take 14 K.F) (a:=y) (l₂:=List.drop 14 K.F)))
def UE(loc:Nat)(D:(Nat->Nat)->Nat->Nat->Nat->Obj)(s s':Shared):Prop:=aH [loc] s s'/\∃τ' x y td,s'.heap.get? loc=some (D τ' x y td)
theorem UF {K:KP}{sc:SC}{ra rb eb:Nat}{o:T5}{ys:List (Int×Nat)}(h2:(k+3) % 4=k2)(hk:k<4)(hS:K.S.Ok)(hr1:rvs[k]? =some (.ref ra))(hr2:rvs[k2]? =some (.ref rb))(ho:kA (K.S.z k k2) xs ys)(B:aT w s)(hF:At s K.F (K.PF w.params))(ndF:K.F.Nodup)(loF:∀a∈K.F,817<=a)(hlF:loc∉K.F)(hi:At s [K.fi,fid] [iM fid,xB ρi ia ib ic id_ ie])(ndi:[loc,ck,K.c,K.ns,K.md,K.fi,fid].Nodup)(loi:∀a∈[loc,ck,K.c,K.ns,K.md,K.fi,fid],817<=a)(hl:s.heap.get? loc=some (GO w.params τ sc ln K.c od o))(hck:s.heap.get? ck=some (aN (some (.int (Int.ofNat k) tz))))(hr:At s [cr,rl,ra,rb] [aN (some (.ref rl)),aA rvs er,aA (aR xs) ea,aA (aR ys) eb])(ndr:[loc,cr,ck,rl,ra,rb].Nodup)(lor:∀a∈[loc,cr,ck,rl,ra,rb],817<=a):
  Sem.wp (model PR w) (mK loc cr ck cah K.cw it p4 p5) (execs (bF dF) (aU loc cr ck cah K.cw)) (fun f v s'=>f= .next/\UE loc (fun τ' x y td=>nM w.params τ' sc ln K.c od x y td ra rb) s s') (fun v v v=>False) p s:=by
 have hk2:k2<4:=by lia
 have hne:k≠k2:=by lia
 have loloc:817<=loc:=loi _ (.head _);rw[aIz];refine BJ (BJ (Sem.wp_mono _ _ _ (fun f p1 s1 h1=> ?_) (fun v v v h=>h.elim) _ _ (aJ2 (k:=k) (tz:=tz) (τ2:=K.τ) (md:=K.md) h2 B ⟨hl,hck,hF.get 11 _ _ rfl rfl,hF.get 12 _ _ rfl rfl,hF.get 13 _ _ rfl rfl,hi.1,hi.2.1,trivial⟩ ndi loi)));obtain⟨rfl,x,y,ddx,ddy,ty,τ1,X1,l1,hx,hy,fx,fy,hxy⟩:=h1;have B1:=B.extB X1 (aD loloc)
 have nl:∀{as:List Nat} {os:List Obj} {s s':Shared},aH [loc] s s'->At s as os->loc∉as->At s' as os:=fun X h q=>h.keep fun y o hy e=>X.frame y o e fun z=>by
  cases z with
  |head=>exact q hy
  |tail _ z=>nomatch z
 have F1:=nl X1 hF hlF;have xF:x∉K.F:=fun q=>absurd (hF.lt x q) (by lia);have yF:y∉K.F:=fun q=>absurd (hF.lt y q) (by lia)
 have ndB:(K.B x y).Nodup:=KP.perm_B.nodup_iff.mpr (List.nodup_cons.mpr ⟨fun q=>by
  cases q with
  |head=>exact hxy rfl
  |tail _ q=>exact xF q,List.nodup_cons.mpr ⟨yF,ndF⟩⟩)
 have sz:=B.sz;have hB:=KP.at_B F1 hx hy
 have loB:∀a∈K.B x y,817<=a:=fun a q=>by
  rcases List.mem_cons.mp (KP.perm_B.mem_iff.mp q) with rfl |q
  ·have:s.heap.objs.size<=a:=fx
   lia
  rcases List.mem_cons.mp q with rfl |q
  ·have:s.heap.objs.size<=a:=fy
   lia
  exact loF a q
 show Sem.wp _ _ (execs [dK (bF dF) 2] _) _ _ _ _;refine aJ0 (aJ1 fun p=>Sem.wp_mono _ _ _ (fun u p2 s2 q2=> ?_) (fun v v v h=>h.elim) _ _ (aIv (tx:=tz) hS hk hk2 hne B1 hB ndB loB l1 (fun s' B' h' i hi=>nms B' h' loloc i hi)));obtain⟨l,rfl,X2,fl,hl2⟩:=q2;have B2:=B1.extB X2 aE;have ll:817<=l:=Nat.le_trans B1.sz fl;refine Sem.wp_mono _ _ _ (fun v p3 s3 q3=> ?_) (fun v v v h=>h.elim) _ _ (aJa (td:=l) B2 (X2.frame _ _ l1 (by simp)) loloc);obtain⟨X3,τ3,l3⟩:=q3;have B3:=B2.extB X3 (aD loloc);have X13:aH [loc] s s3:=(X1.trans (X2.mono aE)).trans X3;have nlr:loc∉[cr,ck,rl,ra,rb]:=(List.nodup_cons.mp ndr).1;have hr0:At s [cr,ck,rl,ra,rb] [aN (some (.ref rl)),aN (some (.int (Int.ofNat k) tz)),aA rvs er,aA (aR xs) ea,aA (aR ys) eb]:=⟨hr.1,hck,hr.2.1,hr.2.2.1,hr.2.2.2.1,trivial⟩;have hr3:=nl X13 hr0 nlr;have lloc:loc<s1.heap.objs.size:=Heap.lt_size l1
 have hl3:s3.heap.get? l=some (aA (qX (K.S.z k k2)) 0):=X3.frame _ _ hl2 fun q=>by
  cases q with
  |head=>lia
  |tail _ q=>nomatch q
 have lr:∀a∈[cr,ck,rl,ra,rb],a≠l:=fun a q e=>by
  subst e;have:a<s.heap.objs.size:=hr0.lt a q;have:=X1.size
  lia
 have ndt:[loc,cr,ck,l,rl,ra,rb].Nodup:=by
  have e:[loc,cr,ck,l,rl,ra,rb].Perm (l::[loc,cr,ck,rl,ra,rb]):=List.perm_middle (l₁:=[loc,cr,ck]) (a:=l) (l₂:=[rl,ra,rb]);refine e.nodup_iff.mpr (List.nodup_cons.mpr ⟨fun q=> ?_,ndr⟩);cases q with
  |head=>lia
  |tail _ q=>exact lr l q rfl
 have lot:∀a∈[loc,cr,ck,l,rl,ra,rb],817<=a:=fun a q=>by
  have e:[loc,cr,ck,l,rl,ra,rb].Perm (l::[loc,cr,ck,rl,ra,rb]):=List.perm_middle (l₁:=[loc,cr,ck]) (a:=l) (l₂:=[rl,ra,rb]);rcases List.mem_cons.mp (e.mem_iff.mp q) with rfl |q
  ·exact ll
  ·exact lor a q
 refine Sem.wp_mono _ _ _ (fun f p4 s4 q4=> ?_) (fun v v v h=>h.elim) _ _ (aJb (k:=k) h2 hk hr1 hr2 ho B3 ⟨l3,hr3.1,hr3.2.1,hl3,hr3.2.2.1,hr3.2.2.2.1,hr3.2.2.2.2.1,trivial⟩ ndt lot);obtain⟨rfl,X4,τ4,l4⟩:=q4;exact⟨rfl,X13.trans X4,τ4,x,y,l,l4⟩
section
variable (w:World)(g₀:Nat)(ad tb:Nat->Nat)(bl:List (Code×Pos))(p:Pos)(tg:Expr)(bd oe:List Stmt)
theorem aJc (en:Env)(it:Nat):
 aW w g₀ [it] ad tb [] 14 xY (.forLoop tg (.ref it) bd oe en) (uH (.ref it)) bl p 303 [fA 0 4] [0] (.pure (.done (.ret (.int (Int.ofNat 0) (aC tb 0))))) [fA 1 3] 1:=by unfold aW;kernel_rfl
theorem aJd (en:Env)(it:Nat):
 aW w g₀ [it] ad tb [] 14 xY (.forLoop tg (.ref it) bd oe en) (uH (.ref it)) bl p 303 [fA 1 3] [0] (.pure (.done (.ret (.int (Int.ofNat 1) (aC tb 0))))) [fA 2 2] 1:=by unfold aW;kernel_rfl
theorem aJe (en:Env)(it:Nat):
 aW w g₀ [it] ad tb [] 14 xY (.forLoop tg (.ref it) bd oe en) (uH (.ref it)) bl p 303 [fA 2 2] [0] (.pure (.done (.ret (.int (Int.ofNat 2) (aC tb 0))))) [fA 3 1] 1:=by unfold aW;kernel_rfl
theorem aJf (en:Env)(it:Nat):
 aW w g₀ [it] ad tb [] 14 xY (.forLoop tg (.ref it) bd oe en) (uH (.ref it)) bl p 303 [fA 3 1] [0] (.pure (.done (.ret (.int (Int.ofNat 3) (aC tb 0))))) [fA 4 0] 1:=by unfold aW;kernel_rfl
theorem aJg (en:Env)(it:Nat):
 aW w g₀ [it] ad tb [] 14 0xc004004004002001 (.forLoop tg (.ref it) bd oe en) (uH (.ref it)) bl p 303 [fA 4 0] [0] (.pure (.done Flow.next)) [fA 4 0] 3:=by unfold aW;kernel_rfl
theorem aJh (it loc cr ck cah cw tz:Nat)(o0:Option Value)(z:Int)(ps:Pos):
 aW w g₀ [ck] ad tb [] 6 4097 (.forLoop tg (.ref it) bd oe (aU loc cr ck cah cw)) (TN (.Name nK ps) (aU loc cr ck cah cw) (.int z tz)) bl p 303 [aN o0] [0] (.pure (.done Flow.next)) [aN (some (.int z tz))] 1:=by unfold aW;kernel_rfl
end
section
noncomputable def UG(x:Option Value):Flow:=match x with
 |some v=> .ret v
 |none=> .next
noncomputable abbrev gF(fl:Stmt)(it:Nat)(en:Env)(bl:List (Code×Pos)):PySem.Ctx:=⟨.forLoop (bR fl) (.ref it) (bF fl) (fV fl) en,none,none,bl,none⟩
section
variable{w:World}{s:Shared}{p:Pos}{fl:Stmt}{it loc cr ck cah cw:Nat}{bl:List (Code×Pos)}{R:Result->Shared->Prop}
theorem UH (h:∀p,Sem.wp (model PR w) (gF fl it en bl) (pyNext (.ref it)) (fun r p1 s1=>match r with
   |none=>wpCode (model PR w) ((gF fl it en bl).goto (.block (fV fl) en)) R p1 s1
   |some v=>Sem.wp (model PR w) (gF fl it en bl) (letOwnedTupleGo (bR fl) (.ref it) v) (fun u p2 s2=>Sem.wp (model PR w) (gF fl it en bl) (assign (bR fl) en v) (fun u p3 s3=>
     Sem.wp (model PR w) (gF fl it en bl) (execs (bF fl) en) (fun f p4' s4=>f= .next/\wpCode (model PR w) (gF fl it en bl) R p4' s4) (fun u u u=>False) p3 s3) (fun u u u=>False) p2 s2) (fun u u u=>False) p1 s1) (fun u u u=>False) p s):
  wpCode (model PR w) (gF fl it en bl) R p s:=by
 rw[wpCode_iff_wp];show Sem.wp _ _ ((forTurn (bR fl) (.ref it) (bF fl) (fV fl) en).onRaise _) _ _ p s;rw[Sem.wp_onRaise];unfold forTurn;rw[Sem.wp_bind',Sem.wp_cmd_standAt,Sem.wp_bind',Sem.wp_onRaise];refine Sem.wp_mono _ _ _ (fun r p1 s1 h1=> ?_) (fun u u u h=>h.elim) _ _ (h _);cases r with
 |none=>exact⟨rfl,h1⟩
 |some v=>
  show Sem.wp _ _ (letOwnedTupleGo (bR fl) (.ref it) v>>= _) _ _ p1 s1;rw[Sem.wp_bind'];refine Sem.wp_mono _ _ _ (fun u p2 s2 h2=> ?_) (fun u u u h=>h.elim) _ _ h1;rw[Sem.wp_bind'];refine Sem.wp_mono _ _ _ (fun u p3 s3 h3=> ?_) (fun u u u h=>h.elim) _ _ h2;rw[Sem.wp_bind'];refine Sem.wp_mono _ _ _ (fun f p4 s4 h4=> ?_) (fun u u u h=>h.elim) _ _ h3;obtain⟨rfl,h4⟩:=h4;exact⟨rfl,h4⟩
theorem aJi (hj:j<4)(hd:frameCount bl<=303)(B:aT w s)(h:s.heap.get? it=some (fA j (4 - j)))(lo:817<=it):Sem.wp (model PR w) (gF fl it en bl) (pyNext (.ref it)) (fun r k s'=>∃t,r=some (.int (Int.ofNat j) t)/\aH [it] s s'/\s'.heap.get? it=some (fA (j+1) (3 - j))) (fun k k k=>False) p s:=by
 rw[Fast.te9404975358583537561]
 have z:∃r s',Runs (model PR w) (gF fl it en bl) p (uH (.ref it)) [] s (.ret r) s'/\(∃t,r= .ok (.ret (.int (Int.ofNat j) t))/\aH [it] s s'/\s'.heap.get? it=some (fA (j+1) (3 - j))):=by
  match j,hj,h with
  |0,_,h=>exact bL (fun ad tb=>aJc w _ ad tb bl p _ _ _ en it) aE B ⟨h,trivial⟩ rfl (by simp) (aD lo) hd fun ad tb s' Q=>⟨_,rfl,Q.ext.dropB (fun y hy=> .inl hy),Q.at_ 0 0 _ rfl rfl⟩
  |1,_,h=>exact bL (fun ad tb=>aJd w _ ad tb bl p _ _ _ en it) aE B ⟨h,trivial⟩ rfl (by simp) (aD lo) hd fun ad tb s' Q=>⟨_,rfl,Q.ext.dropB (fun y hy=> .inl hy),Q.at_ 0 0 _ rfl rfl⟩
  |2,_,h=>exact bL (fun ad tb=>aJe w _ ad tb bl p _ _ _ en it) aE B ⟨h,trivial⟩ rfl (by simp) (aD lo) hd fun ad tb s' Q=>⟨_,rfl,Q.ext.dropB (fun y hy=> .inl hy),Q.at_ 0 0 _ rfl rfl⟩
  |3,_,h=>exact bL (fun ad tb=>aJf w _ ad tb bl p _ _ _ en it) aE B ⟨h,trivial⟩ rfl (by simp) (aD lo) hd fun ad tb s' Q=>⟨_,rfl,Q.ext.dropB (fun y hy=> .inl hy),Q.at_ 0 0 _ rfl rfl⟩
 refine Sem.wp_mono _ _ _ (fun u k s' q=> ?_) (fun e k s' q=> ?_) _ _ (iX (enc:=UG) z)
 ·obtain⟨t,q1,q2⟩:=q
  cases u with
  |none=>nomatch (Except.ok.inj q1)
  |some v=>
   injection q1 with q1
   injection q1 with q1
   exact⟨t,congrArg some q1,q2⟩
 ·obtain⟨t,q1,q2⟩:=q
  nomatch q1
theorem aJj (hd:frameCount bl<=303)(B:aT w s)(h:s.heap.get? it=some (fA 4 0))(lo:817<=it):Sem.wp (model PR w) (gF fl it en bl) (pyNext (.ref it)) (fun r z s'=>r=none/\aH [it] s s') (fun z z z=>False) p s:=by
 rw[Fast.te9404975358583537561]
 refine Sem.wp_mono _ _ _ (fun u z s' q=> ?_) (fun e z s' q=> ?_) _ _ (iX (R:=fun r s'=>r= .ok .next/\aH [it] s s') (enc:=UG)
  (bL (fun ad tb=>aJg w _ ad tb bl p _ _ _ en it) aE B ⟨h,trivial⟩ rfl (by simp) (aD lo) hd fun ad tb s' Q=>⟨rfl,Q.ext.dropB (fun y hy=> .inl hy)⟩))
 ·obtain⟨q1,q2⟩:=q
  cases u with
  |none=>exact⟨rfl,q2⟩
  |some v=>nomatch (Except.ok.inj q1)
 ·nomatch q.1
theorem aJk {z:Int}{o0:Option Value}{ps:Pos}(hd:frameCount bl<=303)(B:aT w s)(h:s.heap.get? ck=some (aN o0))(lo:817<=ck):
  Sem.wp (model PR w) (gF fl it (aU loc cr ck cah cw) bl) (assign (.Name nK ps) (aU loc cr ck cah cw) (.int z tz)) (fun v v s'=>aH [ck] s s'/\s'.heap.get? ck=some (aN (some (.int z tz)))) (fun v v v=>False) p s:=by
 rw[Fast.te17772580674575903948]
 exact Sem.wp_mono _ _ _ (fun u v s' q=>q.2) (fun e v s' q=>absurd q.1 (by intro z;nomatch z)) _ _ (iX (R:=fun r s'=>r= .ok .next/\(aH [ck] s s'/\s'.heap.get? ck=some (aN (some (.int z tz))))) (enc:=fun v=>Flow.next)
  (bL (fun ad tb=>aJh w _ ad tb bl p _ _ _ it loc cr ck cah cw tz o0 z ps) aE B ⟨h,trivial⟩ rfl (by simp) (aD lo) hd fun ad tb s' Q=>⟨rfl,Q.ext.dropB (fun y hy=> .inl hy),Q.at_ 0 0 _ rfl rfl⟩))
theorem UI(hT:∃ps,bR fl= .Name nK ps)(hE:fV fl=[])(hd:frameCount bl<=303)(lit:817<=it)(lck:817<=ck)(nic:it≠ck)(I:Nat->Shared->Prop)
  (hB:∀j s,I j s->aT w s/\s.heap.get? it=some (fA j (4 - j))/\∃o,s.heap.get? ck=some (aN o))
  (turn:∀j,j<4->∀s s' p tz,I j s->aH [it,ck] s s'->s'.heap.get? it=some (fA (j+1) (3 - j))->s'.heap.get? ck=some (aN (some (.int (Int.ofNat j) tz)))->
   Sem.wp (model PR w) (gF fl it (aU loc cr ck cah cw) bl) (execs (bF fl) (aU loc cr ck cah cw)) (fun f u s''=>f= .next/\I (j+1) s'') (fun u u u=>False) p s')
  (fin:∀s s',I 4 s->aH [it] s s'->R (.ok .next) s')(h0:I 0 s):wpCode (model PR w) (gF fl it (aU loc cr ck cah cw) bl) R p s:=by
 have go:∀n j,n+j=4->∀s p,I j s->wpCode (model PR w) (gF fl it (aU loc cr ck cah cw) bl) R p s:=by
  intro n;induction n with
  |zero=>
   intro j hj s p h;obtain rfl:j=4:=by lia
   obtain⟨B,hit,o,hck⟩:=hB 4 s h;refine UH fun p=>Sem.wp_mono _ _ _ (fun r p1 s1 h1=> ?_) (fun u u u h=>h) _ _ (aJj hd B hit lit);obtain⟨rfl,X⟩:=h1;rw[hE];show wpCode _ _ R p1 s1;rw[wpCode_iff_wp];exact fin _ _ h X
  |succ n ih=>
   intro j hj s p h;obtain⟨B,hit,o,hck⟩:=hB j s h;obtain⟨ps,hT'⟩:=hT;have hj4:j<4:=by lia
   refine UH fun p=>Sem.wp_mono _ _ _ (fun r p1 s1 h1=> ?_) (fun u u u h=>h) _ _ (aJi hj4 hd B hit lit);obtain⟨tz,rfl,X1,it1⟩:=h1;have B1:=B.extB X1 (aD lit);have hl:letOwnedTupleGo (bR fl) (.ref it) (.int (Int.ofNat j) tz)=pure ():=by rw[hT'];rfl
   show Sem.wp _ _ (letOwnedTupleGo (bR fl) (.ref it) (.int (Int.ofNat j) tz)) _ _ _ _;rw[hl];show Sem.wp _ _ (assign (bR fl) _ _) _ _ _ _;rw[show assign (bR fl) (aU loc cr ck cah cw) (.int (Int.ofNat j) tz)=assign (.Name nK ps) (aU loc cr ck cah cw) (.int (Int.ofNat j) tz) by rw[hT']];refine Sem.wp_mono _ _ _ (fun u p2 s2 h2=> ?_) (fun u u u h=>h) _ _ (aJk hd B1 (X1.frame _ _ hck (by simpa using fun e=>nic e.symm)) lck);obtain⟨X2,ck2⟩:=h2;refine Sem.wp_mono _ _ _ (fun f p3 s3 h3=> ?_) (fun u u u h=>h.elim) _ _ (turn j hj4 s s2 p2 tz h ((X1.mono (aD (.head _))).trans (X2.mono (aD (.tail _ (.head _))))) (X2.frame _ _ it1 (by simpa using nic)) ck2);exact⟨h3.1,ih (j+1) (by lia) _ _ h3.2⟩
 exact go 4 0 rfl s p h0
end
end
theorem aJl:fV dF=[]:=by kernel_rfl
theorem aJm:∃ps,bR dF= .Name nK ps:=⟨(bR dF).pos,by kernel_rfl⟩
theorem At.mv {os:List Obj}(h:At s as os)(X:aH m s s')(hm:∀a∈m,a∉as):At s' as os:=h.keep fun y o hy e=>X.frame y o e fun q=>hm y q hy
theorem uL{L:List Nat}(sl:List Nat)(hb:pk 0 L.length sl=true):∀a∈bM (fun i=>L.getD i 0) sl,a∈L:=fun a q=>by
 obtain⟨j,hj,rfl⟩:=lW q;have hj:=((mZ hb).2 j hj).2;show L.getD j 0∈L;rw[List.getD_eq_getElem?_getD,List.getElem?_eq_getElem hj];exact List.getElem_mem hj
theorem aJn {K:KP}{sc:SC}{f0 f1 f2 f3:Nat}{y0 y1 y2 y3:List (Int×Nat)}{o0:Option Value}(hS:K.S.Ok)(q0:kA (K.S.z 0 3) y0 y3)(q1:kA (K.S.z 1 0) y1 y0)(q2:kA (K.S.z 2 1) y2 y1)(q3:kA (K.S.z 3 2) y3 y2)(B:aT w s)(hF:At s K.F (K.PF w.params))(ndF:K.F.Nodup)(loF:∀a∈K.F,817<=a)(hlF:loc∉K.F)(hi:At s [K.fi,fid] [iM fid,xB ρi ia ib ic id_ ie])(ndi:[loc,ck,K.c,K.ns,K.md,K.fi,fid].Nodup)(loi:∀a∈[loc,ck,K.c,K.ns,K.md,K.fi,fid],817<=a)(hl:s.heap.get? loc=some (cV w.params τ sc ln K.c od))(hck:s.heap.get? ck=some (aN o0))(hit:s.heap.get? it=some (fA 0 4))(hr:At s [cr,rl,r0,r1,r2,r3] [aN (some (.ref rl)),aA [.ref r0,.ref r1,.ref r2,.ref r3] er,aA (aR y0) f0,aA (aR y1) f1,aA (aR y2) f2,aA (aR y3) f3])(ndr:[loc,cr,ck,rl,r0,r1,r2,r3].Nodup)(lor:∀a∈[loc,cr,ck,rl,r0,r1,r2,r3],817<=a)(lit:817<=it)(iF:it∉K.F)(ii:it∉[loc,ck,K.c,K.ns,K.md,K.fi,fid])(ir:it∉[loc,cr,ck,rl,r0,r1,r2,r3])(cF:ck∉K.F)(fin:∀s',aH [it,ck,loc] s s'->R (.ok .next) s'):
  wpCode (model PR w) (mK loc cr ck cah K.cw it p4 p5) R p s:=by
 have loloc:817<=loc:=loi _ (.head _);have lock:817<=ck:=loi _ (.tail _ (.head _));have m817:∀a∈[it,ck,loc],817<=a:=aB lit (aB lock (aD loloc));have nlc:loc≠ck:=fun e=>(List.nodup_cons.mp ndi).1 (e▸.head _);have nil:it≠loc:=fun e=>ii (e▸.head _);have nic:it≠ck:=fun e=>ii (e▸.tail _ (.head _));have dj:∀{as:List Nat},it∉as->ck∉as->loc∉as->∀a∈[it,ck,loc],a∉as:=fun a b c=>aB a (aB b (aD c));have djF:=dj iF cF hlF;have dji:∀a∈[it,ck,loc],a∉[K.fi,fid]:=dj (fun q=>ii (.tail _ (.tail _ (.tail _ (.tail _ (.tail _ q)))))) (fun q=>(List.nodup_cons.mp (List.nodup_cons.mp ndi).2).1 (.tail _ (.tail _ (.tail _ q)))) (fun q=>(List.nodup_cons.mp ndi).1 (.tail _ (.tail _ (.tail _ (.tail _ q)))));have ndc:(ck::[loc,cr,rl,r0,r1,r2,r3]).Nodup:=(List.perm_middle (l₁:=[loc,cr]) (a:=ck) (l₂:=[rl,r0,r1,r2,r3])).nodup_iff.mp ndr;have djr:∀a∈[it,ck,loc],a∉[cr,rl,r0,r1,r2,r3]:=dj (fun q=>ir (uL (L:=[loc,cr,ck,rl,r0,r1,r2,r3]) [1,3,4,5,6,7] rfl _ q)) (fun q=>(List.nodup_cons.mp ndc).1 (.tail _ q)) (fun q=>(List.nodup_cons.mp ndr).1 (uL (L:=[cr,ck,rl,r0,r1,r2,r3]) [0,2,3,4,5,6] rfl _ q))
 have row:∀j,j<4->∃ra rb ea eb xs ys,[Value.ref r0,.ref r1,.ref r2,.ref r3][j]? =some (.ref ra)/\[Value.ref r0,.ref r1,.ref r2,.ref r3][(j+3) % 4]? =some (.ref rb)/\kA (K.S.z j ((j+3) % 4)) xs ys/\
   (∀s',At s' [cr,rl,r0,r1,r2,r3] [aN (some (.ref rl)),aA [.ref r0,.ref r1,.ref r2,.ref r3] er,aA (aR y0) f0,aA (aR y1) f1,aA (aR y2) f2,aA (aR y3) f3]->At s' [cr,rl,ra,rb] [aN (some (.ref rl)),aA [.ref r0,.ref r1,.ref r2,.ref r3] er,aA (aR xs) ea,aA (aR ys) eb])/\
   [loc,cr,ck,rl,ra,rb].Nodup/\∀a∈[loc,cr,ck,rl,ra,rb],a∈[loc,cr,ck,rl,r0,r1,r2,r3]:=fun j hj=>by
  match j,hj with
  |0,_=>exact⟨r0,r3,f0,f3,y0,y3,rfl,rfl,q0,fun s' h=>⟨h.1,h.2.1,h.2.2.1,h.2.2.2.2.2.1,trivial⟩,bO ndr [0,1,2,3,4,7] rfl,uL (L:=[loc,cr,ck,rl,r0,r1,r2,r3]) [0,1,2,3,4,7] rfl⟩
  |1,_=>exact⟨r1,r0,f1,f0,y1,y0,rfl,rfl,q1,fun s' h=>⟨h.1,h.2.1,h.2.2.2.1,h.2.2.1,trivial⟩,bO ndr [0,1,2,3,5,4] rfl,uL (L:=[loc,cr,ck,rl,r0,r1,r2,r3]) [0,1,2,3,5,4] rfl⟩
  |2,_=>exact⟨r2,r1,f2,f1,y2,y1,rfl,rfl,q2,fun s' h=>⟨h.1,h.2.1,h.2.2.2.2.1,h.2.2.2.1,trivial⟩,bO ndr [0,1,2,3,6,5] rfl,uL (L:=[loc,cr,ck,rl,r0,r1,r2,r3]) [0,1,2,3,6,5] rfl⟩
  |3,_=>exact⟨r3,r2,f3,f2,y3,y2,rfl,rfl,q3,fun s' h=>⟨h.1,h.2.1,h.2.2.2.2.2.1,h.2.2.2.2.1,trivial⟩,bO ndr [0,1,2,3,7,6] rfl,uL (L:=[loc,cr,ck,rl,r0,r1,r2,r3]) [0,1,2,3,7,6] rfl⟩
 refine UI (fl:=dF) (bl:=cE loc cr ck cah K.cw p4 p5) aJm aJl (eY ..) lit lock nic (fun j s'=>aH [it,ck,loc] s s'/\s'.heap.get? it=some (fA j (4 - j))/\(∃o,s'.heap.get? ck=some (aN o))/\
   ((j=0/\∃τ',s'.heap.get? loc=some (cV w.params τ' sc ln K.c od))\/∃τ' x y td a b,s'.heap.get? loc=some (nM w.params τ' sc ln K.c od x y td a b)))
  (fun j s' h=>⟨B.extB h.1 m817,h.2.1,h.2.2.1⟩) (fun j hj s1 s2 p tz h X hit2 hck2=> ?_) (fun s1 s2 h X=>fin _ (h.1.trans (X.mono (aD (.head _))))) ⟨(aH.refl s).mono aE,hit,⟨_,hck⟩,.inl ⟨rfl,_,hl⟩⟩
 refine bC fun zz=> ?_;obtain⟨ra,rb,ea,eb,xs,ys,g1,g2,g3,g4,g5,g6⟩:=row j hj;refine zz ?_;have X02:aH [it,ck,loc] s s2:=h.1.trans (X.mono (aB (.head _) (aD (.tail _ (.head _)))));have B2:=B.extB X02 m817;have l2:∀{o:Obj},s1.heap.get? loc=some o->s2.heap.get? loc=some o:=fun e=>X.frame _ _ e (by simpa using⟨fun e=>nil e.symm,nlc⟩)
 have post:∀{s3:Shared},UE loc (fun τ' x y td=>nM w.params τ' sc ln K.c od x y td ra rb) s2 s3->aH [it,ck,loc] s s3/\s3.heap.get? it=some (fA (j+1) (4 - (j+1)))/\(∃o,s3.heap.get? ck=some (aN o))/\
   ((j+1=0/\∃τ',s3.heap.get? loc=some (cV w.params τ' sc ln K.c od))\/∃τ' x y td a b,s3.heap.get? loc=some (nM w.params τ' sc ln K.c od x y td a b)):=fun {s3} h=>by
  refine bC fun zz=> ?_;obtain⟨X3,τ',x,y,td,l3⟩:=h;refine zz ?_;exact⟨X02.trans (X3.mono (aD (.tail _ (.tail _ (.head _))))),by rw[show 4 - (j+1)=3 - j by lia];exact X3.frame _ _ hit2 (by simpa using nil),⟨_,X3.frame _ _ hck2 (by simpa using fun e=>nlc e.symm)⟩,.inr ⟨τ',x,y,td,ra,rb,l3⟩⟩
 rcases h.2.2.2 with⟨_,τ',hl1⟩ |⟨τ',x,y,td,a,b,hl1⟩
 ·exact Sem.wp_mono _ _ _ (fun f u s3 q=>⟨q.1,post q.2⟩) (fun u u u q=>q) _ _ (UF (o:=none) (k:=j) rfl hj hS g1 g2 g3 B2 (hF.mv X02 djF) ndF loF hlF (hi.mv X02 dji) ndi loi (l2 hl1) hck2 (g4 _ (hr.mv X02 djr)) g5 fun a q=>lor a (g6 a q))
 ·exact Sem.wp_mono _ _ _ (fun f u s3 q=>⟨q.1,post q.2⟩) (fun u u u q=>q) _ _ (UF (o:=some (x,y,td,a,b)) (k:=j) rfl hj hS g1 g2 g3 B2 (hF.mv X02 djF) ndF loF hlF (hi.mv X02 dji) ndi loi (l2 hl1) hck2 (g4 _ (hr.mv X02 djr)) g5 fun a q=>lor a (g6 a q))
noncomputable def cL(loc cr ck cah cw:Nat):Code:= .func (bF jH) (aU loc cr ck cah cw)
noncomputable def bW(p5:Pos):List (Code×Pos):=[(.builtin pL ⟨[],[]⟩,p5)]
noncomputable def cW(i:Nat):List Stmt:=[dK (bF jH) i]
noncomputable def BL(P:Params)(τ:Nat->Nat)(sc:SC):Obj:=⟨fI,none,.dict ⟨[de P sr (τ 0) (.ref sc.a)]⟩ 1,sc.l⟩
noncomputable def pZ(P:Params)(τ:Nat->Nat)(sc:SC)(ln:Nat):Obj:=⟨fI,none,.dict ⟨[de P sr (τ 0) (.ref sc.a),de P sJ (τ 1) (.ref ln)]⟩ 2,sc.l⟩
noncomputable def BM(P:Params)(τ:Nat->Nat)(sc:SC)(ln wr:Nat):Obj:=⟨fI,none,.dict ⟨[de P sr (τ 0) (.ref sc.a),de P sJ (τ 1) (.ref ln),de P sW (τ 2) (.ref wr)]⟩ 3,sc.l⟩
noncomputable def BN(P:Params)(τ:Nat->Nat)(sc ln:Nat):List DictEntry:=[de P sr (τ 0) (.ref sc),de P sJ (τ 1) (.ref ln)]
noncomputable def sF(env:Env)(t:Nat):Array (Option Value):=match Nat.beq t 1335 with
 |true=>wD env .notImplemented ⟨[]⟩
 |false=>wD env .none ⟨[]⟩
section
variable (w:World)(g₀:Nat)
include g₀
theorem aJo (ad tb:Nat->Nat)(bl:List (Code×Pos))(p:Pos)(loc cr ck cah cw ep:Nat)(τ:Nat->Nat)(sc:SC)(vs:List Value)(Lf:List (List Nat))(R0 R1 R2 R3:List Nat)(p5:Pos):
 aW w g₀ [loc,cr,sc.a] ad tb [QB vs ep Lf R0 R1 R2 R3 2 3 0] 68 0x1001000800803402c02c02802c02c01600b00b00b00a00b00b005802c02c02c02802c02c01600b00b0052014014015000001000 (cL loc cr ck cah cw) (eI (cW 0) (aU loc cr ck cah cw)) (bW p5) p 302 [BL w.params τ sc,aN none,aA vs ep] [0,1,2,3,4,5,6,7,8] (.pure (.done Flow.next)) [pZ w.params (bX τ 1 (aC tb 36)) sc (ad 3+817),aN (some (.ref (ad 8+817))),aA vs ep,aA (cD (aC tb) 0 Lf) 0,aA (bH (aC tb) 4 R0) (R0.length - 1),aA (bH (aC tb) 12 R1) (R1.length - 2),aA (bH (aC tb) 20 R2) (R2.length - 0),aA (bH (aC tb) 28 R3) (R3.length - 1),aA [.ref (ad 4+817),.ref (ad 5+817),.ref (ad 6+817),.ref (ad 7+817)] 0] 13:=by unfold aW;kernel_rfl
theorem aJp (bl:List (Code×Pos))(p:Pos)(b:Bool)(hq:w.params.followText "comprehension-iter-twice"=b)(loc cr ck cah cw sc ln q:Nat)(τ:Nat->Nat)(L0:List Nat)(t0:Nat)(w0:List (List Nat))(L1:List Nat)(t1:Nat)(w1:List (List Nat))(L2:List Nat)(t2:Nat)(w2:List (List Nat))(L3:List Nat)(t3:Nat)(w3:List (List Nat))(p5:Pos):∃h_,∀ad tb:Nat->Nat,
 let r:=aY w g₀ [loc,ln,cw] ad tb [wE ⟨⟨L0⟩⟩ (fun x=>t0) w0 (fun a=>aU (a 0) cr ck cah cw) (fun x x_1=>BN w.params τ sc ln) 2 (fun x x_1=>{toList:=[]}) (fun a x t=>sF (aU (a 0) cr ck cah cw) t) 0 6 1,wE ⟨⟨L1⟩⟩ (fun x=>t1) w1 (fun a=>aU (a 0) cr ck cah cw) (fun x x_1=>BN w.params τ sc ln) 2 (fun a k=>sF (aU (a 0) cr ck cah cw) (k 1)) (fun a k x=>sF (aU (a 0) cr ck cah cw) (k 1)) 0 7 11,wE ⟨⟨L2⟩⟩ (fun x=>t2) w2 (fun a=>aU (a 0) cr ck cah cw) (fun x x_1=>BN w.params τ sc ln) 2 (fun a k=>sF (aU (a 0) cr ck cah cw) (k 1)) (fun a k x=>sF (aU (a 0) cr ck cah cw) (k 1)) 0 8 21,wE ⟨⟨L3⟩⟩ (fun x=>t3) w3 (fun a=>aU (a 0) cr ck cah cw) (fun x x_1=>BN w.params τ sc ln) 2 (fun a k=>sF (aU (a 0) cr ck cah cw) (k 1)) (fun a k x=>sF (aU (a 0) cr ck cah cw) (k 1)) 0 9 31] 192 h_
  (cL loc cr ck cah cw) (eI (cW 1) (aU loc cr ck cah cw)) (bW p5) p 302 [pZ w.params τ ⟨sc,⟨[]⟩⟩ ln,aA [sv L0 t0,sv L1 t1,sv L2 t2,sv L3 t3] q,aN none]
 dI r [0,1,2,4,6,7,8,9]=dJ r [] ⟨cL loc cr ck cah cw,none,none,(bW p5),none⟩ (.pure (.done Flow.next)) [some (pZ w.params τ ⟨sc,sF (aU loc cr ck cah cw) (aC tb 1)⟩ ln),some (aA [sv L0 t0,sv L1 t1,sv L2 t2,sv L3 t3] q),some (aN (some (.ref (ad 4+817)))),some (aA [.ref (ad 6+817),.ref (ad 7+817),.ref (ad 8+817),.ref (ad 9+817)] 4),some (aA (cD (aC tb) 2 w0) (2+w0.length)),some (aA (cD (aC tb) 12 w1) (2+w1.length)),some (aA (cD (aC tb) 22 w2) (2+w2.length)),some (aA (cD (aC tb) 32 w3) (2+w3.length))] [] 12:=by
 rw[nB hq];cases b;exact⟨(aQ 0x18018030030030060020020010020020010008005005005002a [6,12,8,3072,174,gC,27,0x400220080080020009002002001]),fun ad tb=>by intro r;kernel_rfl⟩;exact⟨(aQ 0x300300600600600 [174,gC,7,83906565,4,42,6,12,47,0xc00c00400400200400400200100020009002002001]),fun ad tb=>by intro r;kernel_rfl⟩
theorem aJq (ad tb:Nat->Nat)(bl:List (Code×Pos))(p:Pos)(loc cr ck cah cw ln wr:Nat)(τ:Nat->Nat)(sc:SC)(p5:Pos):
 aW w g₀ [loc] ad tb [] 11 8194 (cL loc cr ck cah cw) (eI (cW 4) (aU loc cr ck cah cw)) (bW p5) p 302 [BM w.params τ sc ln wr] [0,1] (.pure (.done Flow.next)) [cV w.params (bX τ 3 (aC tb 0)) sc ln wr (ad 1+817),aA [] 0] 2:=by unfold aW;kernel_rfl
end
theorem aJr(w:World)(g₀:Nat)(ad tb:Nat->Nat)(bl:List (Code×Pos))(p:Pos)(loc cr ck cah cw:Nat)(p5:Pos):
 let r:=aY w g₀ [] ad tb [] 37 xV
  (cL loc cr ck cah cw) (eI (cW 7) (aU loc cr ck cah cw)) (bW p5) p 302 []
 fZ r [1]=iA r [bZ ⟨cL loc cr ck cah cw,none,none,(bW p5),none⟩ p 302] ⟨cL loc cr ck cah cw,none,none,(bW p5),none⟩ (some (lL loc cr ck cah cw (ad 1+817),none)) [some (fA 0 4)] [] 2:=by intro r;kernel_rfl
theorem aJs(w:World)(g₀:Nat)(ad tb:Nat->Nat)(bl:List (Code×Pos))(p:Pos)(loc cr ck cah cw:Nat)(p5:Pos):
 aW w g₀ [] ad tb [] 2 0 (cL loc cr ck cah cw) (eI (cW 8) (aU loc cr ck cah cw)) (bW p5) p 302 [] [] (.pure (.done (.ret (.bool (true))))) [] 0:=by unfold aW;kernel_rfl
section
noncomputable abbrev gL(loc cr ck cah cw:Nat)(p5:Pos):PySem.Ctx:=⟨cL loc cr ck cah cw,none,none,bW p5,none⟩
theorem kB(p5:Pos):frameCount (bW p5)<=302:=by
 unfold bW;rw[frameCount_cons];have h:(Code.builtin pL ⟨[],[]⟩).weight=301:=by rw[<-aF6];decide+kernel
 rw[h];decide
theorem qA {L N:List Nat}(h:L.Nodup)(h1:∀a∈L,a<n)(h':N.Nodup)(h2:∀a∈N,n<=a):(L++N).Nodup:=
 List.nodup_append.mpr ⟨h,h',fun a ha b hb e=>by have:=h1 a ha;have:=h2 b hb;lia⟩
theorem dX.nd {os:List (Option Obj)}(Q:dX olds ad s s' js os nn)(sl:List Nat)(h:pk olds.length nn sl=true):
  (bM (bG olds ad) sl).Nodup/\∀a∈bM (bG olds ad) sl,s.heap.objs.size<=a:=
 have hb:=(mZ h).2
 ⟨rY (mZ h).1 fun i hi j hj e=>Q.inj i j (hb i hi).2 (hb j hj).2 e,fun a ha=>by
  obtain⟨j,hj,rfl⟩:=lW ha;exact(Q.new j (hb j hj).1 (hb j hj).2).1⟩
theorem xD{K:Nat->Nat}:∀(ns:List Nat) (a:Nat),∃qs:List (Nat×Nat),bH K a ns=aP qs/\qs.map (·.1)=ns
 | [],_=>⟨[],rfl,rfl⟩
 |n::ns,a=>by
  obtain⟨qs,h1,h2⟩:=xD ns (a+1);exact⟨(n,K a)::qs,congrArg (Value.int (Int.ofNat n) (K a)::·) h1,congrArg (n::·) h2⟩
theorem xE{K:Nat->Nat}(hK:∀j,1335<=K j):∀(ws:List (List Nat)) (a:Nat),∃ts:List Nat,cD K a ws=bA ws ts/\ts.length=ws.length/\∀t∈ts,1335<=t
 | [],_=>⟨[],rfl,rfl,aE⟩
 |w::ws,a=>by
  obtain⟨ts,h1,h2,h3⟩:=xE hK ws (a+1);exact⟨K a::ts,congrArg (Value.str ⟨⟨w⟩⟩ (K a)::·) h1,congrArg (·+1) h2,aB (hK a) h3⟩
def Q0(w:World)(s:Shared)(loc cr:Nat)(sc:SC)(L0 L1 L2 L3 R0 R1 R2 R3:List Nat)(s':Shared):Prop:=∀C:Prop,(∀(ln rl r0 r1 r2 r3 t0 t1 t2 t3 e0 e1 e2 e3:Nat) (τ':Nat->Nat) (ρ0 ρ1 ρ2 ρ3:List (Nat×Nat)),aH [loc,cr] s s'->
   At s' [loc,cr,ln,rl,r0,r1,r2,r3] [pZ w.params τ' sc ln,aN (some (.ref rl)),aA [sv L0 t0,sv L1 t1,sv L2 t2,sv L3 t3] 0,aA [.ref r0,.ref r1,.ref r2,.ref r3] 0,aA (aP ρ0) e0,aA (aP ρ1) e1,aA (aP ρ2) e2,aA (aP ρ3) e3]->
   [ln,rl,r0,r1,r2,r3].Nodup->(∀a∈[ln,rl,r0,r1,r2,r3],s.heap.objs.size<=a)->ρ0.map (·.1)=R0->ρ1.map (·.1)=R1->ρ2.map (·.1)=R2->ρ3.map (·.1)=R3->C)->C
def Q1(w:World)(s:Shared)(loc cw sc ln:Nat)(τ:Nat->Nat)(w0 w1 w2 w3:List (List Nat))(s':Shared):Prop:=∀C:Prop,(∀(wl q0 q1 q2 q3:Nat) (sl:Array (Option Value)) (T0 T1 T2 T3:List Nat),aH [loc,cw] s s'->
   At s' [loc,cw,wl,q0,q1,q2,q3] [pZ w.params τ ⟨sc,sl⟩ ln,aN (some (.ref wl)),aA [.ref q0,.ref q1,.ref q2,.ref q3] 4,aA (bA w0 T0) (2+w0.length),aA (bA w1 T1) (2+w1.length),aA (bA w2 T2) (2+w2.length),aA (bA w3 T3) (2+w3.length)]->
   [wl,q0,q1,q2,q3].Nodup->(∀a∈[wl,q0,q1,q2,q3],s.heap.objs.size<=a)->(T0.length=w0.length/\∀t∈T0,1335<=t)->(T1.length=w1.length/\∀t∈T1,1335<=t)->(T2.length=w2.length/\∀t∈T2,1335<=t)->(T3.length=w3.length/\∀t∈T3,1335<=t)->C)->C
section
variable{w:World}{s:Shared}{p:Pos}
theorem aJt {sc:SC}{L0 L1 L2 L3:List Nat}(fD:xs.length<=1000)(hL:lY 0 ((xs.take 24).map (·.1)) LB=[L0,L1,L2,L3])(hR:jU 0 ((xs.take 24).map (·.1)) RB=[R0,R1,R2,R3])(B:aT w s)(ha:At s [loc,cr,sc.a] [BL w.params τ sc,aN none,aA (cI xs) ep])(nd:[loc,cr,sc.a].Nodup)(lo:∀a∈[loc,cr,sc.a],817<=a):
  Sem.wp (model PR w) (gL loc cr ck cah cw p5) (execs (cW 0) (aU loc cr ck cah cw)) (fun f u s'=>f= .next/\Q0 w s loc cr sc L0 L1 L2 L3 R0 R1 R2 R3 s') (fun u u u=>False) p s:=by
 rw[Fast.te12563942051412417395]
 refine lM (P:=fun s'=>Q0 w s loc cr sc L0 L1 L2 L3 R0 R1 R2 R3 s')
  (bL (fun ad tb=>aJo w _ ad tb [] p loc cr ck cah cw ep τ sc (cI xs) [L0,L1,L2,L3] R0 R1 R2 R3 p5) (aD (aEg fD hL hR dT)) B ha rfl nd lo (kB p5) fun ad tb s' Q=>⟨rfl,?_⟩)
 obtain⟨ρ0,h0,g0⟩:=xD (K:=aC tb) R0 4;obtain⟨ρ1,h1,g1⟩:=xD (K:=aC tb) R1 12;obtain⟨ρ2,h2,g2⟩:=xD (K:=aC tb) R2 20;obtain⟨ρ3,h3,g3⟩:=xD (K:=aC tb) R3 28;have z:=Q.nd [3,8,4,5,6,7] rfl;refine fun C k=>k (ad 3+817) (ad 8+817) (ad 4+817) (ad 5+817) (ad 6+817) (ad 7+817) (aC tb 0) (aC tb 1) (aC tb 2) (aC tb 3) (R0.length - 1) (R1.length - 2) (R2.length - 0) (R3.length - 1) (bX τ 1 (aC tb 36)) ρ0 ρ1 ρ2 ρ3 (aJ.rest (m:=[loc,cr]) (ks:=[sc.a]) (os:=[aA (cI xs) ep]) Q.ext ⟨ha.2.2.1,trivial⟩ ⟨Q.at_ 2 2 _ rfl rfl,trivial⟩) ?_ z.1 z.2 g0 g1 g2 g3;rw[<-h0,<-h1,<-h2,<-h3];exact Q.ats [0,1,3,8,4,5,6,7]
noncomputable def lO{α:Type}(a b c d:α)(k:Nat):α:=match k with
 |0=>a
 |1=>b
 |2=>c
 |_=>d
theorem aJu(env:Env)(t:Nat):((sF env t).getD 3 none).isSome=true:=by
 unfold sF wD;split <;> simp[Array.getD]
theorem aJv(env:Env):zN env ⟨[]⟩ (sF env):=⟨fun h=>by simp[Array.getD] at h,fun u b=>by
 cases b
 ·exact⟨1336,by decide,rfl⟩
 ·exact⟨1335,by decide,rfl⟩⟩
theorem GS(env:Env)(t:Nat):zN env (sF env t) (fun u=>sF env t):=⟨fun u=>⟨1335,by decide,rfl⟩,fun h=>absurd (aJu env t) (by rw[h];decide)⟩
theorem aJw {L0 L1 L2 L3:List Nat}{w0 w1 w2 w3:List (List Nat)}{t3 a0 a1 a2 a3 b0 b1 b2 b3:Nat}(h0:eX ⟨⟨L0⟩⟩/\(Str.mk ⟨L0⟩).length≠1/\Wd ⟨⟨L0⟩⟩ 0 (some 32) 1 w0 a0 b0/\w0.length<=8)(h1:eX ⟨⟨L1⟩⟩/\(Str.mk ⟨L1⟩).length≠1/\Wd ⟨⟨L1⟩⟩ 0 (some 32) 1 w1 a1 b1/\w1.length<=8)(h2:eX ⟨⟨L2⟩⟩/\(Str.mk ⟨L2⟩).length≠1/\Wd ⟨⟨L2⟩⟩ 0 (some 32) 1 w2 a2 b2/\w2.length<=8)(h3:eX ⟨⟨L3⟩⟩/\(Str.mk ⟨L3⟩).length≠1/\Wd ⟨⟨L3⟩⟩ 0 (some 32) 1 w3 a3 b3/\w3.length<=8)(B:aT w s)(ha:At s [loc,ln,cw] [pZ w.params τ ⟨sc,⟨[]⟩⟩ ln,aA [sv L0 t0,sv L1 t1,sv L2 t2,sv L3 t3] q,aN none])(nd:[loc,ln,cw].Nodup)(lo:∀a∈[loc,ln,cw],817<=a):
  Sem.wp (model PR w) (gL loc cr ck cah cw p5) (execs (cW 1) (aU loc cr ck cah cw)) (fun f _ s'=>f= .next/\Q1 w s loc cw sc ln τ w0 w1 w2 w3 s') (fun _ _ _=>False) p s:=by
 rw[Fast.te12563942051412417395];obtain⟨hh,e⟩:=aJp w s.gens.size [] p _ rfl loc cr ck cah cw sc ln q τ L0 t0 w0 L1 t1 w1 L2 t2 w2 L3 t3 w3 p5;have k2:∀A:Nat->Nat,(aU (A 0) cr ck cah cw).scope.kind≠.module:=fun _=>show (kI jH).kind≠.module by decide+kernel
 have g2:∀A:Nat->Nat,((aU (A 0) cr ck cah cw).scope.isGenerator || (aU (A 0) cr ck cah cw).scope.isCoroutine)=false:=fun _=>show ((kI jH).isGenerator || (kI jH).isCoroutine)=false by decide+kernel
 have la:∀{n:Nat} {A A':Nat->Nat},0<n->(∀j,j<n->A' j=A j)->A' 0=A 0:=fun h a=>a 0 h
 have l1:∀{n i:Nat},0<n->1<i->cH (fun a k=>sF (aU (a 0) cr ck cah cw) (k 1)) n i:=fun h h' A K A' K' a b=>by
  show sF (aU (A' 0) cr ck cah cw) (K' 1)=sF (aU (A 0) cr ck cah cw) (K 1);rw[a 0 h,b 1 h']
 have l2:∀{n i:Nat},0<n->1<i->cH (fun a k (_:Nat)=>sF (aU (a 0) cr ck cah cw) (k 1)) n i:=fun h h' A K A' K' a b=>by
  funext t
  exact l1 h h' A K A' K' a b
 have ll:∀{n:Nat},0<n->∀A A':Nat->Nat,(∀j,j<n->A' j=A j)->aU (A' 0) cr ck cah cw=aU (A 0) cr ck cah cw:=fun h A A' a=>by rw[a 0 h]
 refine lM (P:=fun s'=>Q1 w s loc cw sc ln τ w0 w1 w2 w3 s')
  (bL e (aB (zQ h0.1 h0.2.1 h0.2.2.1 h0.2.2.2 (fun _ _ _=>rfl) (ll dT) (fun _ _ _ _ _ _=>rfl) (fun _ _ _ _ _ _=>rfl) (fun A K A' K' a b=>by
    funext t
    show sF (aU (A' 0) cr ck cah cw) t=sF (aU (A 0) cr ck cah cw) t;rw[a 0 dT]) k2 g2 (fun _=>rfl) (fun A K=>aJv _) dT)
   (aB (zQ h1.1 h1.2.1 h1.2.2.1 h1.2.2.2 (fun _ _ _=>rfl) (ll dT) (fun _ _ _ _ _ _=>rfl) (l1 dT dT) (l2 dT dT) k2 g2 (fun _=>rfl) (fun A K=>GS _ _) dT)
   (aB (zQ h2.1 h2.2.1 h2.2.2.1 h2.2.2.2 (fun _ _ _=>rfl) (ll dT) (fun _ _ _ _ _ _=>rfl) (l1 dT dT) (l2 dT dT) k2 g2 (fun _=>rfl) (fun A K=>GS _ _) dT)
   (aD (zQ h3.1 h3.2.1 h3.2.2.1 h3.2.2.2 (fun _ _ _=>rfl) (ll dT) (fun _ _ _ _ _ _=>rfl) (l1 dT dT) (l2 dT dT) k2 g2 (fun _=>rfl) (fun A K=>GS _ _) dT)))))
   B ha rfl nd lo (kB p5) fun ad tb s' Q=>⟨rfl,?_⟩)
 have gK:∀j,1335<=aC tb j:=fun j=>bB tb j;obtain⟨T0,x0,y0⟩:=xE gK w0 2;obtain⟨T1,x1,y1⟩:=xE gK w1 12;obtain⟨T2,x2,y2⟩:=xE gK w2 22;obtain⟨T3,x3,y3⟩:=xE gK w3 32;have z:=Q.nd [4,6,7,8,9] rfl;refine fun C k=>k (ad 4+817) (ad 6+817) (ad 7+817) (ad 8+817) (ad 9+817) (sF (aU loc cr ck cah cw) (aC tb 1)) T0 T1 T2 T3 (Q.ext.dropB (aB (.inl (.head _)) (aB (.inr ⟨_,ha.2.1,Q.at_ 1 1 _ rfl rfl⟩) fun y hy=> .inl (.tail _ hy)))) ?_ z.1 z.2 y0 y1 y2 y3;rw[<-x0,<-x1,<-x2,<-x3];exact Q.ats [0,2,3,4,5,6,7]
end
end
theorem aJx(w:World)(g₀:Nat)(ad tb:Nat->Nat)(bl:List (Code×Pos))(p:Pos)(g1:Nat)(ad1 tb1:Nat->Nat)(p1:Pos)(loc cr ck cah cw:Nat)(p5:Pos):
 aW w g₀ [] ad tb [] 1 0 (cL loc cr ck cah cw) (dY (aY w g1 [] ad1 tb1 [] 37 xV (cL loc cr ck cah cw) (eI (cW 7) (aU loc cr ck cah cw)) (bW p5) p1 302 []).t (.ok .next)) (bW p5) p 302 [] [] (.pure (.done Flow.next)) [] 0:=by unfold aW;kernel_rfl
section
theorem aH.less (h:aH m s s')(hm:∀a∈m,a∈m'\/s.heap.objs.size<=a):aH m' s s':=
 ⟨fun b x e q=>h.frame b x e fun z=>(hm b z).elim q fun w=>absurd (Heap.lt_size e) (Nat.not_lt.mpr w),h.size,h.toks,h.drawn,h.os,h.gens⟩
theorem At.ltAll {os:List Obj}(h:At s as os)(hl:as.length=os.length):∀a∈as,a<s.heap.objs.size:=fun a q=>by
 obtain⟨j,hj,rfl⟩:=List.mem_iff_getElem.mp q;exact Heap.lt_size (h.get j _ _ (List.getElem?_eq_getElem hj) (List.getElem?_eq_getElem (hl▸hj)))
section
variable{w:World}{s:Shared}{p:Pos}
theorem aJy {K:KP}{f0 f1 f2 f3:Nat}{sc:SC}{y0 y1 y2 y3:List (Int×Nat)}{o0:Option Value}(hS:K.S.Ok)(q0:kA (K.S.z 0 3) y0 y3)(q1:kA (K.S.z 1 0) y1 y0)(q2:kA (K.S.z 2 1) y2 y1)(q3:kA (K.S.z 3 2) y3 y2)(B:aT w s)(hF:At s K.F (K.PF w.params))(ndF:K.F.Nodup)(loF:∀a∈K.F,817<=a)(hlF:loc∉K.F)(hi:At s [K.fi,fid] [iM fid,jW sa s7 13 ρi ia ib ic id_ ie])(ndi:[loc,ck,K.c,K.ns,K.md,K.fi,fid].Nodup)(loi:∀a∈[loc,ck,K.c,K.ns,K.md,K.fi,fid],817<=a)(hl:s.heap.get? loc=some (cV w.params τ sc ln K.c od))(hck:s.heap.get? ck=some (aN o0))(hr:At s [cr,rl,r0,r1,r2,r3] [aN (some (.ref rl)),aA [.ref r0,.ref r1,.ref r2,.ref r3] er,aA (aR y0) f0,aA (aR y1) f1,aA (aR y2) f2,aA (aR y3) f3])(ndr:[loc,cr,ck,rl,r0,r1,r2,r3].Nodup)(lor:∀a∈[loc,cr,ck,rl,r0,r1,r2,r3],817<=a)(cF:ck∉K.F):
  Sem.wp (model PR w) (gL loc cr ck cah K.cw p5) (execs (cW 7) (aU loc cr ck cah K.cw)) (fun f u s'=>f= .next/\aH [ck,loc] s s') (fun u u u=>False) p s:=by
 rw[Fast.te12563942051412417395];refine lM (pF (t:=eI (cW 7) (aU loc cr ck cah K.cw)) (fun ad tb=>aJr w s.gens.size ad tb [] p loc cr ck cah K.cw p5) aE B trivial rfl List.nodup_nil aE (kB p5) fun ad tb px s₁ Q=> ?_);have X1:aH [] s s₁:=Q.ext.dropB fun y hy=>nomatch hy;have B1:=B.extB X1 aE;have mv:∀{as os},At s as os->At s₁ as os:=fun h=>h.extB X1;have fr:∀{a o},s.heap.get? a=some o->s₁.heap.get? a=some o:=fun h=>X1.frame _ _ h (by simp);have nit:s.heap.objs.size<=ad 1+817:=(Q.new 1 (Nat.zero_le _) dT).1
 have big:∀{as:List Nat} {os:List Obj},At s as os->as.length=os.length->ad 1+817∉as:=fun h hl q=>by
  have:=h.ltAll hl _ q
  lia
 refine aJn hS q0 q1 q2 q3 B1 (mv hF) ndF loF hlF (mv hi) ndi loi (fr hl) (fr hck) (Q.at_ 0 1 _ rfl rfl) (mv hr) ndr lor (Nat.le_add_left _ _) (big hF rfl)
  (big (os:=[_,_,_,_,_,_,_]) ⟨hl,hck,hF.get 11 _ _ rfl rfl,hF.get 12 _ _ rfl rfl,hF.get 13 _ _ rfl rfl,hi.1,hi.2.1,trivial⟩ rfl)
  (big (os:=[_,_,_,_,_,_,_,_]) ⟨hl,hr.1,hck,hr.2.1,hr.2.2.1,hr.2.2.2.1,hr.2.2.2.2.1,hr.2.2.2.2.2.1,trivial⟩ rfl) cF fun s₂ X2=> ?_
 have X:aH [ck,loc] s s₂:=((X1.mono aE).trans X2).less (aB (.inr nit) (aB (.inl (.head _)) (aD (.inl (.tail _ (.head _))))));have B2:=B.extB X (aB (loi _ (.tail _ (.head _))) (aD (loi _ (.head _))));exact bL (fun ad' tb'=>aJx w s₂.gens.size ad' tb' [] px s.gens.size ad tb p loc cr ck cah K.cw p5) aE B2 trivial rfl List.nodup_nil aE (kB p5) fun ad' tb' s₃ Q3=>⟨rfl,X.trans ((Q3.ext.dropB fun y hy=>nomatch hy).mono (m:=[]) aE)⟩
theorem aJz {sc:SC}(B:aT w s)(h:s.heap.get? loc=some (BM w.params τ sc ln wr))(lo:817<=loc):
  Sem.wp (model PR w) (gL loc cr ck cah cw p5) (execs (cW 4) (aU loc cr ck cah cw)) (fun f u s'=>f= .next/\∃od τ',aH [loc] s s'/\s'.heap.get? loc=some (cV w.params τ' sc ln wr od)/\s'.heap.get? od=some (aA [] 0)/\s.heap.objs.size<=od) (fun u u u=>False) p s:=by
 rw[Fast.te12563942051412417395]
 exact lM (P:=fun s'=>∃od τ',aH [loc] s s'/\s'.heap.get? loc=some (cV w.params τ' sc ln wr od)/\s'.heap.get? od=some (aA [] 0)/\s.heap.objs.size<=od)
  (bL (fun ad tb=>aJq w _ ad tb [] p loc cr ck cah cw ln wr τ sc p5) aE B ⟨h,trivial⟩ rfl (by simp) (aD lo) (kB p5) fun ad tb s' Q=>⟨rfl,ad 1+817,_,Q.ext.dropB fun y hy=> .inl hy,Q.at_ 0 0 _ rfl rfl,Q.at_ 1 1 _ rfl rfl,(Q.new 1 (Nat.le_refl _) dT).1⟩)
theorem aK0 (B:aT w s):
  Sem.wp (model PR w) (gL loc cr ck cah cw p5) (execs (cW 8) (aU loc cr ck cah cw)) (fun f v s'=>f= .ret (.bool true)/\aH [] s s') (fun v v v=>False) p s:=by
 rw[Fast.te12563942051412417395]
 exact Sem.wp_mono _ _ _ (fun u v s' q=>⟨Except.ok.inj q.1,q.2⟩) (fun e v s' q=>absurd q.1 (by intro z;nomatch z)) _ _ (iX (R:=fun r s'=>r= .ok (.ret (.bool true))/\aH [] s s') (enc:=fun x=>x)
  (bL (fun ad tb=>aJs w _ ad tb [] p loc cr ck cah cw p5) aE B trivial rfl List.nodup_nil aE (kB p5) fun ad tb s' Q=>⟨rfl,Q.ext.dropB fun y hy=>nomatch hy⟩))
end
end
noncomputable def scC(s:Scope):Scope:={s with names:=s.names.map fun(n,k)=>(n,match k with
 | .free=> .cell
 |k=>k)}
noncomputable def GT(e:Expr)(cells:List (Str×Nat))(env:Env)(d:Nat):Env:={scope:=scC (rU e),locals:=d,globals:=3,cells:=cells,qual:=env.qual,func:=none,code:=env.code,frame:=env.frame,builtins:=0}
noncomputable def xG(e:Expr)(it acc:Nat)(env:Env):Code:= .compStart e 0 (.ref it) (.ref acc) env
noncomputable def cP(e:Expr)(it acc:Nat)(env:Env):Code:= .compLoop e 0 (.ref it) (.ref acc) env
noncomputable def dO:Expr:=fW (bR (dK (bF jH) 2))
noncomputable def iW(loc cr ck cah cw d:Nat):Env:=GT dO [] (aU loc cr ck cah cw) d
noncomputable def GU(P:Params)(t q:Nat):Obj:=⟨tA,none,.dict ⟨[de P [114,111,119] t (.ref q)]⟩ 1,⟨[]⟩⟩
noncomputable def uM:Obj:=⟨tA,none,.dict ⟨[]⟩ 0,⟨[]⟩⟩
noncomputable def qY(P:Params)(o:Option (Nat×Nat)):Obj:=match o with
 |none=>uM
 |some x=>GU P x.1 x.2
noncomputable def tkO(o:Option (Nat×Nat))(t:Nat):Nat:=match o with
 |none=>t
 |some x=>x.1
noncomputable def UJ(b:Bool)(j1 j2:Nat)(l1 l2:List AV)(e1 e2 n i:Nat):HF:=fun A K=>⟨.builtin FM ⟨[.ref (A j1),.ref (A j2)],[]⟩,[(j1,aA (cX A K l1) e1),(j2,aA (cX A K l2) e2)],[],[],.ok (.ret (.bool b)),0,n,i,900,none⟩
noncomputable def UK(ch:Ch)(a:Nat):Array Value:=match chLook ch a with
 |some v=>v
 |none=>⟨[]⟩
theorem aK1(w:World)(g₀:Nat)(ad tb:Nat->Nat)(bl:List (Code×Pos))(p:Pos)(loc cr ck cah cw wl ew:Nat)(ws:List Value)(p5:Pos):
 let r:=aY w g₀ [cw,wl] ad tb [] 15 xZ
  (cL loc cr ck cah cw) (eI (cW 2) (aU loc cr ck cah cw)) (bW p5) p 302 [aN (some (.ref wl)),aA ws ew]
 fZ r [0,1,2,3,4]=iA r [bZ ⟨cL loc cr ck cah cw,none,none,(bW p5),none⟩ p 302] ⟨cL loc cr ck cah cw,none,none,(bW p5),none⟩ (some (xG dO (ad 2+817) (ad 3+817) (iW loc cr ck cah cw (ad 4+817)),none)) [some (aN (some (.ref wl))),some (aA ws ew),some (aO wl 0),some (aA [] 0),some (uM)] [] 5:=by intro r;kernel_rfl
theorem aK2(w:World)(g₀:Nat)(ad tb:Nat->Nat)(bl:List (Code×Pos))(p:Pos)(loc cr ck cah cw it wl acc dc ew k q:Nat)(ws:List Value)(p4 p5:Pos)(o:Option (Nat×Nat)):
 let r:=cN w g₀ [it,wl,dc] ad tb [eQ (Value.ref q) 0 1 k ws ew 3 0] 18 0x1800001801a002001
  (cP dO it acc (iW loc cr ck cah cw dc)) (cE loc cr ck cah cw p4 p5) p 303 [aO wl k,aA ws ew,qY w.params o]
 fZ r [0,1,2]=iA r [bZ ⟨cP dO it acc (iW loc cr ck cah cw dc),none,none,(cE loc cr ck cah cw p4 p5),none⟩ p 303] ⟨cP dO it acc (iW loc cr ck cah cw dc),none,none,(cE loc cr ck cah cw p4 p5),none⟩ (some (cJ q,none)) [some (aO wl (k+1)),some (aA ws ew),some (qY w.params (some (tkO o (aC tb 0),q)))] [] 3:=by cases o <;> (intro r;kernel_rfl)
section
variable (w:World)(g₀:Nat)
include g₀
theorem aK3 (ad tb:Nat->Nat)(bl:List (Code×Pos))(p:Pos)(loc cr ck cah cw it wl acc dc ew k q:Nat)(ws:List Value)(p4 p5:Pos):
 aZ w g₀ [it,wl] ad tb [iR 0 1 k ws ew 2 0] 7 301998081 (cP dO it acc (iW loc cr ck cah cw dc)) (cE loc cr ck cah cw p4 p5) p 303 [aO wl k,aA ws ew] [0,1] (.pure (.done Flow.next)) [litE k,aA ws ew] 4:=by unfold aZ;kernel_rfl
theorem aK4 (ad tb:Nat->Nat)(bl:List (Code×Pos))(p:Pos)(g1:Nat)(ad1 tb1:Nat->Nat)(p1:Pos)(loc cr ck cah cw it wl acc dc ew k q ea u:Nat)(ws av:List Value)(J:List Nat)(p4 p5:Pos)(o:Option (Nat×Nat)):
 fY w g₀ [acc] ad tb [qN 0 av ea (AV.str ⟨⟨J⟩⟩ (TR.l u)) 1 0] 4 8194 (cP dO it acc (iW loc cr ck cah cw dc)) (dY (cN w g1 [it,wl,dc] ad1 tb1 [eQ (Value.ref q) 0 1 k ws ew 3 0] 18 0x1800001801a002001 (cP dO it acc (iW loc cr ck cah cw dc)) (cE loc cr ck cah cw p4 p5) p1 303 [aO wl k,aA ws ew,qY w.params o]).t (.ok (.ret (sv J u)))) (cE loc cr ck cah cw p4 p5) p 303 [aA av ea] [0] (cP dO it acc (iW loc cr ck cah cw dc)) [aA (av++[sv J u]) (ea+1)] 1:=by cases o <;> (unfold fY;kernel_rfl)
theorem aK5 (bl:List (Code×Pos))(p:Pos)(b:Bool)(hq:w.params.followText "comprehension-iter-twice"=b)(g1:Nat)(ad1 tb1:Nat->Nat)(p1:Pos)(loc cr ck cah cw wl ew rl er r0 r1 r2 r3 tr qr:Nat)(ws:List Value)(J0:List Nat)(u0:Nat)(ρ0:List (Nat×Nat))(e0:Nat)(J1:List Nat)(u1:Nat)(ρ1:List (Nat×Nat))(e1:Nat)(J2:List Nat)(u2:Nat)(ρ2:List (Nat×Nat))(e2:Nat)(J3:List Nat)(u3:Nat)(ρ3:List (Nat×Nat))(e3:Nat)(p5:Pos):∃h_,∀ad tb:Nat->Nat,
 let r:=aY w g₀ [cr,rl,r0,r1,r2,r3,(ad1 3+817),(ad1 4+817)] ad tb [wL ⟨⟨J0⟩⟩ ρ0 e0 2 11 1,wL ⟨⟨J1⟩⟩ ρ1 e1 3 11 3,wL ⟨⟨J2⟩⟩ ρ2 e2 4 11 5,wL ⟨⟨J3⟩⟩ ρ3 e3 5 11 7,UJ false 6 9 [AV.str ⟨⟨J0⟩⟩ (TR.l u0),AV.str ⟨⟨J1⟩⟩ (TR.l u1),AV.str ⟨⟨J2⟩⟩ (TR.l u2),AV.str ⟨⟨J3⟩⟩ (TR.l u3)] [AV.str ⟨⟨J0⟩⟩ (TR.k 1),AV.str ⟨⟨J1⟩⟩ (TR.k 3),AV.str ⟨⟨J2⟩⟩ (TR.k 5),AV.str ⟨⟨J3⟩⟩ (TR.k 7)] 4 4 13 8] 201 h_
  (cL loc cr ck cah cw) (dY (aY w g1 [cw,wl] ad1 tb1 [] 15 xZ (cL loc cr ck cah cw) (eI (cW 2) (aU loc cr ck cah cw)) (bW p5) p1 302 [aN (some (.ref wl)),aA ws ew]).t (.ok .next)) (bW p5) p 302 [aN (some (.ref rl)),aA [.ref r0,.ref r1,.ref r2,.ref r3] er,aA (aP ρ0) e0,aA (aP ρ1) e1,aA (aP ρ2) e2,aA (aP ρ3) e3,aA [sv J0 u0,sv J1 u1,sv J2 u2,sv J3 u3] 4,GU w.params tr qr]
 dI r [0,1,2,3,4,5,6,7]=dJ r [] ⟨cL loc cr ck cah cw,none,none,(bW p5),none⟩ (.pure (.done Flow.next)) [some (aN (some (.ref rl))),some (aA [.ref r0,.ref r1,.ref r2,.ref r3] er),some (aA (aP ρ0) e0),some (aA (aP ρ1) e1),some (aA (aP ρ2) e2),some (aA (aP ρ3) e3),some (aA [sv J0 u0,sv J1 u1,sv J2 u2,sv J3 u3] 4),some (⟨tA,none,.dict ⟨[]⟩ 2,⟨[]⟩⟩)] [] 13:=by
 rw[nB hq];cases b;exact⟨(aQ 0x200e803805003805805805806804804801004804802401200a00a00a005200001600001601600 [171,gz,36,0x9004a0120120048009002002001008008008]),fun ad tb=>by intro r;kernel_rfl⟩;exact⟨(aQ 0x401d00700a00700b00b00b00d00 [171,gz,73,0xa00a00a005200001600001601600900900200900900480240048009002002001008008008]),fun ad tb=>by intro r;kernel_rfl⟩
end
section
theorem aK6 {l:Nat}(h:s.heap.get? it=some (aO l j)):s.heap.IsListIter it l j:=
 ⟨_,h,by show Value.type _=_;rw[<-SL.e3492446563574874994x13],rfl⟩
theorem UL {α:Type}{M:Model}{m:Sem α}{Q:α->Shared->Prop}{E:Value->Shared->Prop}(hn:Γ.handled=none)(h:∀D u,wpAny M ⟨none,D,none,none,u⟩ m Q E s):Sem.wp M Γ m (fun a v s'=>Q a s') (fun e v s'=>E e s') p s:=
 h _ _ Γ p ⟨hn,Nat.le_refl _,(fun v q=>nomatch q),(fun v q=>nomatch q),Nat.le_refl _⟩
section
variable{w:World}{s:Shared}{p:Pos}
theorem GV {e elt tg ie:Expr}{ifs:List Expr}{sc:Scope}{pos:Pos}{l:Nat}(he:e= .ListComp elt [⟨tg,ie,ifs,0⟩] sc pos)(hit:s.heap.get? it=some (aO l j))(h:∀p,wpCode (model PR w) ⟨cP e it acc env,none,none,bl,none⟩ R p s):wpCode (model PR w) ⟨xG e it acc env,none,none,bl,none⟩ R p s:=by
 subst he;rw[wpCode_iff_wp];show Sem.wp _ _ ((compStart (.ListComp elt [⟨tg,ie,ifs,0⟩] sc pos) 0 (.ref it) (.ref acc) env).onRaise _) _ _ p s;rw[Sem.wp_onRaise];unfold compStart;show Sem.wp _ _ (PySem.ask>>= _) _ _ p s;rw[Sem.wp_bind',Sem.wp_cmd_ask];split
 ·exact⟨rfl,h p⟩
 ·show Sem.wp _ _ (PySem.rule _>>= _) _ _ p s
  rw[Sem.wp_bind',Sem.wp_cmd_rule];show Sem.wp _ _ (standAt ie.pos>>= _) _ _ p s;rw[Sem.wp_bind',Sem.wp_cmd_standAt];rw[Sem.wp_bind'];have z:=UL (p:=ie.pos) (Γ:=⟨xG (.ListComp elt [⟨tg,ie,ifs,0⟩] sc pos) it acc env,none,none,bl,none⟩) rfl fun D u=>wpAny_pyIter_listiter (prog:=PR) (w:=w) (A:=⟨none,D,none,none,u⟩) (E:=fun k k=>False) (Q:=fun v s'=>v= .ref it/\s'=s) (aK6 hit) ⟨rfl,rfl⟩;refine Sem.wp_mono _ _ _ (fun v p' s' q=> ?_) (fun k k k q=>q.elim) _ _ z;obtain⟨rfl,rfl⟩:=q;exact⟨rfl,h p'⟩
end
structure dU(m:List Nat)(s s':Shared):Prop where
 frame:∀(b:Nat) x,s.heap.get? b=some x->b∉m->b≠769->s'.heap.get? b=some x
 size:s.heap.objs.size<=s'.heap.objs.size
 toks:s.toks<=s'.toks
 drawn:s'.drawn=s.drawn
 os:s'.os=s.os
 gens:AllBare s.gens->AllBare s'.gens
theorem dU.trans (h:dU m s s')(h':dU m s' s''):dU m s s'':=
 ⟨fun b x q1 q2 q3=>h'.frame b x (h.frame b x q1 q2 q3) q2 q3,Nat.le_trans h.size h'.size,Nat.le_trans h.toks h'.toks,h'.drawn.trans h.drawn,h'.os.trans h.os,fun q=>h'.gens (h.gens q)⟩
theorem dU.mono (h:dU m s s')(hm:∀a∈m,a∈m'):dU m' s s':=⟨fun b x q1 q2 q3=>h.frame b x q1 (fun z=>q2 (hm b z)) q3,h.size,h.toks,h.drawn,h.os,h.gens⟩
theorem dU.less (h:dU m s s')(hm:∀a∈m,a∈m'\/s.heap.objs.size<=a):dU m' s s':=
 ⟨fun b x e q=>h.frame b x e fun z=>(hm b z).elim q fun w=>absurd (Heap.lt_size e) (Nat.not_lt.mpr w),h.size,h.toks,h.drawn,h.os,h.gens⟩
theorem aH.toJ (h:aH m s s'):dU m s s':=⟨fun b x q1 q2 u=>h.frame b x q1 q2,h.size,h.toks,h.drawn,h.os,fun q=>by rw[h.gens];exact q⟩
theorem aT.extJ (b:aT w s)(e:dU m s s')(hm:∀a∈m,817<=a):aT w s':=
 ⟨fun a o ha ht=>e.frame a o (b.top a o ha ht) (fun z=>absurd ha (Nat.not_lt.mpr (hm a z))) (fun q=>by subst q;rw[nU w.params 769 dT] at ht;cases ht),Nat.le_trans b.sz e.size,Nat.le_trans b.tk e.toks⟩
theorem At.extJ {os:List Obj}(X:dU m s s')(h:At s as os)(lo:∀a∈as,817<=a)(hm:∀a∈as,a∉m):At s' as os:=by
 induction as generalizing os with
 |nil=>trivial
 |cons a as ih=>
  cases os with
  |nil=>exact h.elim
  |cons o os=>exact⟨X.frame a o h.1 (hm a (.head _)) (fun q=>by have:=lo a (.head _);lia),ih h.2 (fun b hb=>lo b (.tail _ hb)) fun b hb=>hm b (.tail _ hb)⟩
def JT(s:Shared)(c₀:Nat):Prop:=∃ps,s.heap.TableAt c₀ 769 ps/\(ps=⟨[]⟩\/∃cc:Nat,ps=⟨[.int 782 0,.int 20 0,.ref cc]⟩)
theorem FJ.ext (h:FJ s s' c cc):dU [] s s'/\JT s' c:=
 ⟨⟨fun b x q1 u q3=>h.frame b x q1 q3,h.size,h.toks,h.drawn,h.os,fun q y hy=>by
  rw[h.gens] at hy;rcases Array.mem_append.mp hy with hy |hy
  ·exact q y hy
  ·have:y= .finished:=by simpa using hy
   subst this;rfl⟩,_,h.tab,.inr ⟨cc,rfl⟩⟩
theorem JT.extB {c m}(h:JT s c)(X:aH m s s')(hc:c∉m)(h769:769∉m):JT s' c:=by
 obtain⟨ps,⟨⟨o,vs,a1,a2,a3,a4⟩,a5⟩,h⟩:=h;exact⟨ps,⟨⟨o,vs,X.frame _ _ a1 hc,a2,a3,a4⟩,X.frame _ _ a5 h769⟩,h⟩
section
variable{w:World}{s:Shared}{p:Pos}{R:Result->Shared->Prop}
theorem aK7 {x1:PySem.Expr}{x2:List Comprehension}{x3:Scope}{x4:Pos}{ci ca:Value}{ce:Env}{lb:List Stmt}{le:Env}{l:Nat}(hns:∀n∈ns,n<300)(hts:ts.length=ns.length)(htg:∀t∈ts,1335<=t)(hlen:ns.length<=100)(hd:frameCount (kQ x1 x2 x3 x4 dd ci ca ce lb le p3 p4 p5)<=365)(B:aT w s)(hl:s.heap.get? l=some (aA (bA (ns.map bE) ts) ep))(hl8:817<=l)(hT:JT s c₀)(hR:∀s' u,1335<=u->dU [] s s'->JT s' c₀->R (.ok (.ret (sv (eF (ns.map bK)) u))) s'):
  wpCode (model PR w) ⟨cJ l,none,none,kQ x1 x2 x3 x4 dd ci ca ce lb le p3 p4 p5,none⟩ R p s:=by
 obtain⟨ps,hT,q⟩:=hT;rcases q with rfl |⟨cc,rfl⟩
 ·exact RK (m:=none) hns hts htg hlen hd B hl hl8 hT fun s' u cc' hu h=>hR s' u hu h.ext.1 h.ext.2
 ·exact RK (m:=some _) hns hts htg hlen hd B hl hl8 hT fun s' u cc' hu h=>hR s' u hu h.ext.1 h.ext.2
theorem UM:dO= .ListComp (fW dO) (jL dO) (rU dO) dO.pos:=by kernel_rfl
theorem aK8(e:Expr)(it acc:Nat)(env:Env):(cP e it acc env).weight<=1:=by
 have h:∀b:Bool,(if b=true then 1 else 0)<=1:=fun b=>by cases b <;> decide
 exact h (cP e it acc env).isFrame
theorem aK9 {eq:Nat}{ws av:List Value}{o:Option (Nat×Nat)}(hk:ws[k]? =some (.ref q))(hns:∀n∈ns,n<300)(hts:ts.length=ns.length)(htg:∀t∈ts,1335<=t)(hlen:ns.length<=100)(hav:av.length<=sizeLine)(B:aT w s)(ha:At s [it,wl,dc] [aO wl k,aA ws ew,qY w.params o])(nd:[it,wl,dc].Nodup)(lo:∀a∈[it,wl,dc],817<=a)(hacc:s.heap.get? acc=some (aA av ea))(hq:s.heap.get? q=some (aA (bA (ns.map bE) ts) eq))(hT:JT s c₀)(hc:c₀<817)(a8:817<=acc)(q8:817<=q)(ham:acc∉[it,wl,dc])(hqm:q∉[it,wl,dc])(hR:∀p s' u t,dU [it,dc,acc] s s'->s'.heap.get? it=some (aO wl (k+1))->s'.heap.get? acc=some (aA (av++[sv (eF (ns.map bK)) u]) (ea+1))->s'.heap.get? dc=some (qY w.params (some (t,q)))->JT s' c₀->
   wpCode (model PR w) ⟨cP dO it acc (iW loc cr ck cah cw dc),none,none,cE loc cr ck cah cw p4 p5,none⟩ R p s'):
  wpCode (model PR w) ⟨cP dO it acc (iW loc cr ck cah cw dc),none,none,cE loc cr ck cah cw p4 p5,none⟩ R p s:=by
 refine wH (fun ad tb=>aK2 w s.gens.size ad tb [] p loc cr ck cah cw it wl acc dc ew k q ws p4 p5 o) (aD (kP hk dT dT dT)) B ha rfl nd lo (eY ..) dT fun ad tb px s₁ Q=> ?_
 have X1:aH [it,dc] s s₁:=Q.ext.dropB fun y hy=>by
  rcases List.mem_cons.mp hy with rfl |hy
  ·exact .inl (.head _)
  rcases List.mem_cons.mp hy with rfl |hy
  ·exact .inr ⟨_,ha.2.1,Q.at_ 1 1 _ rfl rfl⟩
  ·exact .inl (.tail _ hy)
 have m2:∀a∈[it,dc],817<=a:=aB (lo _ (.head _)) (aD (lo _ (.tail _ (.tail _ (.head _)))))
 have n2:∀{y:Nat},y∉[it,wl,dc]->y∉[it,dc]:=fun h q=>h (by
  cases q with
  |head=>exact .head _
  |tail _ q=>exact .tail _ (.tail _ q))
 have nc:∀{y:Nat},y<817->y∉[it,dc]:=fun h q=>by have:=m2 _ q;lia
 have hit:=Q.at_ 0 0 _ rfl rfl;have hdc:=Q.at_ 2 2 _ rfl rfl
 have eb:(cP dO it acc (iW loc cr ck cah cw dc),px)::cE loc cr ck cah cw p4 p5=kQ (fW dO) (jL dO) (rU dO) dO.pos 0 (.ref it) (.ref acc) (iW loc cr ck cah cw dc) (bF jH) (aU loc cr ck cah cw) px p4 p5:=by
  unfold cP kQ;rw[<-UM];rfl
 rw[eb]
 refine aK7 hns hts htg hlen (by
  rw[<-eb,frameCount_cons];have:=eY loc cr ck cah cw p4 p5;have:=aK8 dO it acc (iW loc cr ck cah cw dc)
  lia) (B.extB X1 m2) (X1.frame _ _ hq (n2 hqm)) q8 (hT.extB X1 (nc hc) (nc dT)) fun s₂ u hu X2 hT2=> ?_
 have B2:=(B.extB X1 m2).extJ X2 aE;have k2:∀{y:Nat} {o:Obj},s₁.heap.get? y=some o->817<=y->s₂.heap.get? y=some o:=fun h l=>X2.frame _ _ h (by simp) (by lia);refine oX (fun ad' tb'=>aK4 w s₂.gens.size ad' tb' [] px s.gens.size ad tb p loc cr ck cah cw it wl acc dc ew k q ea u ws av (eF (ns.map bK)) p4 p5 o) (fun v v=>by unfold cP;kernel_rfl) (aD (tJ hav dT rfl)) B2 ⟨k2 (X1.frame _ _ hacc (n2 ham)) a8,trivial⟩ rfl (by simp) (aD a8) (eY ..) fun ad' tb' py s₃ Q3=> ?_;have X3:aH [acc] s₂ s₃:=Q3.ext.dropB fun y hy=> .inl hy
 have na:∀{y:Nat},y∈[it,wl,dc]->y∉[acc]:=fun h q=>by
  cases q with
  |head=>exact ham h
  |tail _ q=>nomatch q
 refine hR py s₃ u _ (((X1.toJ.mono (fun a q=>by
  cases q with
  |head=>exact .head _
  |tail _ q=>exact .tail _ (by cases q with |head=>exact .head _ |tail _ q=>nomatch q))).trans (X2.mono aE)).trans (X3.toJ.mono fun a q=>by
   cases q with
   |head=>exact .tail _ (.tail _ (.head _))
   |tail _ q=>nomatch q)) (X3.frame _ _ (k2 hit (m2 _ (.head _))) (na (.head _))) (Q3.at_ 0 0 _ rfl rfl) (X3.frame _ _ (k2 hdc (m2 _ (.tail _ (.head _)))) (na (.tail _ (.tail _ (.head _))))) (hT2.extB X3 (fun q=>by
    cases q with
    |head=>lia
    |tail _ q=>nomatch q) (fun q=>by
    cases q with
    |head=>lia
    |tail _ q=>nomatch q))
end
end
section
open MeetsSeq MeetsSeq3 SeqAt SeqRoads2
theorem UN(A K:Nat->Nat):∀(l:List (Str×TR)) (j:Nat),(cX A K (dG l))[j]? =(l[j]?).map fun q=> .str q.1 (q.2.ev K)
 | [],_=>by simp[dG,cX]
 | (x,t)::l,0=>rfl
 | (x,t)::l,j+1=>by
  have:=UN A K l j;simpa[dG,cX,AV.ev] using this
theorem UO(A K:Nat->Nat):∀l:List AV,(cX A K l).length=l.length
 | []=>rfl
 |_::l=>congrArg (·+1) (UO A K l)
theorem UP:∀l:List (Str×TR),(dG l).length=l.length
 | []=>rfl
 |_::l=>congrArg (·+1) (UP l)
theorem aKa {kt:KT}{l1 l2:List (Str×TR)}(h:l1.map (·.1)=l2.map (·.1))(h1:j1<n)(h2:j2<n)(k1:bQ n i (dG l1)=true)(k2:bQ n i (dG l2)=true):
  aG (model prog w) kt (UJ false j1 j2 (dG l1) (dG l2) e1 e2 n i):=by
 refine zU (B:=Builtin.«list.__ne__») (by rw[<-RV];exact F.entry_list_ne) (fun A K=>[.ref (A j1),.ref (A j2)]) (fun A K=>[(j1,aA (cX A K (dG l1)) e1),(j2,aA (cX A K (dG l2)) e2)]) (fun u u=> .bool false) n i ?_ ?_ (fun u u u u u u=>rfl) fun A K=> ?_
 ·intro A K A' K' a1 a2
  show[Value.ref (A' j1),.ref (A' j2)]=[Value.ref (A j1),.ref (A j2)];rw[a1 j1 h1,a1 j2 h2]
 ·intro A K A' K' a1 a2
  show[(j1,aA (cX A' K' (dG l1)) e1),(j2,aA (cX A' K' (dG l2)) e2)]=[(j1,aA (cX A K (dG l1)) e1),(j2,aA (cX A K (dG l2)) e2)];rw[rV a1 a2 k1,rV a1 a2 k2]
 ·have hl:l1.length=l2.length:=by simpa using congrArg List.length h
  have sz:∀l:List (Str×TR),(⟨cX A K (dG l)⟩:Array Value).size=l.length:=fun l=>(UO A K _).trans (UP l)
  have el:∀(l:List (Str×TR)) (j:Nat) (hj:j<(⟨cX A K (dG l)⟩:Array Value).size),∃hj':j<l.length,(⟨cX A K (dG l)⟩:Array Value)[j]= .str l[j].1 (l[j].2.ev K):=fun l j hj=>by
   have hj':j<l.length:=by rw[sz] at hj;exact hj
   refine⟨hj',?_⟩;have z:=UN A K l j;have hj2:j<(cX A K (dG l)).length:=hj;rw[List.getElem?_eq_getElem hj',List.getElem?_eq_getElem hj2] at z;exact Option.some.inj z
  intro prog w A' R s q;refine list_neAt (A j1) (A j2) ⟨cX A K (dG l1)⟩ ⟨cX A K (dG l2)⟩ e1 e2 none none #[] #[] (by rw[sz,sz];exact hl) (fun u=>true) prog w A' R s ⟨q.1 (j1,_) (.head _),q.1 (j2,_) (.tail _ (.head _)),fun j h1 h2=> ?_,by rw[show (List.range (⟨cX A K (dG l1)⟩:Array Value).size).all (fun u=>true)=true by simp];exact q.2⟩;obtain⟨a1,b1⟩:=el l1 j h1;obtain⟨a2,b2⟩:=el l2 j h2;rw[b1,b2]
  have e:l1[j].1=l2[j].1:=by
   have z:=congrArg (·[j]?) h;simpa[List.getElem?_map,List.getElem?_eq_getElem a1,List.getElem?_eq_getElem a2] using z
  have g:=EqGives.str l1[j].1 l2[j].1 (l1[j].2.ev K) (l2[j].2.ev K);rw[e] at g ⊢;rw[beq_self_eq_true] at g;exact g.at _ _
theorem aKb:∃elt tg ie ifs sc pos,dO= .ListComp elt [⟨tg,ie,ifs,0⟩] sc pos:=by
 have h:∃tg ie ifs,jL dO=[⟨tg,ie,ifs,0⟩]:=⟨(match jL dO with |g::_=>g.target | []=>default),(match jL dO with |g::_=>g.iter | []=>default),(match jL dO with |g::_=>g.ifs | []=>[]),by kernel_rfl⟩;refine bC fun zz=> ?_;obtain⟨tg,ie,ifs,h⟩:=h;refine zz ?_;exact⟨_,tg,ie,ifs,_,_,by rw[<-h];exact UM⟩
section
variable{w:World}{s:Shared}{p:Pos}{R:Result->Shared->Prop}
def mL(N T:List Nat):Prop:=(∀n∈N,n<300)/\N.length<=100/\T.length=N.length/\∀t∈T,1335<=t
theorem aKc {q0 E0 E1 E2 E3:Nat}{N0 N1 N2 N3 T0 T1 T2 T3:List Nat}(h0:mL N0 T0)(h1:mL N1 T1)(h2:mL N2 T2)(h3:mL N3 T3)(B:aT w s)(ha:At s [it,wl,dc,acc,q0,q1,q2,q3] [aO wl 0,aA [.ref q0,.ref q1,.ref q2,.ref q3] ew,uM,aA [] 0,aA (bA (N0.map bE) T0) E0,aA (bA (N1.map bE) T1) E1,aA (bA (N2.map bE) T2) E2,aA (bA (N3.map bE) T3) E3])(nd:[it,wl,dc,acc,q0,q1,q2,q3].Nodup)(lo:∀a∈[it,wl,dc,acc,q0,q1,q2,q3],817<=a)(hT:JT s c₀)(hc:c₀<817)(hR:∀s' u0 u1 u2 u3 t,dU [it,dc,acc] s s'->s'.heap.get? acc=some (aA [sv (eF (N0.map bK)) u0,sv (eF (N1.map bK)) u1,sv (eF (N2.map bK)) u2,sv (eF (N3.map bK)) u3] 4)->s'.heap.get? dc=some (GU w.params t q3)->JT s' c₀->R (.ok .next) s'):
  wpCode (model PR w) ⟨cP dO it acc (iW loc cr ck cah cw dc),none,none,cE loc cr ck cah cw p4 p5,none⟩ R p s:=by
 have ndp:=fun sl hb=>bO nd sl hb;have m3:∀a∈[it,dc,acc],817<=a:=aB (lo _ (.head _)) (aB (lo _ (.tail _ (.tail _ (.head _)))) (aD (lo _ (.tail _ (.tail _ (.tail _ (.head _)))))));have ndq:[it,wl,dc].Nodup:=ndp [0,1,2] rfl;have acm:acc∉[it,wl,dc]:=(List.nodup_cons.mp (ndp [3,0,1,2] rfl)).1;have wlm:wl∉[it,dc,acc]:=(List.nodup_cons.mp (ndp [1,0,2,3] rfl)).1
 have turn:∀(k q E ea:Nat) (N T:List Nat) (o:Option (Nat×Nat)) (av:List Value) (s₁:Shared) (p₁:Pos),[Value.ref q0,.ref q1,.ref q2,.ref q3][k]? =some (.ref q)->mL N T->s.heap.get? q=some (aA (bA (N.map bE) T) E)->817<=q->[q,it,wl,dc,acc].Nodup->av.length<=4->
   dU [it,dc,acc] s s₁->s₁.heap.get? it=some (aO wl k)->s₁.heap.get? acc=some (aA av ea)->s₁.heap.get? dc=some (qY w.params o)->JT s₁ c₀->
   (∀p s' u t,dU [it,dc,acc] s s'->s'.heap.get? it=some (aO wl (k+1))->s'.heap.get? acc=some (aA (av++[sv (eF (N.map bK)) u]) (ea+1))->s'.heap.get? dc=some (qY w.params (some (t,q)))->JT s' c₀->wpCode (model PR w) ⟨cP dO it acc (iW loc cr ck cah cw dc),none,none,cE loc cr ck cah cw p4 p5,none⟩ R p s')->
   wpCode (model PR w) ⟨cP dO it acc (iW loc cr ck cah cw dc),none,none,cE loc cr ck cah cw p4 p5,none⟩ R p₁ s₁:=fun k q E ea N T o av s₁ p₁ hk hG hq q8 ndq' hav X g1 g2 g3 g4 hh=>by
  have qm:q∉[it,dc,acc]:=(List.nodup_cons.mp (bO ndq' [0,1,3,4] rfl)).1;have qm':q∉[it,wl,dc]:=(List.nodup_cons.mp (bO ndq' [0,1,2,3] rfl)).1
  exact aK9 hk hG.1 hG.2.2.1 hG.2.2.2 hG.2.1 (Nat.le_trans hav dT) (B.extJ X m3) ⟨g1,X.frame _ _ ha.2.1 wlm (by have:=lo wl (.tail _ (.head _));lia),g3,trivial⟩ ndq (fun a q=>lo a (by
   cases q with
   |head=>exact .head _
   |tail _ q=>cases q with
    |head=>exact .tail _ (.head _)
    |tail _ q=>exact .tail _ (.tail _ (by cases q with |head=>exact .head _ |tail _ q=>nomatch q)))) g2 (X.frame _ _ hq qm (by lia)) g4 hc (m3 _ (.tail _ (.tail _ (.head _)))) q8 acm qm' fun p s' u t X' a b c d=>hh p s' u t (X.trans X') a b c d
 refine turn 0 q0 E0 0 N0 T0 none [] s p rfl h0 ha.2.2.2.2.1 (lo _ (mI 4)) (ndp [4,0,1,2,3] rfl) (Nat.zero_le _) ((aH.refl s).toJ.mono aE) ha.1 ha.2.2.2.1 ha.2.2.1 hT fun p1 s1 u0 t1 X1 a1 b1 c1 d1=> ?_;refine turn 1 q1 E1 1 N1 T1 _ _ s1 p1 rfl h1 ha.2.2.2.2.2.1 (lo _ (mI 5)) (ndp [5,0,1,2,3] rfl) (Nat.le_of_ble_eq_true rfl) X1 a1 b1 c1 d1 fun p2 s2 u1 t2 X2 a2 b2 c2 d2=> ?_;refine turn 2 q2 E2 2 N2 T2 _ _ s2 p2 rfl h2 ha.2.2.2.2.2.2.1 (lo _ (mI 6)) (ndp [6,0,1,2,3] rfl) (Nat.le_of_ble_eq_true rfl) X2 a2 b2 c2 d2 fun p3 s3 u2 t3 X3 a3 b3 c3 d3=> ?_;refine turn 3 q3 E3 3 N3 T3 _ _ s3 p3 rfl h3 ha.2.2.2.2.2.2.2.1 (lo _ (mI 7)) (ndp [7,0,1,2,3] rfl) (Nat.le_of_ble_eq_true rfl) X3 a3 b3 c3 d3 fun p4' s4 u3 t4 X4 a4 b4 c4 d4=> ?_
 refine cT (fun ad tb=>aK3 w s4.gens.size ad tb [] p4' loc cr ck cah cw it wl acc dc ew 4 0 [.ref q0,.ref q1,.ref q2,.ref q3] p4 p5) (aD (oA rfl dT dT dT)) (B.extJ X4 m3)
  ⟨a4,X4.frame _ _ ha.2.1 wlm (by have:=lo wl (.tail _ (.head _));lia),trivial⟩ rfl (ndp [0,1] rfl) (aB (lo _ (.head _)) (aD (lo _ (.tail _ (.head _))))) (eY ..) dT fun ad tb s5 Q=> ?_
 have X5:aH [it] s4 s5:=Q.ext.dropB fun y hy=>by
  rcases List.mem_cons.mp hy with rfl |hy
  ·exact .inl (.head _)
  rcases List.mem_cons.mp hy with rfl |hy
  ·exact .inr ⟨_,X4.frame _ _ ha.2.1 wlm (by have:=lo y (.tail _ (.head _));lia),Q.at_ 1 1 _ rfl rfl⟩
  ·nomatch hy
 have ni:∀{y},y≠it->y∉[it]:=fun h q=>by cases q with |head=>exact h rfl |tail _ q=>nomatch q
 have lit:=lo it (.head _);have nda:=ndp [0,3,2] rfl;have nda:[it,acc,dc].Nodup:=nda;simp only[List.nodup_cons,List.mem_cons,List.not_mem_nil,or_false,not_or] at nda;exact hR s5 u0 u1 u2 u3 t4 (X4.trans (X5.toJ.mono fun a q=>by cases q with |head=>exact .head _ |tail _ q=>nomatch q)) (X5.frame _ _ b4 (ni (Ne.symm nda.1.1))) (X5.frame _ _ c4 (ni (Ne.symm nda.1.2))) (d4.extB X5 (ni (by lia)) (ni (by lia)))
theorem aKd {q0 E0 E1 E2 E3 e3:Nat}{ρ0 ρ1 ρ2 ρ3:List (Nat×Nat)}{T0 T1 T2 T3:List Nat}(h0:mL (ρ0.map (·.1)) T0/\ρ0.length<=8)(h1:mL (ρ1.map (·.1)) T1/\ρ1.length<=8)(h2:mL (ρ2.map (·.1)) T2/\ρ2.length<=8)(h3:mL (ρ3.map (·.1)) T3/\ρ3.length<=8)(B:aT w s)(ha:At s [cw,wl,q0,q1,q2,q3,cr,rl,r0,r1,r2,r3] [aN (some (.ref wl)),aA [.ref q0,.ref q1,.ref q2,.ref q3] ew,aA (bA ((ρ0.map (·.1)).map bE) T0) E0,aA (bA ((ρ1.map (·.1)).map bE) T1) E1,aA (bA ((ρ2.map (·.1)).map bE) T2) E2,aA (bA ((ρ3.map (·.1)).map bE) T3) E3,
   aN (some (.ref rl)),aA [.ref r0,.ref r1,.ref r2,.ref r3] er,aA (aP ρ0) e0,aA (aP ρ1) e1,aA (aP ρ2) e2,aA (aP ρ3) e3])(nd:[cw,wl,q0,q1,q2,q3,cr,rl,r0,r1,r2,r3].Nodup)(lo:∀a∈[cw,wl,q0,q1,q2,q3,cr,rl,r0,r1,r2,r3],817<=a)(hT:JT s c₀)(hc:c₀<817):
  Sem.wp (model PR w) (gL loc cr ck cah cw p5) (execs (cW 2) (aU loc cr ck cah cw)) (fun f u s'=>f= .next/\dU [] s s'/\JT s' c₀) (fun u u u=>False) p s:=by
 rw[Fast.te12563942051412417395];have ndw:[cw,wl].Nodup:=bO nd [0,1] rfl;refine lM (P:=fun s'=>dU [] s s'/\JT s' c₀) (pF (t:=eI (cW 2) (aU loc cr ck cah cw)) (fun ad tb=>aK1 w s.gens.size ad tb [] p loc cr ck cah cw wl ew [.ref q0,.ref q1,.ref q2,.ref q3] p5) aE B ⟨ha.1,ha.2.1,trivial⟩ rfl ndw (aB (lo _ (mI 0)) (aD (lo _ (mI 1)))) (kB p5) fun ad tb px s₁ Q=> ?_);have X1:aH [] s s₁:=aJ.rest (m:=[]) (ks:=[cw,wl]) (os:=[aN (some (.ref wl)),aA [.ref q0,.ref q1,.ref q2,.ref q3] ew]) Q.ext ⟨ha.1,ha.2.1,trivial⟩ (Q.ats [0,1]);have B1:=B.extB X1 aE;have ha1:=ha.extB X1;have z:=Q.nd [2,4,3] rfl;have z1:[ad 2+817,ad 4+817,ad 3+817].Nodup:=z.1;have z2:∀a∈[ad 2+817,ad 4+817,ad 3+817],s.heap.objs.size<=a:=z.2;have ndA:=qA nd (ha.ltAll rfl) z1 z2;have loA:∀a∈[cw,wl,q0,q1,q2,q3,cr,rl,r0,r1,r2,r3]++[ad 2+817,ad 4+817,ad 3+817],817<=a:=fun a q=>(List.mem_append.mp q).elim (lo a) fun q=>Nat.le_trans B.sz (z2 a q);refine bC fun zz=> ?_;obtain⟨elt,tg,ie,ifs,sc,pos,he⟩:=aKb;refine zz ?_;refine GV he (Q.at_ 2 2 _ rfl rfl) fun p2=> ?_;refine aKc (p4:=px) (c₀:=c₀) h0.1 h1.1 h2.1 h3.1 B1 ⟨Q.at_ 2 2 _ rfl rfl,ha1.2.1,Q.at_ 4 4 _ rfl rfl,Q.at_ 3 3 _ rfl rfl,ha1.2.2.1,ha1.2.2.2.1,ha1.2.2.2.2.1,ha1.2.2.2.2.2.1,trivial⟩ (bO ndA [12,1,13,14,2,3,4,5] rfl) (eE loA [12,1,13,14,2,3,4,5] rfl) (hT.extB X1 (by simp) (by simp)) hc fun s₂ u0 u1 u2 u3 t X2 hacc hdc hT2=> ?_;have X:dU [] s s₂:=((X1.toJ.mono aE).trans X2).less (aB (.inr (z2 _ (.head _))) (aB (.inr (z2 _ (.tail _ (.head _)))) (aD (.inr (z2 _ (.tail _ (.tail _ (.head _))))))));have B2:=B.extJ X aE;have ha2:=ha.extJ X lo (fun a u=>by simp);obtain⟨hh,e⟩:=aK5 w s₂.gens.size [] px _ rfl s.gens.size ad tb p loc cr ck cah cw wl ew rl er r0 r1 r2 r3 t q3 [.ref q0,.ref q1,.ref q2,.ref q3] (eF ((ρ0.map (·.1)).map bK)) u0 ρ0 e0 (eF ((ρ1.map (·.1)).map bK)) u1 ρ1 e1 (eF ((ρ2.map (·.1)).map bK)) u2 ρ2 e2 (eF ((ρ3.map (·.1)).map bK)) u3 ρ3 e3 p5;have pl:∀{ρ:List (Nat×Nat)},(⟨⟨eF ((ρ.map (·.1)).map bK)⟩⟩:Str)=⟨⟨eF (ρ.map fun q=>bK q.1)⟩⟩:=by intro ρ;rw[List.map_map];rfl
 have n3:∀{ρ:List (Nat×Nat)} {T:List Nat},mL (ρ.map (·.1)) T->∀q∈ρ,q.1<=300:=fun h q hq=>Nat.le_of_lt (h.1 _ (List.mem_map_of_mem hq))
 refine bL e (aB (AJ pl h0.2 (n3 h0.1) dT) (aB (AJ pl h1.2 (n3 h1.1) dT) (aB (AJ pl h2.2 (n3 h2.1) dT) (aB (AJ pl h3.2 (n3 h3.1) dT)
  (aD (aKa (l1:=[(_,.l u0),(_,.l u1),(_,.l u2),(_,.l u3)]) (l2:=[(_,.k 1),(_,.k 3),(_,.k 5),(_,.k 7)]) rfl dT dT rfl rfl))))))
  B2 ⟨ha2.2.2.2.2.2.2.1,ha2.2.2.2.2.2.2.2.1,ha2.2.2.2.2.2.2.2.2.1,ha2.2.2.2.2.2.2.2.2.2.1,ha2.2.2.2.2.2.2.2.2.2.2.1,ha2.2.2.2.2.2.2.2.2.2.2.2.1,hacc,hdc,trivial⟩ rfl (bO ndA [6,7,8,9,10,11,14,13] rfl) (eE loA [6,7,8,9,10,11,14,13] rfl) (kB p5) fun ad' tb' s₃ Q3=>⟨rfl,?_,?_⟩
 all_goals
  have X3:aH [ad 4+817] s₂ s₃:=Q3.ext.dropB (aB (.inr ⟨_,ha2.2.2.2.2.2.2.1,Q3.at_ 0 0 _ rfl rfl⟩) (aB (.inr ⟨_,ha2.2.2.2.2.2.2.2.1,Q3.at_ 1 1 _ rfl rfl⟩) (aB (.inr ⟨_,ha2.2.2.2.2.2.2.2.2.1,Q3.at_ 2 2 _ rfl rfl⟩) (aB (.inr ⟨_,ha2.2.2.2.2.2.2.2.2.2.1,Q3.at_ 3 3 _ rfl rfl⟩) (aB (.inr ⟨_,ha2.2.2.2.2.2.2.2.2.2.2.1,Q3.at_ 4 4 _ rfl rfl⟩) (aB (.inr ⟨_,ha2.2.2.2.2.2.2.2.2.2.2.2.1,Q3.at_ 5 5 _ rfl rfl⟩) (aB (.inr ⟨_,hacc,Q3.at_ 6 6 _ rfl rfl⟩) (aD (.inl (.head _))))))))))
 ·exact((X.mono aE).trans X3.toJ).less (aD (.inr (z2 _ (.tail _ (.head _)))))
 ·have:=z2 _ (.tail _ (.head _))
  have:=B.sz;exact hT2.extB X3 (by simp;lia) (by simp)
end
end
theorem UQ(w:World)(g₀:Nat)(ad tb:Nat->Nat)(bl:List (Code×Pos))(p:Pos)(loc cr ck cah cw ln:Nat)(τ:Nat->Nat)(sc:SC)(p5:Pos):
 let r:=dC w g₀ [] [(46,⟨[]⟩),(813,⟨[]⟩)] [loc] ad tb [TI w.params sV (TR.k 8) (TR.k 23) (TR.k 79) 11 13 18 25 33 41 49 57 65 66 10 24 32 40 48 56 64 26 34 42 50 58 67 81] 368 (aQ 0x4004014014014022811411600 [19,CH,7,234938375,23,rK,11,9347728343096,22,gk,11,4673864171548,22,gZ,11,2336932085774,20,mP,7,69646,6,57351,23,rK,11,9347728343096,22,gk,3,1088,19,CH,9,30072112000,19,CH,7,57358,34,917608,19,90134,36,0])
  (cL loc cr ck cah cw) (eI (cW 3) (aU loc cr ck cah cw)) (bW p5) p 302 [pZ w.params τ sc ln]
 (tL r [0,7,8,10,24,25,32,33,40,41,48,49,56,57,64,65,67,68,69],r.G)=(tM r [] ⟨cL loc cr ck cah cw,none,none,(bW p5),none⟩ (.pure (.done Flow.next)) [some (BM w.params (bX τ 2 (aC tb 85)) sc ln (ad 68+817)),some (mG (cO (aC tb) [0,1,2,6,7]) (ad 2+817) (ad 3+817) (ad 4+817) (ad 5+817) (ad 6+817)),some (mF cw (ad 7+817) (ad 1+817)),some (aN (some (.ref (ad 8+817)))),some (jW sa s7 13 (cO (aC tb) [25,26,27,30,31]) (ad 19+817) (ad 20+817) (ad 21+817) (ad 22+817) (ad 23+817)),some (iM (ad 24+817)),some (jW rF sx 16 (cO (aC tb) [33,34,35,39,40]) (ad 27+817) (ad 28+817) (ad 29+817) (ad 30+817) (ad 31+817)),some (pN (ad 10+817) (ad 32+817) (ad 26+817)),some (jW rG sy 19 (cO (aC tb) [42,43,44,48,49]) (ad 35+817) (ad 36+817) (ad 37+817) (ad 38+817) (ad 39+817)),some (pO (ad 10+817) (ad 40+817) (ad 34+817)),some (jW rH sA 22 (cO (aC tb) [51,52,53,57,58]) (ad 43+817) (ad 44+817) (ad 45+817) (ad 46+817) (ad 47+817)),some (pP (ad 10+817) (ad 48+817) (ad 42+817)),some (jW rI sB 25 (cO (aC tb) [60,61,62,66,67]) (ad 51+817) (ad 52+817) (ad 53+817) (ad 54+817) (ad 55+817)),some (pQ (ad 10+817) (ad 56+817) (ad 50+817)),some (jW rJ sC 28 (cO (aC tb) [69,70,71,75,76]) (ad 59+817) (ad 60+817) (ad 61+817) (ad 62+817) (ad 63+817)),some (pR (ad 10+817) (ad 64+817) (ad 58+817)),some (iT w.params (BH (cO (aC tb) sV) (aC tb 82) (aC tb 83)) (ad 18+817) (ad 25+817) (ad 33+817) (ad 41+817) (ad 49+817) (ad 57+817) (ad 65+817) (ad 66+817) (ad 69+817)),some (bY (ad 68+817) (ad 67+817) (ad 11+817) (aC tb 8) (aC tb 17)),some (dE (ad 68+817) (aC tb 81))] 70 [(46,UK r.ch 46),(813,UK r.ch 813)],[]):=by intro r;kernel_rfl
section
noncomputable def GW{α:Type}(a b c d e:α)(k:Nat):α:=match k with
 |0=>a
 |1=>b
 |2=>c
 |3=>d
 |_=>e
noncomputable def KP.N(K:KP)(fid:Nat):List Nat:=[K.f 0,K.f 1,K.f 2,K.f 3,K.f 4,K.d 0,K.d 1,K.d 2,K.d 3,K.d 4,K.mc,K.c,K.ns,K.md,K.lm,K.cdl,K.fi,fid]
def Q3(w:World)(s:Shared)(loc ln cw wl q0 q1 q2 q3:Nat)(sc:SC)(S:WS)(s':Shared):Prop:=∀C:Prop,(∀(K:KP) (τ' ρi:Nat->Nat) (fid ia ib ic id_ ie:Nat),(K.S=S/\K.cw=cw/\K.wl=wl/\K.q0=q0/\K.q1=q1/\K.q2=q2/\K.q3=q3)->aT w s'->dU [loc,46,813] s s'->((∀(b:Nat) x,s.heap.get? b=some x->b∉[loc,46,813]->s'.heap.get? b=some x)/\(∃v,s'.heap.get? 46=some (tableObj v))/\∃v,s'.heap.get? 813=some (tableObj v))->
   s'.heap.get? loc=some (BM w.params τ' sc ln K.c)->At s' K.F (K.PF w.params)->At s' [K.fi,fid] [iM fid,jW sa s7 13 ρi ia ib ic id_ ie]->
   (K.N fid).Nodup->(∀a∈K.N fid,s.heap.objs.size<=a)->C)->C
section
variable{w:World}{s:Shared}{p:Pos}
set_option tactic.hygienic true in
theorem aKe {q0:Nat}{sc:SC}{S:WS}(B:aT w s)(hl:s.heap.get? loc=some (pZ w.params τ sc ln))(lo:817<=loc)(ha:At s [cw,wl,q0,q1,q2,q3] [aN (some (.ref wl)),oI ew q0 q1 q2 q3,S.o 0,S.o 1,S.o 2,S.o 3])(loq:∀a∈[cw,wl,q0,q1,q2,q3],817<=a)(nl:loc∉[cw,wl,q0,q1,q2,q3])(h46:s.heap.TableAt c46 46 ⟨[]⟩)(h813:s.heap.TableAt c813 813 ⟨[]⟩):
  Sem.wp (model PR w) (gL loc cr ck cah cw p5) (execs (cW 3) (aU loc cr ck cah cw)) (fun f _ s'=>f= .next/\Q3 w s loc ln cw wl q0 q1 q2 q3 sc S s') (fun _ _ _=>False) p s:=by
 rw[Fast.te12563942051412417395]
 refine lM (P:=fun s'=>Q3 w s loc ln cw wl q0 q1 q2 q3 sc S s') (zV (t:=eI (cW 3) (aU loc cr ck cah cw)) (gs₀:=s.gens) (G₀:=[]) (fun ad tb=>congrArg Prod.fst (UQ w s.gens.size ad tb [] p loc cr ck cah cw ln τ sc p5)) (by apply Array.ext';simp) (fun a vs h=> ?_)
  (aD (aIh dT dT dT dT dT rfl rfl rfl)) B ⟨hl,trivial⟩ rfl (by simp) (aD lo) (kB p5) fun ad tb px s' Q=>qI ⟨rfl,?_⟩)
 ·have h:(match Nat.beq 46 a with |true=>some _ |false=>(match Nat.beq 813 a with |true=>some _ |false=>none))=some vs:=h
  split at h
  ·rename_i q
   have q:=Nat.eq_of_beq_eq_true q;subst q;injection h with h
   subst h;exact⟨by decide,c46,h46⟩
  ·split at h
   ·rename_i q
    have q:=Nat.eq_of_beq_eq_true q;subst q;injection h with h
    subst h;exact⟨by decide,c813,h813⟩
   ·cases h
 ·have hG:(dC w s.gens.size [] _ [loc] ad tb _ _ _ _ _ (bW p5) p 302 _).G=[]:=congrArg Prod.snd (UQ w s.gens.size ad tb [] p loc cr ck cah cw ln τ sc p5)
  have hgens:s'.gens=s.gens:=by
   rw[Q.gens,hG];apply Array.ext';simp
  have fr:∀(b:Nat) x,s.heap.get? b=some x->b∉[loc,46,813]->s'.heap.get? b=some x:=fun b x q1 q2=>by
   simp only[List.mem_cons,List.not_mem_nil,or_false,not_or] at q2;refine Q.frame b x q1 (by simpa using q2.1) ?_;show (match Nat.beq 46 b with |true=>some _ |false=>(match Nat.beq 813 b with |true=>some _ |false=>none))=none;split
   ·rename_i h
    exact absurd (Nat.eq_of_beq_eq_true h).symm q2.2.1
   ·split
    ·rename_i h
     exact absurd (Nat.eq_of_beq_eq_true h).symm q2.2.2
    ·rfl
  have X:dU [loc,46,813] s s':=⟨fun b x q1 q2 _=>fr b x q1 q2,Q.size,Q.toks,Q.drawn,Q.os,fun q=>by rw[hgens];exact q⟩;have ha':=ha.extJ X loq fun a q q'=>(show ∀x∈[loc,46,813],a≠x from aB (fun e=>nl (e▸q)) (aB (fun e=>absurd (e▸loq a q:817<=46) dT) (aD fun e=>absurd (e▸loq a q:817<=813) dT))) a q' rfl;have pkok:pk 1 70 [33,41,49,57,65,32,40,48,56,64,10,68,67,69,8,7,25,24]=true:=rfl;have hb:=(mZ pkok).2
  refine fun C k=>k ⟨S,ad 11+817,aC tb 8,aC tb 17,aC tb 81,ad 18+817,ad 25+817,ad 66+817,ad 68+817,ad 67+817,ad 69+817,ad 10+817,ad 8+817,ad 7+817,cw,wl,q0,q1,q2,q3,ad 1+817,ew,ad 2+817,ad 3+817,ad 4+817,ad 5+817,ad 6+817,
    BH (cO (aC tb) sV) (aC tb 82) (aC tb 83),cO (aC tb) [0,1,2,6,7],GW (ad 33+817) (ad 41+817) (ad 49+817) (ad 57+817) (ad 65+817),GW (ad 32+817) (ad 40+817) (ad 48+817) (ad 56+817) (ad 64+817),
    GW (ad 26+817) (ad 34+817) (ad 42+817) (ad 50+817) (ad 58+817),fun i=>cO (aC tb) [33+9*i,34+9*i,35+9*i,39+9*i,40+9*i],fun i j=>ad (26+8*i+j)+817⟩
   (bX τ 2 (aC tb 85)) (cO (aC tb) [25,26,27,30,31]) (ad 24+817) (ad 19+817) (ad 20+817) (ad 21+817) (ad 22+817) (ad 23+817) ⟨rfl,rfl,rfl,rfl,rfl,rfl,rfl⟩ (B.extG Q (aD lo)) X ⟨fr,⟨_,(Q.tabs 46 _ rfl).2.1⟩,⟨_,(Q.tabs 813 _ rfl).2.1⟩⟩ (Q.at_ 0 0 _ rfl rfl) ?_ ⟨Q.at_ 5 25 _ rfl rfl,Q.at_ 4 24 _ rfl rfl,trivial⟩
   (rY (A:=bG [loc] ad) (sl:=[33,41,49,57,65,32,40,48,56,64,10,68,67,69,8,7,25,24]) (mZ pkok).1 (fun i hi j hj e=>Q.inj i j (hb i hi).2 (hb j hj).2 e)) (fun a hm=> ?_)
  ·exact⟨Q.at_ 7 33 _ rfl rfl,Q.at_ 9 41 _ rfl rfl,Q.at_ 11 49 _ rfl rfl,Q.at_ 13 57 _ rfl rfl,Q.at_ 15 65 _ rfl rfl,Q.at_ 6 32 _ rfl rfl,Q.at_ 8 40 _ rfl rfl,Q.at_ 10 48 _ rfl rfl,Q.at_ 12 56 _ rfl rfl,Q.at_ 14 64 _ rfl rfl,Q.at_ 3 10 _ rfl rfl,Q.at_ 17 68 _ rfl rfl,Q.at_ 16 67 _ rfl rfl,Q.at_ 18 69 _ rfl rfl,Q.at_ 2 8 _ rfl rfl,Q.at_ 1 7 _ rfl rfl,
    ha'.1,ha'.2.1,ha'.2.2.1,ha'.2.2.2.1,ha'.2.2.2.2.1,ha'.2.2.2.2.2.1,trivial⟩
  ·have hm:a∈bM (bG [loc] ad) [33,41,49,57,65,32,40,48,56,64,10,68,67,69,8,7,25,24]:=hm
   obtain⟨j,hj,rfl⟩:=lW hm;exact(Q.new j (hb j hj).1 (hb j hj).2).1
end
end
noncomputable def UR:List Nat:=[108,105,115,116,46,95,95,97,100,100,95,95]
noncomputable def US:String:=sE UR rfl
theorem aKf:"list.__add__"=US:=cA UR rfl
noncomputable def UT:List Nat:=[108,105,115,116,46,95,95,99,111,110,116,97,105,110,115,95,95]
noncomputable def UU:String:=sE UT rfl
theorem aKg:"list.__contains__"=UU:=cA UT rfl
noncomputable def kC:Stmt:=dK (bF jH) 5
noncomputable def kT(loc cr ck cah cw it:Nat):Code:= .forLoop (bR kC) (.ref it) (bF kC) (fV kC) (aU loc cr ck cah cw)
noncomputable def nO(i:Nat):List Stmt:=[dK (bF kC) i]
noncomputable def kD:Expr:=bR (dK (bF kC) 0)
noncomputable def kE:Expr:=fW (bR (dK (bF kC) 1))
noncomputable def oK(loc cr ck cah cw d:Nat):Env:=GT kD [(SJ,cr),(nK,ck)] (aU loc cr ck cah cw) d
noncomputable def oL(loc cr ck cah cw d:Nat):Env:=GT kE [(SK,cah)] (aU loc cr ck cah cw) d
noncomputable def kU(P:Params)(o:Option (Nat×Nat×Nat)):Obj:=match o with
 |none=>uM
 |some (t,z,u)=>⟨tA,none,.dict ⟨[de P [111,116,104,101,114] t (.int (Int.ofNat z) u)]⟩ 1,⟨[]⟩⟩
noncomputable def BO(o:Option (Nat×Nat×Nat))(t:Nat):Nat:=match o with
 |none=>t
 |some x=>x.1
noncomputable def kG(loc cr ck cah cw it:Nat)(p3 p4 p5:Pos):List (Code×Pos):=(kT loc cr ck cah cw it,p3)::cE loc cr ck cah cw p4 p5
noncomputable def BP(va vb:List Value)(e1 e2 j1 j2 n i:Nat):HF:=fun A u=>⟨.builtin US ⟨[.ref (A j1),.ref (A j2)],[]⟩,[(j1,aA va e1),(j2,aA vb e2)],[],[aA (va++vb) 0],.ok (.ret (.ref (A n))),0,n,i,900,none⟩
noncomputable def GX(b:Bool)(vs:List Value)(e j:Nat)(z:Int)(t:Nat)(n i:Nat):HF:=fun A u=>⟨.builtin UU ⟨[.ref (A j),.int z t],[]⟩,[(j,aA vs e)],[],[],.ok (.ret (.bool b)),0,n,i,900,none⟩
theorem aKh(w:World)(g₀:Nat)(ad tb:Nat->Nat)(bl:List (Code×Pos))(p:Pos)(loc cr ck cah cw:Nat)(p5:Pos):
 let r:=aY w g₀ [] ad tb [] 37 xV
  (cL loc cr ck cah cw) (eI (cW 5) (aU loc cr ck cah cw)) (bW p5) p 302 []
 fZ r [1]=iA r [bZ ⟨cL loc cr ck cah cw,none,none,(bW p5),none⟩ p 302] ⟨cL loc cr ck cah cw,none,none,(bW p5),none⟩ (some (kT loc cr ck cah cw (ad 1+817),none)) [some (fA 0 4)] [] 2:=by intro r;kernel_rfl
theorem aKi(w:World)(g₀:Nat)(ad tb:Nat->Nat)(bl:List (Code×Pos))(p:Pos)(loc cr ck cah cw it:Nat)(ln wr od eo:Nat)(τ:Nat->Nat)(sc:SC)(ov:List Value)(p4 p5:Pos):
 let r:=aY w g₀ [loc,od] ad tb [] 15 xZ
  (kT loc cr ck cah cw it) (eI (nO 0) (aU loc cr ck cah cw)) (cE loc cr ck cah cw p4 p5) p 303 [cV w.params τ sc ln wr od,aA ov eo]
 fZ r [0,1,2,3,4]=iA r [bZ ⟨kT loc cr ck cah cw it,none,none,(cE loc cr ck cah cw p4 p5),none⟩ p 303] ⟨kT loc cr ck cah cw it,none,none,(cE loc cr ck cah cw p4 p5),none⟩ (some (xG kD (ad 2+817) (ad 3+817) (oK loc cr ck cah cw (ad 4+817)),none)) [some (cV w.params τ sc ln wr od),some (aA ov eo),some (aO od 0),some (aA [] 0),some (uM)] [] 5:=by intro r;kernel_rfl
theorem aKj(w:World)(g₀:Nat)(ad tb:Nat->Nat)(bl:List (Code×Pos))(p:Pos)(loc cr ck cah cw it:Nat)(ln wr od eo ah ea k tk:Nat)(τ:Nat->Nat)(sc:SC)(ov av:List Value)(p4 p5:Pos):
 let r:=aY w g₀ [loc,od,cah,ah,ck] ad tb [BP av [Value.int (Int.ofNat k) tk] ea 0 3 5 6 0] 30 JH
  (kT loc cr ck cah cw it) (eI (nO 1) (aU loc cr ck cah cw)) (cE loc cr ck cah cw p4 p5) p 303 [cV w.params τ sc ln wr od,aA ov eo,aN (some (.ref ah)),aA av ea,aN (some (.int (Int.ofNat k) tk))]
 fZ r [0,1,2,3,4,6,7,8,9]=iA r [bZ ⟨kT loc cr ck cah cw it,none,none,(cE loc cr ck cah cw p4 p5),none⟩ p 303] ⟨kT loc cr ck cah cw it,none,none,(cE loc cr ck cah cw p4 p5),none⟩ (some (xG kE (ad 7+817) (ad 8+817) (oL loc cr ck cah cw (ad 9+817)),none)) [some (cV w.params τ sc ln wr od),some (aA ov eo),some (aN (some (.ref ah))),some (aA av ea),some (aN (some (.int (Int.ofNat k) tk))),some (aA (av++[.int (Int.ofNat k) tk]) 0),some (aO od 0),some (aA [] 0),some (uM)] [] 10:=by intro r;kernel_rfl
section
variable (w:World)(g₀:Nat)
theorem aKk (ad tb:Nat->Nat)(bl:List (Code×Pos))(p:Pos)(loc cr ck cah cw it iB acc dc od eo ea j z u:Nat)(ov av:List Value)(o:Option (Nat×Nat×Nat))(p3 p4 p5:Pos)(rl er ro rk k tk e1 e2:Nat)(rv va vb:List Value):
 eZ w g₀ [iB,dc,acc,od,ck,cr,rl,ro,rk] ad tb [eQ (Value.int (Int.ofNat z) u) 0 3 j ov eo 9 0,lX (Value.ref ro) 6 (Int.ofNat z) rv er (TR.l u) 9 1,lX (Value.ref rk) 6 (Int.ofNat k) rv er (TR.l tk) 9 1,BK true 7 8 va vb e1 e2 9 1,qN 2 av ea (AV.int (Int.ofNat z) (TR.l u)) 9 1] 49 (aQ 2149056672 [61,IE]) (cP kD iB acc (oK loc cr ck cah cw dc)) (kG loc cr ck cah cw it p3 p4 p5) p 304 [aO od j,kU w.params o,aA av ea,aA ov eo,aN (some (.int (Int.ofNat k) tk)),aN (some (.ref rl)),aA rv er,aA va e1,aA vb e2] [0,1,2,3,4,5,6,7,8] (cP kD iB acc (oK loc cr ck cah cw dc)) [aO od (j+1),kU w.params (some (BO o (aC tb 0),z,u)),aA (av++[.int (Int.ofNat z) u]) (ea+1),aA ov eo,aN (some (.int (Int.ofNat k) tk)),aN (some (.ref rl)),aA rv er,aA va e1,aA vb e2] 9:=by cases o <;> (unfold eZ;kernel_rfl)
theorem aKl (ad tb:Nat->Nat)(bl:List (Code×Pos))(p:Pos)(loc cr ck cah cw it iB acc dc od eo ea j z u:Nat)(ov av:List Value)(o:Option (Nat×Nat×Nat))(p3 p4 p5:Pos)(rl er ro rk k tk e1 e2:Nat)(rv va vb:List Value):
 eZ w g₀ [iB,dc,acc,od,ck,cr,rl,ro,rk] ad tb [eQ (Value.int (Int.ofNat z) u) 0 3 j ov eo 9 0,lX (Value.ref ro) 6 (Int.ofNat z) rv er (TR.l u) 9 1,lX (Value.ref rk) 6 (Int.ofNat k) rv er (TR.l tk) 9 1,BK false 7 8 va vb e1 e2 9 1] 44 (aQ 32 [61,IE]) (cP kD iB acc (oK loc cr ck cah cw dc)) (kG loc cr ck cah cw it p3 p4 p5) p 304 [aO od j,kU w.params o,aA av ea,aA ov eo,aN (some (.int (Int.ofNat k) tk)),aN (some (.ref rl)),aA rv er,aA va e1,aA vb e2] [0,1,2,3,4,5,6,7,8] (cP kD iB acc (oK loc cr ck cah cw dc)) [aO od (j+1),kU w.params (some (BO o (aC tb 0),z,u)),aA av ea,aA ov eo,aN (some (.int (Int.ofNat k) tk)),aN (some (.ref rl)),aA rv er,aA va e1,aA vb e2] 9:=by cases o <;> (unfold eZ;kernel_rfl)
theorem aKm (ad tb:Nat->Nat)(bl:List (Code×Pos))(p:Pos)(loc cr ck cah cw it iB acc dc od eo ea j z u:Nat)(ov av:List Value)(o:Option (Nat×Nat×Nat))(p3 p4 p5:Pos)(ah ew:Nat)(wv:List Value):
 eZ w g₀ [iB,dc,acc,od,cah,ah] ad tb [eQ (Value.int (Int.ofNat z) u) 0 3 j ov eo 6 0,GX false wv ew 5 (Int.ofNat z) u 6 1,qN 2 av ea (AV.int (Int.ofNat z) (TR.l u)) 6 1] 27 0x400c0050060030030028010010012002001 (cP kE iB acc (oL loc cr ck cah cw dc)) (kG loc cr ck cah cw it p3 p4 p5) p 304 [aO od j,kU w.params o,aA av ea,aA ov eo,aN (some (.ref ah)),aA wv ew] [0,1,2,3,4,5] (cP kE iB acc (oL loc cr ck cah cw dc)) [aO od (j+1),kU w.params (some (BO o (aC tb 0),z,u)),aA (av++[.int (Int.ofNat z) u]) (ea+1),aA ov eo,aN (some (.ref ah)),aA wv ew] 6:=by cases o <;> (unfold eZ;kernel_rfl)
theorem aKn (ad tb:Nat->Nat)(bl:List (Code×Pos))(p:Pos)(loc cr ck cah cw it iB acc dc od eo ea j z u:Nat)(ov av:List Value)(o:Option (Nat×Nat×Nat))(p3 p4 p5:Pos)(ah ew:Nat)(wv:List Value):
 eZ w g₀ [iB,dc,acc,od,cah,ah] ad tb [eQ (Value.int (Int.ofNat z) u) 0 3 j ov eo 6 0,GX true wv ew 5 (Int.ofNat z) u 6 1] 22 0x10060030030028010010012002001 (cP kE iB acc (oL loc cr ck cah cw dc)) (kG loc cr ck cah cw it p3 p4 p5) p 304 [aO od j,kU w.params o,aA av ea,aA ov eo,aN (some (.ref ah)),aA wv ew] [0,1,2,3,4,5] (cP kE iB acc (oL loc cr ck cah cw dc)) [aO od (j+1),kU w.params (some (BO o (aC tb 0),z,u)),aA av ea,aA ov eo,aN (some (.ref ah)),aA wv ew] 6:=by cases o <;> (unfold eZ;kernel_rfl)
theorem aKo (ad tb:Nat->Nat)(bl:List (Code×Pos))(p:Pos)(loc cr ck cah cw it iB acc dc od eo ea j z u:Nat)(ov av:List Value)(o:Option (Nat×Nat×Nat))(p3 p4 p5:Pos):
 aZ w g₀ [iB,od] ad tb [iR 0 1 j ov eo 2 0] 7 301998081 (cP kD iB acc (oK loc cr ck cah cw dc)) (kG loc cr ck cah cw it p3 p4 p5) p 304 [aO od j,aA ov eo] [0,1] (.pure (.done Flow.next)) [litE j,aA ov eo] 4:=by unfold aZ;kernel_rfl
theorem aKp (ad tb:Nat->Nat)(bl:List (Code×Pos))(p:Pos)(loc cr ck cah cw it iB acc dc od eo ea j z u:Nat)(ov av:List Value)(o:Option (Nat×Nat×Nat))(p3 p4 p5:Pos):
 aZ w g₀ [iB,od] ad tb [iR 0 1 j ov eo 2 0] 7 301998081 (cP kE iB acc (oL loc cr ck cah cw dc)) (kG loc cr ck cah cw it p3 p4 p5) p 304 [aO od j,aA ov eo] [0,1] (.pure (.done Flow.next)) [litE j,aA ov eo] 4:=by unfold aZ;kernel_rfl
theorem aKq (ad tb:Nat->Nat)(bl:List (Code×Pos))(p:Pos)(g1:Nat)(ad1 tb1:Nat->Nat)(p1:Pos)(loc cr ck cah cw:Nat)(p5:Pos):
 aW w g₀ [] ad tb [] 1 0 (cL loc cr ck cah cw) (dY (aY w g1 [] ad1 tb1 [] 37 xV (cL loc cr ck cah cw) (eI (cW 5) (aU loc cr ck cah cw)) (bW p5) p1 302 []).t (.ok .next)) (bW p5) p 302 [] [] (.pure (.done Flow.next)) [] 0:=by unfold aW;kernel_rfl
theorem aKr (bl:List (Code×Pos))(p:Pos)(g1:Nat)(ad1 tb1:Nat->Nat)(p1:Pos)(loc cr ck cah cw it ln wr od eo:Nat)(τ:Nat->Nat)(sc:SC)(ov:List Value)(p4 p5:Pos)(oo:Option Value)(o:Option (Nat×Nat×Nat)):∃h_,∀ad tb:Nat->Nat,
 aW w g₀ [cah,(ad1 4+817)] ad tb [] 11 h_ (kT loc cr ck cah cw it) (dY (aY w g1 [loc,od] ad1 tb1 [] 15 xZ (kT loc cr ck cah cw it) (eI (nO 0) (aU loc cr ck cah cw)) (cE loc cr ck cah cw p4 p5) p1 303 [cV w.params τ sc ln wr od,aA ov eo]).t (.ok .next)) (cE loc cr ck cah cw p4 p5) p 303 [aN oo,kU w.params o] [0] (.pure (.done Flow.next)) [aN (some (.ref (ad1 3+817)))] 2:=by
 rcases o with _ |⟨t,z,u⟩
 exact⟨16781314,fun ad tb=>by unfold aW;kernel_rfl⟩;exact⟨281543729750018,fun ad tb=>by unfold aW;kernel_rfl⟩
theorem aKs (bl:List (Code×Pos))(p:Pos)(g1:Nat)(ad1 tb1:Nat->Nat)(p1:Pos)(loc cr ck cah cw it ln wr od eo ah ea k tk eb:Nat)(τ:Nat->Nat)(sc:SC)(ov av bv:List Value)(p4 p5:Pos)(o:Option (Nat×Nat×Nat)):∃h_,∀ad tb:Nat->Nat,
 aW w g₀ [loc,(ad1 6+817),(ad1 8+817),(ad1 9+817)] ad tb [BP (av++[Value.int (Int.ofNat k) tk]) bv 0 eb 1 2 4 0] 22 h_ (kT loc cr ck cah cw it) (dY (aY w g1 [loc,od,cah,ah,ck] ad1 tb1 [BP av [Value.int (Int.ofNat k) tk] ea 0 3 5 6 0] 30 JH (kT loc cr ck cah cw it) (eI (nO 1) (aU loc cr ck cah cw)) (cE loc cr ck cah cw p4 p5) p1 303 [cV w.params τ sc ln wr od,aA ov eo,aN (some (.ref ah)),aA av ea,aN (some (.int (Int.ofNat k) tk))]).t (.ok .next)) (cE loc cr ck cah cw p4 p5) p 303 [cV w.params τ sc ln wr od,aA (av++[.int (Int.ofNat k) tk]) 0,aA bv eb,kU w.params o] [0,1,2,4] (.pure (.done Flow.next)) [cV w.params τ sc ln wr (ad 4+817),aA (av++[.int (Int.ofNat k) tk]) 0,aA bv eb,aA ((av++[.int (Int.ofNat k) tk])++bv) 0] 5:=by
 rcases o with _ |⟨t,z,u⟩
 exact⟨0x800a004002003002004,fun ad tb=>by unfold aW;kernel_rfl⟩;exact⟨0x800a004002003002004004004,fun ad tb=>by unfold aW;kernel_rfl⟩
end
section
theorem xH:∀a b:List (Nat×Nat),aP (a++b)=aP a++aP b
 | [],_=>rfl
 |q::a,b=>congrArg (Value.int (Int.ofNat q.1) q.2::·) (xH a b)
theorem uN:∀a:List (Nat×Nat),(aP a).length=a.length
 | []=>rfl
 |_::a=>congrArg (·+1) (uN a)
theorem UV{y:Value}:∀{a:List (Nat×Nat)},y∈aP a->∃q∈a,y= .int (Int.ofNat q.1) q.2
 |q::a,h=>by
  rcases List.mem_cons.mp h with h |h
  ·exact⟨q,.head _,h⟩
  ·obtain⟨r,h1,h2⟩:=UV h
   exact⟨r,.tail _ h1,h2⟩
theorem UW(z:Nat):∀a:List (Nat×Nat),(aP a).any (fun y=>match y with | .int x _=>x == Int.ofNat z |_=>false)=(a.map (·.1)).elem z
 | []=>rfl
 |q::a=>by
  show ((Int.ofNat q.1 == Int.ofNat z) || (aP a).any _)=_;rw[UW z a,List.map_cons,List.elem_cons]
  have:(Int.ofNat q.1 == Int.ofNat z)=(z == q.1):=by
   rw[Bool.eq_iff_iff,beq_iff_eq,beq_iff_eq];exact⟨fun h=>(Int.ofNat.inj h).symm,fun h=>by rw[h]⟩
  rw[this];cases z == q.1 <;> rfl
section
variable{prog:Program}{w:World}{kt:KT}
theorem UX {va vb:List Value}(hl:va.length+vb.length<=sizeLine)(h1:j1<n)(h2:j2<n):aG (model prog w) kt (BP va vb e1 e2 j1 j2 n i):=by
 refine EJ (B:=Builtin.«list.__add__») (by rw[<-aKf];exact entryFor_of_fast (by kernel_rfl)) (fun A K=>[.ref (A j1),.ref (A j2)]) (fun A K=>[(j1,aA va e1),(j2,aA vb e2)]) (fun u u=>aA (va++vb) 0) n i ?_ (fun u u u u u u=>rfl) (fun u u u u u u=>rfl) (fun u u=>rfl) fun A K prog w A' R s q=> ?_
 ·intro A K A' K' a1 a2
  show[Value.ref (A' j1),.ref (A' j2)]=[Value.ref (A j1),.ref (A j2)];rw[a1 j1 h1,a1 j2 h2]
 ·refine AutoSeq1.list___add___list_list_0 (A j1) ⟨va⟩ e1 (A j2) ⟨vb⟩ e2 hl prog w A' R s ⟨?_,?_,?_⟩
  ·have:=q.1 (j1,aA va e1) (.head _)
   rw[this];unfold aA;rw[<-SL.e9222952809800978799x4]
  ·have:=q.1 (j2,aA vb e2) (.tail _ (.head _))
   rw[this];unfold aA;rw[<-SL.e9222952809800978799x4]
  ·have e:(aA (va++vb) 0)={cls:=Value.type "list",data:=Data.seq ((⟨va⟩:Array Value)++⟨vb⟩)}:=by
    unfold aA;rw[<-SL.e9222952809800978799x4];have:(⟨va⟩:Array Value)++⟨vb⟩=⟨va++vb⟩:=by apply Array.ext';simp
    rw[this]
   rw[<-e];exact q.2
theorem UY {a:List (Nat×Nat)}{z:Nat}(h:(a.map (·.1)).elem z=b)(hj:j<n):aG (model prog w) kt (GX b (aP a) e j (Int.ofNat z) t n i):=by
 refine zU (B:=Builtin.«list.__contains__») (by rw[<-aKg];exact F.entry_list_contains) (fun A K=>[.ref (A j),.int (Int.ofNat z) t]) (fun A K=>[(j,aA (aP a) e)]) (fun u u=> .bool b) n i ?_ (fun u u u u u u=>rfl) (fun u u u u u u=>rfl) fun A K prog w A' R s q=> ?_
 ·intro A K A' K' a1 a2
  show[Value.ref (A' j),.int (Int.ofNat z) t]=[Value.ref (A j),.int (Int.ofNat z) t];rw[a1 j hj]
 ·refine MeetsSeq.list_contains (A j) ⟨aP a⟩ e (.int (Int.ofNat z) t) (fun y=>match y with | .int x _=>x == Int.ofNat z |_=>false) (fun y hy=> ?_) prog w A' R s ⟨?_,?_⟩
  ·obtain⟨q,_,rfl⟩:=UV (a:=a) (by simpa using hy)
   exact MeetsSeq.EqGives.int _ _ _ _
  ·have:=q.1 (j,aA (aP a) e) (.head _)
   rw[this];unfold aA;rw[<-SL.e9222952809800978799x4]
  ·have:(⟨aP a⟩:Array Value).any (fun y=>match y with | .int x _=>x == Int.ofNat z |_=>false)=b:=by
    rw[<-h,<-UW z a];simp
   rw[this];exact q.2
end
structure FS(w:World)(s₀ s:Shared)(iB dc acc od j:Nat)(av:List (Nat×Nat))(ea:Nat)(o:Option (Nat×Nat×Nat)):Prop where
 X:aH [iB,dc,acc] s₀ s
 it:s.heap.get? iB=some (aO od j)
 di:s.heap.get? dc=some (kU w.params o)
 ac:s.heap.get? acc=some (aA (aP av) ea)
 le:av.length<=j
section
variable{w:World}{s₀:Shared}{R:Result->Shared->Prop}
theorem UZ (qs:List (Nat×Nat))(f:Nat->Bool)(turn:∀j q av ea o s p,qs[j]? =some q->FS w s₀ s iB dc acc od j av ea o->(∀p' s' ea' t,FS w s₀ s' iB dc acc od (j+1) (if f q.1 then av++[q] else av) ea' (some (t,q.1,q.2))->wpCode (model PR w) Γ R p' s')->wpCode (model PR w) Γ R p s)(fin:∀ea o s p,FS w s₀ s iB dc acc od qs.length (qs.filter fun q=>f q.1) ea o->wpCode (model PR w) Γ R p s){o:Option (Nat×Nat×Nat)}(h:FS w s₀ s iB dc acc od 0 [] ea o):wpCode (model PR w) Γ R p s:=by
 have go:∀(suf pre:List (Nat×Nat)),qs=pre++suf->∀ea o s p,FS w s₀ s iB dc acc od pre.length (pre.filter fun q=>f q.1) ea o->wpCode (model PR w) Γ R p s:=by
  intro suf;induction suf with
  |nil=>
   intro pre hq ea o s p h;rw[List.append_nil] at hq;subst hq;exact fin ea o s p h
  |cons q suf ih=>
   intro pre hq ea o s p h;refine turn pre.length q _ ea o s p (by rw[hq];simp) h fun p' s' ea' t h'=>ih (pre++[q]) (by rw[hq];simp) ea' (some (t,q.1,q.2)) s' p' ?_
   have e:(pre++[q]).filter (fun q=>f q.1)=if f q.1 then pre.filter (fun q=>f q.1)++[q] else pre.filter fun q=>f q.1:=by
    rw[List.filter_append];cases hf:f q.1 <;> simp[hf]
   rw[e,List.length_append];exact h'
 exact go qs [] rfl ea o s p h
end
theorem VA{e:Expr}(h:e= .ListComp (fW e) (jL e) (rU e) e.pos)(h2:∃tg ie ifs,jL e=[⟨tg,ie,ifs,0⟩]):∃elt tg ie ifs sc pos,e= .ListComp elt [⟨tg,ie,ifs,0⟩] sc pos:=by
 obtain⟨tg,ie,ifs,h2⟩:=h2;exact⟨_,tg,ie,ifs,_,_,by rw[<-h2];exact h⟩
noncomputable def VB(l:List Comprehension):Expr:=match l with
 |g::_=>g.target
 | []=>default
noncomputable def VC(l:List Comprehension):Expr:=match l with
 |g::_=>g.iter
 | []=>default
noncomputable def VD(l:List Comprehension):List Expr:=match l with
 |g::_=>g.ifs
 | []=>[]
theorem aKt:∃elt tg ie ifs sc pos,kD= .ListComp elt [⟨tg,ie,ifs,0⟩] sc pos:=VA (by kernel_rfl) ⟨VB (jL kD),VC (jL kD),VD (jL kD),by kernel_rfl⟩
theorem aKu:∃elt tg ie ifs sc pos,kE= .ListComp elt [⟨tg,ie,ifs,0⟩] sc pos:=VA (by kernel_rfl) ⟨VB (jL kE),VC (jL kE),VD (jL kE),by kernel_rfl⟩
theorem uO(loc cr ck cah cw it:Nat)(p3 p4 p5:Pos):frameCount (kG loc cr ck cah cw it p3 p4 p5)<=304:=by
 unfold kG;rw[frameCount_cons];have:=eY loc cr ck cah cw p4 p5;have h:(kT loc cr ck cah cw it).weight<=1:=vI (by kernel_rfl)
 lia
theorem aKv{A N:List Nat}(h:A.Nodup)(h':N.Nodup)(hd:∀a∈A,a∉N):(A++N).Nodup:=List.nodup_append.mpr ⟨h,h',fun a ha b hb e=>hd a ha (e▸hb)⟩
section
variable{w:World}{s:Shared}{p:Pos}{R:Result->Shared->Prop}
theorem aKw {ro rk:Nat}{q:Nat×Nat}{av:List (Nat×Nat)}{xa xb:List (Int×Nat)}{rv:List Value}{o:Option (Nat×Nat×Nat)}(hz:qs[j]? =some q)(h1:rv[q.1]? =some (.ref ro))(h2:rv[k]? =some (.ref rk))(hq:q.1<4)(hk:k<4)(hj:j<4)(hle:cB .LtE (sL xa xb)=b)(B:aT w s₀)(F:FS w s₀ s iB dc acc od j av ea o)(ha:At s₀ [od,ck,cr,rl,ro,rk] [aA (aP qs) eo,aN (some (.int (Int.ofNat k) tk)),aN (some (.ref rl)),aA rv er,aA (aR xa) e1,aA (aR xb) e2])(nd:[iB,dc,acc,od,ck,cr,rl,ro,rk].Nodup)(lo:∀a∈[iB,dc,acc,od,ck,cr,rl,ro,rk],817<=a)(h:∀p' s' ea' t,FS w s₀ s' iB dc acc od (j+1) (if b then av++[q] else av) ea' (some (t,q.1,q.2))->wpCode (model PR w) ⟨cP kD iB acc (oK loc cr ck cah cw dc),none,none,kG loc cr ck cah cw it p3 p4 p5,none⟩ R p' s'):
  wpCode (model PR w) ⟨cP kD iB acc (oK loc cr ck cah cw dc),none,none,kG loc cr ck cah cw it p3 p4 p5,none⟩ R p s:=by
 have m3:∀a∈[iB,dc,acc],817<=a:=fun a q=>lo a (List.mem_append_left [od,ck,cr,rl,ro,rk] q);have djs:∀a∈[iB,dc,acc],a∉[od,ck,cr,rl,ro,rk]:=fun a q q'=>(List.nodup_append.mp (show ([iB,dc,acc]++[od,ck,cr,rl,ro,rk]).Nodup from nd)).2.2 a q a q' rfl;have ha':=ha.mv F.X djs;have B':=B.extB F.X m3;have hN:(aP qs)[j]? =some (.int (Int.ofNat q.1) q.2):=by rw[qQ,hz];rfl
 have i63:∀{n:Nat},n<4->(Int.ofNat n:Int)<2 ^ 63:=fun h=>zT (Nat.le_trans (Nat.le_of_lt h) dT);have hA:At s [iB,dc,acc,od,ck,cr,rl,ro,rk] [aO od j,kU w.params o,aA (aP av) ea,aA (aP qs) eo,aN (some (.int (Int.ofNat k) tk)),aN (some (.ref rl)),aA rv er,aA (aR xa) e1,aA (aR xb) e2]:=⟨F.it,F.di,F.ac,ha'⟩;have hav:(aP av).length<=sizeLine:=by rw[uN];exact Nat.le_trans (Nat.le_trans F.le (Nat.le_of_lt hj)) dT
 have ext:∀{s':Shared},aJ [iB,dc,acc,od,ck,cr,rl,ro,rk] s s'->At s' [od,ck,cr,rl,ro,rk] [aA (aP qs) eo,aN (some (.int (Int.ofNat k) tk)),aN (some (.ref rl)),aA rv er,aA (aR xa) e1,aA (aR xb) e2]->aH [iB,dc,acc] s₀ s':=fun X g=>F.X.trans (aJ.rest (m:=[iB,dc,acc]) X ha' g);cases b with
 |true=>
  refine kK (fun ad tb=>aKk w s.gens.size ad tb [] p loc cr ck cah cw it iB acc dc od eo ea j q.1 q.2 (aP qs) (aP av) o p3 p4 p5 rl er ro rk k tk e1 e2 rv (aR xa) (aR xb)) (fun u u=>by unfold cP;kernel_rfl) (aB (kP hN dT dT dT) (aB (nD (Int.natCast_nonneg _) (i63 hq) h1 dT rfl) (aB (nD (Int.natCast_nonneg _) (i63 hk) h2 dT rfl) (aB (GQ hle dT dT) (aD (tJ hav dT rfl))))))
   B' hA rfl nd lo (uO ..) dT fun ad tb px s' Q=> ?_
  exact h px s' _ _ ⟨ext Q.ext (Q.ats [3,4,5,6,7,8]),Q.at_ 0 0 _ rfl rfl,Q.at_ 1 1 _ rfl rfl,by rw[if_pos rfl,xH];exact Q.at_ 2 2 _ rfl rfl,by rw[if_pos rfl,List.length_append];exact Nat.succ_le_succ F.le⟩
 |false=>
  refine kK (fun ad tb=>aKl w s.gens.size ad tb [] p loc cr ck cah cw it iB acc dc od eo ea j q.1 q.2 (aP qs) (aP av) o p3 p4 p5 rl er ro rk k tk e1 e2 rv (aR xa) (aR xb)) (fun u u=>by unfold cP;kernel_rfl) (aB (kP hN dT dT dT) (aB (nD (Int.natCast_nonneg _) (i63 hq) h1 dT rfl) (aB (nD (Int.natCast_nonneg _) (i63 hk) h2 dT rfl) (aD (GQ hle dT dT)))))
   B' hA rfl nd lo (uO ..) dT fun ad tb px s' Q=> ?_
  exact h px s' _ _ ⟨ext Q.ext (Q.ats [3,4,5,6,7,8]),Q.at_ 0 0 _ rfl rfl,Q.at_ 1 1 _ rfl rfl,by rw[if_neg dT];exact Q.at_ 2 2 _ rfl rfl,by rw[if_neg dT];exact Nat.le_succ_of_le F.le⟩
theorem aKx {ah:Nat}{q:Nat×Nat}{av hv:List (Nat×Nat)}{o:Option (Nat×Nat×Nat)}(hz:qs[j]? =some q)(hj:j<4)(hin:(!(hv.map (·.1)).elem q.1)=b)(B:aT w s₀)(F:FS w s₀ s iB dc acc od j av ea o)(ha:At s₀ [od,cah,ah] [aA (aP qs) eo,aN (some (.ref ah)),aA (aP hv) ew])(nd:[iB,dc,acc,od,cah,ah].Nodup)(lo:∀a∈[iB,dc,acc,od,cah,ah],817<=a)(h:∀p' s' ea' t,FS w s₀ s' iB dc acc od (j+1) (if b then av++[q] else av) ea' (some (t,q.1,q.2))->wpCode (model PR w) ⟨cP kE iB acc (oL loc cr ck cah cw dc),none,none,kG loc cr ck cah cw it p3 p4 p5,none⟩ R p' s'):
  wpCode (model PR w) ⟨cP kE iB acc (oL loc cr ck cah cw dc),none,none,kG loc cr ck cah cw it p3 p4 p5,none⟩ R p s:=by
 have m3:∀a∈[iB,dc,acc],817<=a:=fun a q=>lo a (List.mem_append_left [od,cah,ah] q);have djs:∀a∈[iB,dc,acc],a∉[od,cah,ah]:=fun a q q'=>(List.nodup_append.mp (show ([iB,dc,acc]++[od,cah,ah]).Nodup from nd)).2.2 a q a q' rfl;have ha':=ha.mv F.X djs;have B':=B.extB F.X m3;have hN:(aP qs)[j]? =some (.int (Int.ofNat q.1) q.2):=by rw[qQ,hz];rfl
 have hA:At s [iB,dc,acc,od,cah,ah] [aO od j,kU w.params o,aA (aP av) ea,aA (aP qs) eo,aN (some (.ref ah)),aA (aP hv) ew]:=⟨F.it,F.di,F.ac,ha'⟩;have hav:(aP av).length<=sizeLine:=by rw[uN];exact Nat.le_trans (Nat.le_trans F.le (Nat.le_of_lt hj)) dT
 have ext:∀{s':Shared},aJ [iB,dc,acc,od,cah,ah] s s'->At s' [od,cah,ah] [aA (aP qs) eo,aN (some (.ref ah)),aA (aP hv) ew]->aH [iB,dc,acc] s₀ s':=fun X g=>F.X.trans (aJ.rest (m:=[iB,dc,acc]) X ha' g);cases b with
 |true=>
  refine kK (fun ad tb=>aKm w s.gens.size ad tb [] p loc cr ck cah cw it iB acc dc od eo ea j q.1 q.2 (aP qs) (aP av) o p3 p4 p5 ah ew (aP hv)) (fun u u=>by unfold cP;kernel_rfl) (aB (kP hN dT dT dT) (aB (UY (by simpa using hin) dT) (aD (tJ hav dT rfl))))
   B' hA rfl nd lo (uO ..) dT fun ad tb px s' Q=> ?_
  exact h px s' _ _ ⟨ext Q.ext (Q.ats [3,4,5]),Q.at_ 0 0 _ rfl rfl,Q.at_ 1 1 _ rfl rfl,by rw[if_pos rfl,xH];exact Q.at_ 2 2 _ rfl rfl,by rw[if_pos rfl,List.length_append];exact Nat.succ_le_succ F.le⟩
 |false=>
  refine kK (fun ad tb=>aKn w s.gens.size ad tb [] p loc cr ck cah cw it iB acc dc od eo ea j q.1 q.2 (aP qs) (aP av) o p3 p4 p5 ah ew (aP hv)) (fun u u=>by unfold cP;kernel_rfl) (aB (kP hN dT dT dT) (aD (UY (by simpa using hin) dT)))
   B' hA rfl nd lo (uO ..) dT fun ad tb px s' Q=> ?_
  exact h px s' _ _ ⟨ext Q.ext (Q.ats [3,4,5]),Q.at_ 0 0 _ rfl rfl,Q.at_ 1 1 _ rfl rfl,by rw[if_neg dT];exact Q.at_ 2 2 _ rfl rfl,by rw[if_neg dT];exact Nat.le_succ_of_le F.le⟩
end
end
section
noncomputable abbrev r4{α:Type}(r:Nat->α):List α:=[r 0,r 1,r 2,r 3]
theorem uP {α:Type}(r:Nat->α)(h:k<4):(r4 r)[k]? =some (r k):=by
 match k,h with
 |0,_=>rfl
 |1,_=>rfl
 |2,_=>rfl
 |3,_=>rfl
theorem GY {α:Type}(r:Nat->α)(h:k<4):r k∈r4 r:=List.mem_of_getElem? (uP r h)
theorem aKy {A:List Nat}{r:Nat->Nat}(h:(A++r4 r).Nodup){b:Nat}(ha:a<4)(hb:b<4)(hab:a≠b):(A++[r a,r b]).Nodup:=by
 obtain⟨h1,h2,h3⟩:=List.nodup_append.mp h
 have e:r a≠r b:=fun q=>hab (by
  have g1:=uP r ha;have g2:=uP r hb;rw[<-q] at g2;have la:a<(r4 r).length:=ha;have lb:b<(r4 r).length:=hb;rw[List.getElem?_eq_getElem la] at g1;rw[List.getElem?_eq_getElem lb] at g2;exact(List.getElem_inj h2).mp ((Option.some.inj g1).trans (Option.some.inj g2).symm))
 refine aKv h1 (by simp[e]) fun x hx q=> ?_;rcases List.mem_cons.mp q with rfl |q
 ·exact h3 _ hx _ (GY r ha) rfl
 ·rcases List.mem_cons.mp q with rfl |q
  ·exact h3 _ hx _ (GY r hb) rfl
  ·nomatch q
theorem lP {b:Nat}(h:a≠b):a∉[b]:=fun q=>by
 cases q with
 |head=>exact h rfl
 |tail _ q=>nomatch q
noncomputable def lQ(y:Nat->List (Int×Nat))(a b:Nat):Bool:=cB .LtE (sL (y a) (y b))
section
variable{w:World}{s:Shared}{p:Pos}
theorem aKz {sc:SC}{oo:Option Value}{r f:Nat->Nat}{y:Nat->List (Int×Nat)}(hk:k<4)(hqs:∀q∈qs,q.1<k)(hlen:qs.length<=3)(B:aT w s)(ha:At s ([loc,od,cah,ck,cr,rl]++r4 r) [cV w.params τ sc ln wr od,aA (aP qs) eo,aN oo,aN (some (.int (Int.ofNat k) tk)),aN (some (.ref rl)),aA (r4 fun i=> .ref (r i)) er,aA (aR (y 0)) (f 0),aA (aR (y 1)) (f 1),aA (aR (y 2)) (f 2),aA (aR (y 3)) (f 3)])(nd:([loc,od,cah,ck,cr,rl]++r4 r).Nodup)(lo:∀a∈[loc,od,cah,ck,cr,rl]++r4 r,817<=a):
  Sem.wp (model PR w) (gF kC it (aU loc cr ck cah cw) (cE loc cr ck cah cw p4 p5)) (execs (nO 0) (aU loc cr ck cah cw)) (fun fl u s'=>fl= .next/\∃ah ea,aH [cah] s s'/\s'.heap.get? cah=some (aN (some (.ref ah)))/\s'.heap.get? ah=some (aA (aP (qs.filter fun q=>lQ y q.1 k)) ea)/\s.heap.objs.size<=ah) (fun u u u=>False) p s:=by
 rw[Fast.te12563942051412417395]
 refine lM (P:=fun s'=>∃ah ea,aH [cah] s s'/\s'.heap.get? cah=some (aN (some (.ref ah)))/\s'.heap.get? ah=some (aA (aP (qs.filter fun q=>lQ y q.1 k)) ea)/\s.heap.objs.size<=ah)
  (pF (t:=eI (nO 0) (aU loc cr ck cah cw)) (fun ad tb=>aKi w s.gens.size ad tb [] p loc cr ck cah cw it ln wr od eo τ sc (aP qs) p4 p5) aE B ⟨ha.1,ha.2.1,trivial⟩ rfl (bO nd [0,1] rfl) (aB (lo _ (mI 0)) (aD (lo _ (mI 1)))) (eY ..) fun ad tb px s₁ Q=> ?_)
 have X1:aH [] s s₁:=aJ.rest (m:=[]) (ks:=[loc,od]) (os:=[cV w.params τ sc ln wr od,aA (aP qs) eo]) Q.ext ⟨ha.1,ha.2.1,trivial⟩ (Q.ats [0,1]);have B1:=B.extB X1 aE;have ha1:=ha.extB X1;have z:=Q.nd [2,4,3] rfl;have z1:[ad 2+817,ad 4+817,ad 3+817].Nodup:=z.1;have z2:∀a∈[ad 2+817,ad 4+817,ad 3+817],s.heap.objs.size<=a:=z.2;have ndA:=qA nd (ha.ltAll rfl) z1 z2;have n8:∀j,817<=ad j+817:=fun j=>Nat.le_add_left _ _;refine bC fun zz=> ?_;obtain⟨elt,tg,ie,ifs,sc',pos,he⟩:=aKt;refine zz ?_;refine GV he (Q.at_ 2 2 _ rfl rfl) fun p2=> ?_;have F0:FS w s₁ s₁ (ad 2+817) (ad 4+817) (ad 3+817) od 0 [] 0 none:=⟨(aH.refl _).mono aE,Q.at_ 2 2 _ rfl rfl,Q.at_ 4 4 _ rfl rfl,Q.at_ 3 3 _ rfl rfl,Nat.le_refl _⟩;refine UZ (R:=_) (Γ:=⟨cP kD (ad 2+817) (ad 3+817) (oK loc cr ck cah cw (ad 4+817)),none,none,kG loc cr ck cah cw it px p4 p5,none⟩) qs (fun z=>lQ y z k) (fun j q av ea o s₂ p3 hz F h=> ?_) (fun ea o s₂ p3 F=> ?_) F0
 ·have hq:q.1<k:=hqs q (List.mem_of_getElem? hz)
  have hj:j<qs.length:=by
   rcases Nat.lt_or_ge j qs.length with h |h
   ·exact h
   ·rw[List.getElem?_eq_none h] at hz;cases hz
  have lk:∀i,i<4->817<=r i:=fun i hi=>lo _ (List.mem_append_right _ (GY r hi))
  have at4:∀i,i<4->s₁.heap.get? (r i)=some (aA (aR (y i)) (f i)):=fun i hi=>by
   match i,hi with
   |0,_=>exact ha1.2.2.2.2.2.2.1
   |1,_=>exact ha1.2.2.2.2.2.2.2.1
   |2,_=>exact ha1.2.2.2.2.2.2.2.2.1
   |3,_=>exact ha1.2.2.2.2.2.2.2.2.2.1
  refine aKw hz (uP (fun i=>Value.ref (r i)) (by lia)) (uP (fun i=>Value.ref (r i)) hk) (by lia) hk (by lia) rfl B1 F ⟨ha1.2.1,ha1.2.2.2.1,ha1.2.2.2.2.1,ha1.2.2.2.2.2.1,at4 q.1 (by lia),at4 k hk,trivial⟩
   (aKy (r:=r) (A:=[ad 2+817,ad 4+817,ad 3+817,od,ck,cr,rl]) (bO ndA [10,11,12,1,3,4,5,6,7,8,9] rfl) (by lia) hk (by lia))
   (aB (n8 _) (aB (n8 _) (aB (n8 _) (aB (lo _ (mI 1)) (aB (lo _ (mI 3)) (aB (lo _ (mI 4)) (aB (lo _ (mI 5)) (aB (lk _ (by lia)) (aD (lk _ hk)))))))))) h
 ·have ndi:[ad 2+817,od].Nodup:=bO ndA [10,1] rfl
  have m3:∀a∈[ad 2+817,ad 4+817,ad 3+817],817<=a:=aB (n8 _) (aB (n8 _) (aD (n8 _)));have B2:=B1.extB F.X m3;have dj:∀{a:Nat},a<s.heap.objs.size->a∉[ad 2+817,ad 4+817,ad 3+817]:=fun h q=>by have:=z2 _ q;lia
  have od2:s₂.heap.get? od=some (aA (aP qs) eo):=F.X.frame _ _ ha1.2.1 (dj (Heap.lt_size ha.2.1));refine cT (fun ad' tb'=>aKo w s₂.gens.size ad' tb' [] p3 loc cr ck cah cw it (ad 2+817) (ad 3+817) (ad 4+817) od eo 0 qs.length 0 0 (aP qs) [] none px p4 p5) (aD (oA (by rw[qQ];simp) dT dT dT)) B2 ⟨F.it,od2,trivial⟩ rfl ndi (aB (n8 _) (aD (lo _ (mI 1)))) (uO ..) dT fun ad' tb' s₃ Q3=> ?_;have X3:aH [ad 2+817] s₂ s₃:=aJ.rest (m:=[ad 2+817]) (ks:=[od]) (os:=[aA (aP qs) eo]) Q3.ext ⟨od2,trivial⟩ ⟨Q3.at_ 1 1 _ rfl rfl,trivial⟩;have ndx:[ad 2+817,ad 4+817,ad 3+817].Nodup:=z1;simp only[List.nodup_cons,List.mem_cons,List.not_mem_nil,or_false,not_or] at ndx;have B3:=B2.extB X3 (aD (n8 _));have X13:aH [ad 2+817,ad 4+817,ad 3+817] s s₃:=((X1.mono aE).trans F.X).trans (X3.mono (aD (.head _)));have di3:=X3.frame _ _ F.di (lP fun e=>ndx.1.1 e.symm);have ac3:=X3.frame _ _ F.ac (lP fun e=>ndx.1.2 e.symm);have ca3:s₃.heap.get? cah=some (aN oo):=X13.frame _ _ ha.2.2.1 (dj (Heap.lt_size ha.2.2.1));obtain⟨hh,e⟩:=aKr w s₃.gens.size [] px s.gens.size ad tb p loc cr ck cah cw it ln wr od eo τ sc (aP qs) p4 p5 oo o;refine bL e aE B3 ⟨ca3,di3,trivial⟩ rfl (bO ndA [2,11] rfl) (aB (lo _ (mI 2)) (aD (n8 _))) (eY ..) fun ad'' tb'' s₄ Q4=>⟨rfl,ad 3+817,ea,?_,Q4.at_ 0 0 _ rfl rfl,?_,z2 _ (.tail _ (.tail _ (.head _)))⟩
  ·exact((X13.mono (m':=[ad 2+817,ad 4+817,ad 3+817,cah]) (fun a q=>List.mem_append_left [cah] q)).trans ((Q4.ext.dropB fun y hy=> .inl hy).mono (m:=[cah,ad 4+817]) (aB (mI 3) (aD (mI 1))))).less (aB (.inr (z2 _ (.head _))) (aB (.inr (z2 _ (.tail _ (.head _)))) (aB (.inr (z2 _ (.tail _ (.tail _ (.head _))))) (aD (.inl (.head _))))))
  ·refine Q4.ext.frame _ _ ac3 fun q=> ?_
   rcases List.mem_cons.mp q with q |q
   ·have h1:cah<s.heap.objs.size:=Heap.lt_size ha.2.2.1
    have h2:=z2 (ad 3+817) (mI 2)
    lia
   ·rcases List.mem_cons.mp q with q |q
    ·exact ndx.2.1 q.symm
    ·nomatch q
theorem aL0 {ah:Nat}{sc:SC}{hv:List (Nat×Nat)}(hlen:qs.length<=3)(hlh:hv.length<=3)(B:aT w s)(ha:At s [loc,od,cah,ah,ck] [cV w.params τ sc ln wr od,aA (aP qs) eo,aN (some (.ref ah)),aA (aP hv) ea,aN (some (.int (Int.ofNat k) tk))])(nd:[loc,od,cah,ah,ck].Nodup)(lo:∀a∈[loc,od,cah,ah,ck],817<=a):
  Sem.wp (model PR w) (gF kC it (aU loc cr ck cah cw) (cE loc cr ck cah cw p4 p5)) (execs (nO 1) (aU loc cr ck cah cw)) (fun fl u s'=>fl= .next/\∃od',aH [loc] s s'/\s'.heap.get? loc=some (cV w.params τ sc ln wr od')/\s'.heap.get? od'=some (aA (aP ((hv++[(k,tk)])++qs.filter fun q=> !(hv.map (·.1)).elem q.1)) 0)/\s.heap.objs.size<=od') (fun u u u=>False) p s:=by
 rw[Fast.te12563942051412417395]
 refine lM (P:=fun s'=>∃od',aH [loc] s s'/\s'.heap.get? loc=some (cV w.params τ sc ln wr od')/\s'.heap.get? od'=some (aA (aP ((hv++[(k,tk)])++qs.filter fun q=> !(hv.map (·.1)).elem q.1)) 0)/\s.heap.objs.size<=od')
  (pF (t:=eI (nO 1) (aU loc cr ck cah cw)) (fun ad tb=>aKj w s.gens.size ad tb [] p loc cr ck cah cw it ln wr od eo ah ea k tk τ sc (aP qs) (aP hv) p4 p5) (aD (UX (by rw[uN];exact Nat.le_trans (Nat.succ_le_succ hlh) dT) dT dT)) B ha rfl nd lo (eY ..) fun ad tb px s₁ Q=> ?_)
 have X1:aH [] s s₁:=aJ.rest (m:=[]) (ks:=[loc,od,cah,ah,ck]) (os:=[cV w.params τ sc ln wr od,aA (aP qs) eo,aN (some (.ref ah)),aA (aP hv) ea,aN (some (.int (Int.ofNat k) tk))]) Q.ext ha (Q.ats [0,1,2,3,4]);have B1:=B.extB X1 aE;have ha1:=ha.extB X1;have sm:s₁.heap.get? (ad 6+817)=some (aA (aP hv++[.int (Int.ofNat k) tk]) 0):=Q.at_ 5 6 _ rfl rfl;have z:=Q.nd [7,9,8,6] rfl;have z1:[ad 7+817,ad 9+817,ad 8+817,ad 6+817].Nodup:=z.1;have z2:∀a∈[ad 7+817,ad 9+817,ad 8+817,ad 6+817],s.heap.objs.size<=a:=z.2;have ndA:=qA nd (ha.ltAll rfl) z1 z2;have n8:∀j,817<=ad j+817:=fun j=>Nat.le_add_left _ _;refine bC fun zz=> ?_;obtain⟨elt,tg,ie,ifs,sc',pos,he⟩:=aKu;refine zz ?_;refine GV he (Q.at_ 6 7 _ rfl rfl) fun p2=> ?_;have F0:FS w s₁ s₁ (ad 7+817) (ad 9+817) (ad 8+817) od 0 [] 0 none:=⟨(aH.refl _).mono aE,Q.at_ 6 7 _ rfl rfl,Q.at_ 8 9 _ rfl rfl,Q.at_ 7 8 _ rfl rfl,Nat.le_refl _⟩;refine UZ (R:=_) (Γ:=⟨cP kE (ad 7+817) (ad 8+817) (oL loc cr ck cah cw (ad 9+817)),none,none,kG loc cr ck cah cw it px p4 p5,none⟩) qs (fun z=> !(hv.map (·.1)).elem z) (fun j q av ea o s₂ p3 hz F h=> ?_) (fun eb o s₂ p3 F=> ?_) F0
 ·have hj:j<qs.length:=by
   rcases Nat.lt_or_ge j qs.length with h |h
   ·exact h
   ·rw[List.getElem?_eq_none h] at hz;cases hz
  exact aKx hz (by lia) rfl B1 F ⟨ha1.2.1,ha1.2.2.1,ha1.2.2.2.1,trivial⟩ (bO ndA [5,6,7,1,2,3] rfl) (aB (n8 _) (aB (n8 _) (aB (n8 _) (aB (lo _ (mI 1)) (aB (lo _ (mI 2)) (aD (lo _ (mI 3)))))))) h
 ·have ndi:[ad 7+817,od].Nodup:=bO ndA [5,1] rfl
  have m3:∀a∈[ad 7+817,ad 9+817,ad 8+817],817<=a:=aB (n8 _) (aB (n8 _) (aD (n8 _)));have B2:=B1.extB F.X m3;have z3:∀a∈[ad 7+817,ad 9+817,ad 8+817],s.heap.objs.size<=a:=fun a q=>z2 a (List.mem_append_left [ad 6+817] q);have dj:∀{a:Nat},a<s.heap.objs.size->a∉[ad 7+817,ad 9+817,ad 8+817]:=fun h q=>by have:=z3 _ q;lia
  have lod:od<s.heap.objs.size:=Heap.lt_size ha.2.1;have lloc:loc<s.heap.objs.size:=Heap.lt_size ha.1;have od2:s₂.heap.get? od=some (aA (aP qs) eo):=F.X.frame _ _ ha1.2.1 (dj lod);refine cT (fun ad' tb'=>aKp w s₂.gens.size ad' tb' [] p3 loc cr ck cah cw it (ad 7+817) (ad 8+817) (ad 9+817) od eo 0 qs.length 0 0 (aP qs) [] none px p4 p5) (aD (oA (by rw[qQ];simp) dT dT dT)) B2 ⟨F.it,od2,trivial⟩ rfl ndi (aB (n8 _) (aD (lo _ (mI 1)))) (uO ..) dT fun ad' tb' s₃ Q3=> ?_;have X3:aH [ad 7+817] s₂ s₃:=aJ.rest (m:=[ad 7+817]) (ks:=[od]) (os:=[aA (aP qs) eo]) Q3.ext ⟨od2,trivial⟩ ⟨Q3.at_ 1 1 _ rfl rfl,trivial⟩;have ndx:=z1;simp only[List.nodup_cons,List.mem_cons,List.not_mem_nil,or_false,not_or] at ndx;have B3:=B2.extB X3 (aD (n8 _));have X23:aH [ad 7+817,ad 9+817,ad 8+817] s₁ s₃:=F.X.trans (X3.mono (aD (.head _)));have di3:=X3.frame _ _ F.di (lP fun e=>ndx.1.1 e.symm);have ac3:=X3.frame _ _ F.ac (lP fun e=>ndx.1.2.1 e.symm)
  have sm3:=X23.frame _ _ sm (fun q=>by
   simp only[List.mem_cons,List.not_mem_nil,or_false] at q;rcases q with q |q |q
   ·exact ndx.1.2.2 q.symm
   ·exact ndx.2.1.2 q.symm
   ·exact ndx.2.2.1 q.symm)
  have lc3:s₃.heap.get? loc=some (cV w.params τ sc ln wr od):=X23.frame _ _ ha1.1 (dj lloc);obtain⟨hh,e⟩:=aKs w s₃.gens.size [] px s.gens.size ad tb p loc cr ck cah cw it ln wr od eo ah ea k tk eb τ sc (aP qs) (aP hv) (aP (qs.filter fun q=> !(hv.map (·.1)).elem q.1)) p4 p5 o
  have hsz:(aP hv++[Value.int (Int.ofNat k) tk]).length+(aP (qs.filter fun q=> !(hv.map (·.1)).elem q.1)).length<=sizeLine:=by
   have h1:=List.length_filter_le (fun q:Nat×Nat=> !(hv.map (·.1)).elem q.1) qs;rw[List.length_append,uN,uN];have:(sizeLine:Nat)>=10:=by decide
   simp only[List.length_singleton]
   lia
  refine bL e (aD (UX hsz dT dT)) B3 ⟨lc3,sm3,ac3,di3,trivial⟩ rfl (bO ndA [0,8,7,6] rfl) (aB (lo _ (mI 0)) (aB (n8 _) (aB (n8 _) (aD (n8 _))))) (eY ..) fun ad'' tb'' s₄ Q4=>⟨rfl,ad'' 4+817,?_,Q4.at_ 0 0 _ rfl rfl,?_,?_⟩
  ·exact((((X1.mono aE).trans X23).mono (m':=[ad 7+817,ad 9+817,ad 8+817,ad 6+817,loc]) (fun a q=>List.mem_append_left [ad 6+817,loc] q)).trans ((Q4.ext.dropB fun y hy=> .inl hy).mono (m:=[loc,ad 6+817,ad 8+817,ad 9+817]) (aB (mI 4) (aB (mI 3) (aB (mI 2) (aD (mI 1))))))).less
    (aB (.inr (z2 _ (mI 0))) (aB (.inr (z2 _ (mI 1))) (aB (.inr (z2 _ (mI 2))) (aB (.inr (z2 _ (mI 3))) (aD (.inl (.head _)))))))
  ·rw[xH,xH]
   exact Q4.at_ 3 4 _ rfl rfl
  ·exact Nat.le_trans (Nat.le_trans X1.size X23.size) (Q4.new 4 (Nat.le_refl _) dT).1
end
end
section
noncomputable def dD(le:Nat->Nat->Bool):Nat->List Nat
 |0=>[]
 |k+1=>((dD le k).filter fun x=>le x k)++[k]++(dD le k).filter fun x=> !le x k
theorem BQ(le:Nat->Nat->Bool):∀k,∀x∈dD le k,x<k
 |0,_,h=>nomatch h
 |k+1,x,h=>by
  unfold dD at h;simp only[List.mem_append,List.mem_filter,List.mem_singleton] at h;rcases h with(h |h) |h
  ·have:=BQ le k x h.1;lia
  ·lia
  ·have:=BQ le k x h.1;lia
theorem GZ(le:Nat->Nat->Bool):∀k,(dD le k).length=k
 |0=>rfl
 |k+1=>by
  unfold dD;have h:=GZ le k;have g:=(List.filter_append_perm (fun x=>le x k) (dD le k)).length_eq;simp only[List.length_append,List.length_singleton] at g ⊢
  lia
theorem VE(g:Nat->Bool)(qs:List (Nat×Nat)):(qs.filter fun q=>g q.1).map (·.1)=(qs.map (·.1)).filter g:=by
 rw[List.filter_map];rfl
theorem rest_eq(g:Nat->Bool)(o:List Nat):(o.filter fun x=> !(o.filter g).elem x)=o.filter fun x=> !g x:=by
 apply List.filter_congr;intro x hx
 have:(o.filter g).elem x=g x:=by
  rw[Bool.eq_iff_iff,List.elem_eq_mem,decide_eq_true_iff,List.mem_filter];exact⟨fun h=>h.2,fun h=>⟨hx,h⟩⟩
 rw[this]
theorem aL1:bF kC=nO 0++nO 1:=by kernel_rfl
theorem aL2:fV kC=[]:=by kernel_rfl
theorem aL3:∃ps,bR kC= .Name nK ps:=⟨(bR kC).pos,by kernel_rfl⟩
section
variable{w:World}{s:Shared}{p:Pos}
theorem aL4 {sc:SC}{o0 oo:Option Value}{r f:Nat->Nat}{y:Nat->List (Int×Nat)}(B:aT w s)(ha:At s ([loc,od,cah,ck,cr,rl]++r4 r) [cV w.params τ sc ln wr od,aA [] 0,aN oo,aN o0,aN (some (.ref rl)),aA (r4 fun i=> .ref (r i)) er,aA (aR (y 0)) (f 0),aA (aR (y 1)) (f 1),aA (aR (y 2)) (f 2),aA (aR (y 3)) (f 3)])(nd:([loc,od,cah,ck,cr,rl]++r4 r).Nodup)(lo:∀a∈[loc,od,cah,ck,cr,rl]++r4 r,817<=a):
  Sem.wp (model PR w) (gL loc cr ck cah cw p5) (execs (cW 5) (aU loc cr ck cah cw)) (fun fl u s'=>fl= .next/\∃od' qs eo,aH [ck,cah,loc] s s'/\s'.heap.get? loc=some (cV w.params τ sc ln wr od')/\s'.heap.get? od'=some (aA (aP qs) eo)/\qs.map (·.1)=dD (lQ y) 4/\s.heap.objs.size<=od'/\∃o,s'.heap.get? ck=some (aN o)) (fun u u u=>False) p s:=by
 rw[Fast.te12563942051412417395]
 refine lM (P:=fun s'=>∃od' qs eo,aH [ck,cah,loc] s s'/\s'.heap.get? loc=some (cV w.params τ sc ln wr od')/\s'.heap.get? od'=some (aA (aP qs) eo)/\qs.map (·.1)=dD (lQ y) 4/\s.heap.objs.size<=od'/\∃o,s'.heap.get? ck=some (aN o))
  (pF (t:=eI (cW 5) (aU loc cr ck cah cw)) (fun ad tb=>aKh w s.gens.size ad tb [] p loc cr ck cah cw p5) aE B trivial rfl List.nodup_nil aE (kB p5) fun ad tb px s₁ Q=> ?_)
 have X1:aH [] s s₁:=Q.ext.dropB fun y hy=>nomatch hy;have B1:=B.extB X1 aE;have ha1:=ha.extB X1;have nit:s.heap.objs.size<=ad 1+817:=(Q.new 1 (Nat.zero_le _) dT).1;have lit:817<=ad 1+817:=Nat.le_add_left _ _;have hall:=ha.ltAll rfl;have iL:∀a∈[loc,od,cah,ck,cr,rl]++r4 r,ad 1+817≠a:=fun a q e=>by have:=hall a q;lia
 have lloc:=lo loc (mI 0);have lcah:=lo cah (mI 2);have lck:=lo ck (mI 3);have m4:∀a∈[ad 1+817,ck,cah,loc],817<=a:=aB lit (aB lck (aB lcah (aD lloc)));have nlc:loc≠cah:=iI nd 0 2 rfl;have nlk:loc≠ck:=iI nd 0 3 rfl;have nck:cah≠ck:=iI nd 2 3 rfl;have ndR:([cr,rl]++r4 r++[loc,cah,ck]).Nodup:=bO nd [4,5,6,7,8,9,0,2,3] rfl
 have dR:∀a∈[cr,rl]++r4 r,a∉[ad 1+817,ck,cah,loc]:=fun a q h=>by
  have z:=(List.nodup_append.mp ndR).2.2 a q;rcases List.mem_cons.mp h with rfl |h
  ·exact iL _ (List.mem_append_right [loc,od,cah,ck] q) rfl
  ·exact z a (aB (Q:=(·∈[loc,cah,ck])) (mI 2) (aB (mI 1) (aD (mI 0))) a h) rfl
 have rows1:At s₁ ([cr,rl]++r4 r) [aN (some (.ref rl)),aA (r4 fun i=> .ref (r i)) er,aA (aR (y 0)) (f 0),aA (aR (y 1)) (f 1),aA (aR (y 2)) (f 2),aA (aR (y 3)) (f 3)]:=ha1.2.2.2.2;show wpCode (model PR w) (gF kC (ad 1+817) (aU loc cr ck cah cw) (cE loc cr ck cah cw px p5)) _ px s₁
 refine UI (fl:=kC) (bl:=cE loc cr ck cah cw px p5) aL3 aL2 (eY ..) lit lck (iL ck (mI 3)) (fun j s'=>aH [ad 1+817,ck,cah,loc] s₁ s'/\s'.heap.get? (ad 1+817)=some (fA j (4 - j))/\(∃o,s'.heap.get? ck=some (aN o))/\(∃o,s'.heap.get? cah=some (aN o))/\
   ∃od' qs eo,s'.heap.get? loc=some (cV w.params τ sc ln wr od')/\s'.heap.get? od'=some (aA (aP qs) eo)/\qs.map (·.1)=dD (lQ y) j/\od'∉[ad 1+817,loc,cah,ck,cr,rl]++r4 r/\817<=od'/\(1<=j->s.heap.objs.size<=od'))
  (fun j s' h=>⟨B1.extB h.1 m4,h.2.1,h.2.2.1⟩) (fun j hj s1 s2 p tz h X hit2 hck2=> ?_) (fun s1 s2 h X=> ?_)
  ⟨(aH.refl _).mono aE,Q.at_ 0 1 _ rfl rfl,⟨_,ha1.2.2.2.1⟩,⟨_,ha1.2.2.1⟩,od,[],0,ha1.1,ha1.2.1,rfl,fun q=> ?_,lo od (mI 1),fun h=>absurd h dT⟩
 ·refine bC fun zz=> ?_
  obtain⟨X0,hit1,⟨o1,hck1⟩,⟨o2,hca1⟩,od1,qs,eo,hl1,hod1,hqs,dod,lod,_⟩:=h;refine zz ?_;have X02:aH [ad 1+817,ck,cah,loc] s₁ s2:=X0.trans (X.mono (aB (.head _) (aD (.tail _ (.head _)))));have B2:=B1.extB X02 m4;have rows2:=rows1.mv X02 (fun a h q=>dR a q h)
  have k2:∀{a:Nat} {o:Obj},s1.heap.get? a=some o->a≠ad 1+817->a≠ck->s2.heap.get? a=some o:=fun h h1 h2=>X.frame _ _ h (fun q=>by
   rcases List.mem_cons.mp q with q |q
   ·exact h1 q
   ·exact lP h2 q)
  have odne:od1≠ad 1+817/\od1≠loc/\od1≠cah/\od1≠ck/\od1∉[cr,rl]++r4 r:=⟨fun e=>dod (by rw[e];exact mI 0),fun e=>dod (by rw[e];exact mI 1),fun e=>dod (by rw[e];exact mI 2),fun e=>dod (by rw[e];exact mI 3),fun q=>dod (List.mem_append_right [ad 1+817,loc,cah,ck] q)⟩;have hl2:=k2 hl1 (Ne.symm (iL loc (mI 0))) nlk;have hca2:=k2 hca1 (Ne.symm (iL cah (mI 2))) nck;have hod2:=k2 hod1 odne.1 odne.2.2.2.1;have ha2:At s2 ([loc,od1,cah,ck,cr,rl]++r4 r) [cV w.params τ sc ln wr od1,aA (aP qs) eo,aN o2,aN (some (.int (Int.ofNat j) tz)),aN (some (.ref rl)),aA (r4 fun i=> .ref (r i)) er,aA (aR (y 0)) (f 0),aA (aR (y 1)) (f 1),aA (aR (y 2)) (f 2),aA (aR (y 3)) (f 3)]:=⟨hl2,hod2,hca2,hck2,rows2⟩;have nd':([loc,cah,ck,cr,rl]++r4 r).Nodup:=bO nd [0,2,3,4,5,6,7,8,9] rfl;have nd2:([loc,od1,cah,ck,cr,rl]++r4 r).Nodup:=(List.perm_middle (l₁:=[loc]) (a:=od1) (l₂:=[cah,ck,cr,rl]++r4 r)).nodup_iff.mpr (List.nodup_cons.mpr ⟨fun q=>dod (.tail _ q),nd'⟩)
  have lo2:∀a∈[loc,od1,cah,ck,cr,rl]++r4 r,817<=a:=fun a q=>by
   rcases List.mem_cons.mp q with rfl |q
   ·exact lloc
   rcases List.mem_cons.mp q with rfl |q
   ·exact lod
   exact lo a (.tail _ (.tail _ q))
  have hlen:qs.length=j:=by
   have h1:=congrArg List.length hqs;rw[List.length_map,GZ] at h1;exact h1
  rw[aL1]
  refine BJ (Sem.wp_mono _ _ _ (fun fl p3 s3 h3=> ?_) (fun u u u h=>h.elim) _ _ (aKz (k:=j) (tk:=tz) hj (fun q hq=>by
   have:q.1∈dD (lQ y) j:=by rw[<-hqs];exact List.mem_map_of_mem hq
   exact BQ _ _ _ this) (by lia) B2 ha2 nd2 lo2))
  refine bC fun zz=> ?_;obtain⟨rfl,ah,ea,X3,hca3,hah3,nah⟩:=h3;refine zz ?_;have B3:=B2.extB X3 (aD lcah);have k3:∀{a:Nat} {o:Obj},s2.heap.get? a=some o->a≠cah->s3.heap.get? a=some o:=fun h h1=>X3.frame _ _ h (lP h1);have lah:∀a∈[loc,od1,cah,ck,cr,rl]++r4 r,a≠ah:=fun a q e=>by have:=ha2.ltAll rfl a q;lia
  have ndh:[loc,od1,cah,ah,ck].Nodup:=(List.perm_middle (l₁:=[loc,od1,cah]) (a:=ah) (l₂:=[ck])).nodup_iff.mpr (List.nodup_cons.mpr ⟨fun q=>lah ah (List.mem_append_left [cr,rl] q |> fun q=>List.mem_append_left (r4 r) q) rfl,bO nd2 [0,1,2,3] rfl⟩);have hvl:(qs.filter fun q=>lQ y q.1 j).length<=3:=Nat.le_trans (List.length_filter_le _ _) (by lia);refine Sem.wp_mono _ _ _ (fun fl p4 s4 h4=> ?_) (fun u u u h=>h.elim) _ _ (aL0 (k:=j) (tk:=tz) (by lia) hvl B3 ⟨k3 hl2 nlc,k3 hod2 odne.2.2.1,hca3,hah3,k3 hck2 (Ne.symm nck),trivial⟩ ndh (aB lloc (aB lod (aB lcah (aB (by have:=B2.sz;lia) (aD lck))))));refine bC fun zz=> ?_;obtain⟨rfl,od2,X4,hl4,hod4,nod⟩:=h4;refine zz ?_;have X23:aH [ad 1+817,ck,cah,loc] s2 s4:=(X3.mono (aD (mI 2))).trans (X4.mono (aD (mI 3)));have k4:∀{a:Nat} {o:Obj},s2.heap.get? a=some o->a≠cah->a≠loc->s4.heap.get? a=some o:=fun h h1 h2=>X4.frame _ _ (k3 h h1) (lP h2);refine⟨rfl,X02.trans X23,by rw[show 4 - (j+1)=3 - j by lia];exact k4 hit2 (iL cah (mI 2)) (iL loc (mI 0)),⟨_,k4 hck2 (Ne.symm nck) (Ne.symm nlk)⟩,⟨_,X4.frame _ _ hca3 (lP (Ne.symm nlc))⟩,od2,_,_,hl4,hod4,?_,fun q=> ?_,Nat.le_trans B3.sz nod,fun u=>Nat.le_trans (Nat.le_trans (Nat.le_trans X1.size X02.size) X3.size) nod⟩
  ·rw[List.map_append,List.map_append,VE (fun x=> !((qs.filter fun q=>lQ y q.1 j).map (·.1)).elem x),VE (fun x=>lQ y x j),hqs,rest_eq]
   rfl
  ·have lt3:∀{a:Nat} {o:Obj},s2.heap.get? a=some o->a≠od2:=fun {a o} h e=>by
    have h1:a<s2.heap.objs.size:=Heap.lt_size h;have h2:s2.heap.objs.size<=s3.heap.objs.size:=X3.size;have h3:s3.heap.objs.size<=od2:=nod
    lia
   rcases List.mem_cons.mp q with q |q
   ·exact lt3 hit2 q.symm
   rcases List.mem_cons.mp q with q |q
   ·exact lt3 hl2 q.symm
   rcases List.mem_cons.mp q with q |q
   ·exact lt3 hca2 q.symm
   rcases List.mem_cons.mp q with q |q
   ·exact lt3 hck2 q.symm
   ·have h1:od2<s2.heap.objs.size:=rows2.ltAll rfl od2 q
    have h2:s2.heap.objs.size<=s3.heap.objs.size:=X3.size;have h3:s3.heap.objs.size<=od2:=nod
    lia
 ·refine bC fun zz=> ?_
  obtain⟨X0,hit1,⟨o1,hck1⟩,_,od1,qs,eo,hl1,hod1,hqs,dod,lod,nod⟩:=h;refine zz ?_;have X12:aH [ad 1+817,ck,cah,loc] s s2:=(X1.mono aE).trans (X0.trans (X.mono (aD (.head _))));have Xf:aH [ck,cah,loc] s s2:=X12.less (aB (.inr nit) (aB (.inl (mI 0)) (aB (.inl (mI 1)) (aD (.inl (mI 2))))));have B2:=B.extB Xf (aB lck (aB lcah (aD lloc)));have k2:∀{a:Nat} {o:Obj},s1.heap.get? a=some o->a≠ad 1+817->s2.heap.get? a=some o:=fun h h1=>X.frame _ _ h (lP h1);refine bL (fun ad' tb'=>aKq w s2.gens.size ad' tb' [] px s.gens.size ad tb p loc cr ck cah cw p5) aE B2 trivial rfl List.nodup_nil aE (kB p5) fun ad' tb' s₃ Q3=> ?_;have X3:aH [] s2 s₃:=Q3.ext.dropB fun y hy=>nomatch hy;have k3:∀{a:Nat} {o:Obj},s2.heap.get? a=some o->s₃.heap.get? a=some o:=fun h=>X3.frame _ _ h (by simp);exact⟨rfl,od1,qs,eo,Xf.trans (X3.mono aE),k3 (k2 hl1 (Ne.symm (iL loc (mI 0)))),k3 (k2 hod1 (fun e=>dod (e▸.head _))),hqs,nod dT,o1,k3 (k2 hck1 (Ne.symm (iL ck (mI 3))))⟩
 ·rcases List.mem_cons.mp q with q |q
  ·exact iL od (mI 1) q.symm
  ·have z:([loc,cah,ck,cr,rl]++r4 r++[od]).Nodup:=bO nd [0,2,3,4,5,6,7,8,9,1] rfl
   exact(List.nodup_append.mp z).2.2 od q od (.head _) rfl
end
end
section
section
variable{M:Model}{Γ:PySem.Ctx}{I:Shared->Prop}{α β:Type}
def eU(M:Model)(Γ:PySem.Ctx)(I:Shared->Prop)(m:StateT SortSt Sem α)(Q:α->SortSt->Prop)(st:SortSt):Prop:=
 ∀p s,I s->Sem.wp M Γ (m.run st) (fun r u s'=>Q r.1 r.2/\I s') (fun u u u=>False) p s
theorem jJ{a:α}{Q:α->SortSt->Prop}{st:SortSt}(h:Q a st):eU M Γ I (pure a) Q st:=fun p s hI=>by rw[StateT.run_pure];exact⟨h,hI⟩
theorem fF{m:StateT SortSt Sem α}{f:α->StateT SortSt Sem β}{Q:β->SortSt->Prop}{st:SortSt}(h:eU M Γ I m (fun a st'=>eU M Γ I (f a) Q st') st):eU M Γ I (m>>= f) Q st:=fun p s hI=>by
 rw[StateT.run_bind,Sem.wp_bind'];exact Sem.wp_mono _ _ _ (fun r p' s' q=>q.1 p' s' q.2) (fun u u u q=>q) _ _ (h p s hI)
theorem qZ{Q:SortSt->SortSt->Prop}{st:SortSt}(h:Q st st):eU M Γ I (get:StateT SortSt Sem SortSt) Q st:=fun p s hI=>by rw[StateT.run_get];exact⟨h,hI⟩
theorem BR{f:SortSt->SortSt}{Q:PUnit->SortSt->Prop}{st:SortSt}(h:Q ⟨⟩ (f st)):eU M Γ I (modify f:StateT SortSt Sem PUnit) Q st:=fun p s hI=>by rw[StateT.run_modify];exact⟨h,hI⟩
theorem VF{t:String}{Q:Unit->SortSt->Prop}{st:SortSt}(h:Q () st):eU M Γ I (liftM (rule t):StateT SortSt Sem Unit) Q st:=fun p s hI=>by
 show Sem.wp M Γ ((StateT.lift (rule t):StateT SortSt Sem Unit).run st) _ _ p s;rw[StateT.run_lift,Sem.wp_bind',Sem.wp_cmd_rule];exact⟨h,hI⟩
theorem VG{b:β}{f:Nat->β->StateT SortSt Sem (ForInStep β)}{Q:β->SortSt->Prop}{st:SortSt}(h:Q b st):eU M Γ I (forIn ([]:List Nat) b f) Q st:=by rw[List.forIn_nil];exact jJ h
theorem rA {l:List Nat}{b:β}{f:Nat->β->StateT SortSt Sem (ForInStep β)}{Q:β->SortSt->Prop}{st:SortSt}(h:eU M Γ I (f x b) (fun r st'=>match r with | .done b'=>Q b' st' | .yield b'=>eU M Γ I (forIn l b' f) Q st') st):eU M Γ I (forIn (x::l) b f) Q st:=by
 rw[List.forIn_cons];refine fF fun p s hI=>Sem.wp_mono _ _ _ (fun r p' s' q=> ?_) (fun u u u q=>q) _ _ (h p s hI);obtain⟨q,hI'⟩:=q;obtain⟨r,st'⟩:=r;cases r with
 |done b'=>exact⟨jJ q,hI'⟩
 |yield b'=>exact⟨q,hI'⟩
theorem xI {b:Nat}{c:β}{f:Nat->β->StateT SortSt Sem (ForInStep β)}{Q:β->SortSt->Prop}{st:SortSt}(l:List Nat)(hl:List.range' a (b - a)=l)(h:eU M Γ I (forIn l c f) Q st):eU M Γ I (forIn [a:b] c f) Q st:=by
 subst hl;rw[Std.Legacy.Range.forIn_eq_forIn_range'];have hsz:([a:b]:Std.Legacy.Range).size=b - a:=by simp[Std.Legacy.Range.size]
 show eU M Γ I (forIn (List.range' a ([a:b]:Std.Legacy.Range).size 1) c f) Q st;rw[hsz];exact h
noncomputable def dW(κ:SortKind)(g:Nat->Keyed)(l:List Nat):SortSt:=SortSt.mk' κ ⟨l.map g⟩ #[] 7 none
theorem aL5 {κ:SortKind}{g:Nat->Keyed}{l:List Nat}{b:Nat}{Q:Option Bool->SortSt->Prop}(hi:l[i]? =some a)(hj:l[j]? =some b)(hc:∀p s,I s->Sem.wp M Γ (keyLt' κ (g a).1 (g b).1) (fun c u s'=>c=decide (rk a<rk b)/\I s') (fun u u u=>False) p s)(h1:rk a<rk b->Q (some true) (dW κ g l))(h2:rk b<=rk a->Q (some false) (dW κ g l)):
  eU M Γ I (ltAt' i j) Q (dW κ g l):=by
 rw[ltAt'_eq];refine fF (qZ ?_);show eU M Γ I (do let x <-elem' (arrOf (dW κ g l)) i;let y <-elem' (arrOf (dW κ g l)) j;lt' x y) Q _
 have e:∀{i a:Nat},l[i]? =some a->(arrOf (dW κ g l))[i]? =some (g a):=fun h=>by
  show (⟨l.map g⟩:Array Keyed)[_]? =_;simp[h]
 rw[elem'_eq,elem'_eq,e hi,e hj];refine fF (jJ (fF (jJ ?_)));rw[lt'_eq];refine fF (qZ ?_);refine fF fun p s hI=> ?_;show Sem.wp M Γ ((StateT.lift ((keyLt' κ (g a).1 (g b).1).attempt):StateT SortSt Sem _).run (dW κ g l)) _ _ p s;rw[StateT.run_lift,Sem.wp_bind',Sem.wp_attempt];refine Sem.wp_mono _ _ _ (fun c p' s' q=> ?_) (fun u u u q=>q.elim) _ _ (hc p s hI);obtain⟨rfl,hI'⟩:=q;refine⟨jJ ?_,hI'⟩
 by_cases h:rk a<rk b
 ·rw[decide_eq_true h];exact h1 h
 ·rw[decide_eq_false h];exact h2 (Nat.le_of_not_lt h)
theorem aL6 {κ:SortKind}{g:Nat->Keyed}{l:List Nat}{Q:Unit->SortSt->Prop}(l':List Nat)(hl:(mirror ⟨l⟩ i j ((j - i) / 2)).toList=l')(h:Q () (dW κ g l')):eU M Γ I (reverseSlice' i j) Q (dW κ g l):=by
 subst hl;rw[reverseSlice'_eq];refine BR ?_;have e:mirror ((⟨l⟩:Array Nat).map g) i j ((j - i) / 2)=(mirror ⟨l⟩ i j ((j - i) / 2)).map g:=PySem.W.kas_swaps_map g (fun k=>i+k) (fun k=>j - 1 - k) _ _
 have e2:setArr (dW κ g l) (mirror (arrOf (dW κ g l)) i j ((j - i) / 2))=dW κ g (mirror ⟨l⟩ i j ((j - i) / 2)).toList:=by
  show SortSt.mk' κ (mirror ⟨l.map g⟩ i j ((j - i) / 2)) #[] 7 none=SortSt.mk' κ ⟨(mirror ⟨l⟩ i j ((j - i) / 2)).toList.map g⟩ #[] 7 none;rw[show (⟨l.map g⟩:Array Keyed)=(⟨l⟩:Array Nat).map g by simp,e];congr 1;apply Array.ext';simp
 rw[e2];exact h
theorem aL7 {κ:SortKind}{g:Nat->Keyed}{l:List Nat}{Q:Unit->SortSt->Prop}(l':List Nat)(hl:(bubble ⟨l⟩ i (i - j)).toList=l')(h:Q () (dW κ g l')):eU M Γ I (moveDown' i j) Q (dW κ g l):=by
 subst hl;rw[moveDown'_eq];refine BR ?_;have e:bubble ((⟨l⟩:Array Nat).map g) i (i - j)=(bubble ⟨l⟩ i (i - j)).map g:=PySem.W.kas_swaps_map g (fun k=>i - k) (fun k=>i - k - 1) _ _
 have e2:setArr (dW κ g l) (bubble (arrOf (dW κ g l)) i (i - j))=dW κ g (bubble ⟨l⟩ i (i - j)).toList:=by
  show SortSt.mk' κ (bubble ⟨l.map g⟩ i (i - j)) #[] 7 none=SortSt.mk' κ ⟨(bubble ⟨l⟩ i (i - j)).toList.map g⟩ #[] 7 none;rw[show (⟨l.map g⟩:Array Keyed)=(⟨l⟩:Array Nat).map g by simp,e];congr 1;apply Array.ext';simp
 rw[e2];exact h
end
end
section
noncomputable abbrev dH:=Nat->Nat->Bool
noncomputable def T4(a b c d:Nat):dH:=fun i j=>Nat.blt (lO a b c d i) (lO a b c d j)
noncomputable def uQ(P:Nat->Bool):Nat->Bool
 |0=>true
 |n+1=>P n && uQ P n
theorem xJ{P:Nat->Bool}:∀n,uQ P n=true->∀i,i<n->P i=true
 |0,_,i,h=>absurd h (Nat.not_lt_zero i)
 |n+1,h,i,hi=>(Nat.lt_or_eq_of_le (Nat.le_of_lt_succ hi)).elim (xJ n (Bool.and_eq_true_iff.mp h).2 i) fun e=>e▸(Bool.and_eq_true_iff.mp h).1
noncomputable def BS(C P:dH->Bool):Bool:=uQ (fun a=>uQ (fun b=>uQ (fun c=>uQ (fun d=> !C (T4 a b c d) || P (T4 a b c d)) 4) 4) 4) 4
noncomputable def TK(rk:Nat->Nat):dH:=T4 (rk 0) (rk 1) (rk 2) (rk 3)
theorem HA {C P:dH->Bool}(hr:∀i,i<4->rk i<4)(h:BS C P=true)(hC:C (TK rk)=true):P (TK rk)=true:=by
 unfold BS at h;have z:=xJ 4 (xJ 4 (xJ 4 (xJ 4 h _ (hr 0 dT)) _ (hr 1 dT)) _ (hr 2 dT)) _ (hr 3 dT);exact(Bool.or_eq_true_iff.mp z).elim (fun q=>by rw[show C (T4 (rk 0) (rk 1) (rk 2) (rk 3))=true from hC] at q;cases q) id
noncomputable def HB:List Nat->List Nat->Bool
 | [],[]=>true
 |a::l,b::m=>Nat.beq a b && HB l m
 |_,_=>false
theorem HC:∀{l m:List Nat},HB l m=true->l=m
 | [],[],_=>rfl
 |a::l,b::m,h=>by rw[Nat.eq_of_beq_eq_true (Bool.and_eq_true_iff.mp h).1,HC (Bool.and_eq_true_iff.mp h).2]
noncomputable def VH(i j:Nat)(l:List Nat):Bool:=Nat.blt i l.length && (Nat.blt j l.length && (Nat.blt (l.getD i 0) 4 && (Nat.blt (l.getD j 0) 4 && !Nat.beq (l.getD i 0) (l.getD j 0))))
noncomputable def lR(t:dH)(m:Nat):List Nat:=dD (fun a b=> !t b a) m++List.drop m [0,1,2,3]
noncomputable abbrev jK(rk:Nat->Nat)(a b:Nat):Bool:=decide (rk a<=rk b)
theorem VI:∀{a b},a<4->b<4->TK rk a b=decide (rk a<rk b):=fun {a b} ha hb=>by
 have e:∀{a},a<4->lO (rk 0) (rk 1) (rk 2) (rk 3) a=rk a:=fun {a} h=>oY (P:=fun a=>lO (rk 0) (rk 1) (rk 2) (rk 3) a=rk a) rfl rfl rfl rfl a h;show Nat.blt _ _=_;rw[e ha,e hb];exact Bool.eq_iff_iff.mpr ((iff_of_eq Nat.blt_eq).trans decide_eq_true_iff.symm)
theorem HD{le le':Nat->Nat->Bool}:∀k,(∀a b,a<b->b<k->le a b=le' a b)->dD le k=dD le' k
 |0,_=>rfl
 |k+1,h=>by
  have e:∀x∈dD le' k,le x k=le' x k:=fun x hx=>h x k (BQ le' k x hx) (Nat.lt_succ_self k);unfold dD;rw[HD k fun a b hab hb=>h a b hab (Nat.lt_succ_of_lt hb),List.filter_congr e,List.filter_congr (p:=fun x=> !le x k) (q:=fun x=> !le' x k) fun x hx=>congrArg not (e x hx)]
theorem aL8:lR (TK rk) 4=dD (jK rk) 4:=(List.append_nil _).trans (HD 4 fun a b hab hb=>by
 rw[VI hb (Nat.lt_trans hab hb),<-decide_not];exact decide_eq_decide.mpr Nat.not_lt)
section
variable{M:Model}{Γ:PySem.Ctx}{I:Shared->Prop}{κ:SortKind}{g:Nat->Keyed}{rk:Nat->Nat}{α β:Type}{C:dH->Bool}{L:dH->List Nat}
def WQ(M:Model)(Γ:PySem.Ctx)(I:Shared->Prop)(κ:SortKind)(g:Nat->Keyed)(rk:Nat->Nat)(m:StateT SortSt Sem α)(Q:α->(dH->Bool)->(dH->List Nat)->Prop)(C:dH->Bool)(L:dH->List Nat):Prop:=
 ∀R:α->SortSt->Prop,(∀a C' L',Q a C' L'->C' (TK rk)=true->R a (dW κ g (L' (TK rk))))->C (TK rk)=true->eU M Γ I m R (dW κ g (L (TK rk)))
theorem VJ{a:α}{Q:α->(dH->Bool)->(dH->List Nat)->Prop}(h:Q a C L):WQ M Γ I κ g rk (pure a) Q C L:=fun R hR hC=>jJ (hR _ _ _ h hC)
theorem VK{m:StateT SortSt Sem α}{f:α->StateT SortSt Sem β}{Q:β->(dH->Bool)->(dH->List Nat)->Prop}(h:WQ M Γ I κ g rk m (fun a C L=>WQ M Γ I κ g rk (f a) Q C L) C L):WQ M Γ I κ g rk (m>>= f) Q C L:=fun R hR hC=>fF (h _ (fun u u u q=>q R hR) hC)
theorem aL9{t:String}{Q:Unit->(dH->Bool)->(dH->List Nat)->Prop}(h:Q () C L):WQ M Γ I κ g rk (liftM (rule t):StateT SortSt Sem Unit) Q C L:=fun R hR hC=>VF (hR _ _ _ h hC)
theorem VL{b:β}{f:Nat->β->StateT SortSt Sem (ForInStep β)}{Q:β->(dH->Bool)->(dH->List Nat)->Prop}(h:Q b C L):WQ M Γ I κ g rk (forIn ([]:List Nat) b f) Q C L:=fun R hR hC=>VG (hR _ _ _ h hC)
theorem VM {l:List Nat}{b:β}{f:Nat->β->StateT SortSt Sem (ForInStep β)}{Q:β->(dH->Bool)->(dH->List Nat)->Prop}(h:WQ M Γ I κ g rk (f x b) (fun r C L=>match r with | .done b'=>Q b' C L | .yield b'=>WQ M Γ I κ g rk (forIn l b' f) Q C L) C L):WQ M Γ I κ g rk (forIn (x::l) b f) Q C L:=fun R hR hC=>
 rA (h _ (fun r C' L' q hC'=>by
  cases r with
  |done b'=>exact hR _ _ _ q hC'
  |yield b'=>exact q R hR hC') hC)
theorem rB {b:Nat}{c:β}{f:Nat->β->StateT SortSt Sem (ForInStep β)}{Q:β->(dH->Bool)->(dH->List Nat)->Prop}(l:List Nat)(hl:List.range' a (b - a)=l)(h:WQ M Γ I κ g rk (forIn l c f) Q C L):WQ M Γ I κ g rk (forIn [a:b] c f) Q C L:=fun R hR hC=>xI l hl (h R hR hC)
theorem oM{c:Prop}[d:Decidable c]{x y:StateT SortSt Sem α}{Q:α->SortSt->Prop}{st:SortSt}(b:Bool)(e:Decidable.decide c=b)(h:eU M Γ I (match b with |true=>x |false=>y) Q st):eU M Γ I (if c then x else y) Q st:=by
 subst e;cases d with
 |isTrue q=>rw[if_pos q];exact h
 |isFalse q=>rw[if_neg q];exact h
theorem BU{c:Prop}[d:Decidable c]{x y:StateT SortSt Sem α}{Q:α->(dH->Bool)->(dH->List Nat)->Prop}(b:Bool)(e:Decidable.decide c=b)(h:WQ M Γ I κ g rk (match b with |true=>x |false=>y) Q C L):WQ M Γ I κ g rk (if c then x else y) Q C L:=fun R hR hC=>oM b e (h R hR hC)
section
variable {Q:Unit->(dH->Bool)->(dH->List Nat)->Prop}
theorem aLa (h:Q () C fun t=>(mirror ⟨L t⟩ i j ((j - i) / 2)).toList):WQ M Γ I κ g rk (reverseSlice' i j) Q C L:=fun R hR hC=>aL6 _ rfl (hR _ _ _ h hC)
theorem aLb (h:Q () C fun t=>(bubble ⟨L t⟩ i (i - j)).toList):WQ M Γ I κ g rk (moveDown' i j) Q C L:=fun R hR hC=>aL7 _ rfl (hR _ _ _ h hC)
end
theorem VN (hr:∀i,i<4->rk i<4)(hc:∀a b,a<4->b<4->a≠b->∀p s,I s->Sem.wp M Γ (keyLt' κ (g a).1 (g b).1) (fun c u s'=>c=decide (rk a<rk b)/\I s') (fun u u u=>False) p s){Q:Option Bool->(dH->Bool)->(dH->List Nat)->Prop}(h:BS C (fun t=>VH i j (L t))=true)(h1:Q (some true) (fun t=>C t && t ((L t).getD i 0) ((L t).getD j 0)) L)(h2:Q (some false) (fun t=>C t && !t ((L t).getD i 0) ((L t).getD j 0)) L):WQ M Γ I κ g rk (ltAt' i j) Q C L:=fun R hR hC=>by
 have z1:=Bool.and_eq_true_iff.mp (HA hr h hC:VH i j (L (TK rk))=true);have z2:=Bool.and_eq_true_iff.mp z1.2;have z3:=Bool.and_eq_true_iff.mp z2.2;have z4:=Bool.and_eq_true_iff.mp z3.2
 have l4:∀{i l},Nat.blt i (List.length l)=true->l[i]? =some (l.getD i 0):=fun {i l} h=>by
  rw[List.getD_eq_getElem?_getD,List.getElem?_eq_getElem (blt_true h)];rfl
 have e:=VI (rk:=rk) (blt_true z3.1) (blt_true z4.1);refine aL5 (rk:=rk) (l4 z1.1) (l4 z2.1) (hc _ _ (blt_true z3.1) (blt_true z4.1) fun e=> ?_) (fun q=>hR _ _ _ h1 (Bool.and_eq_true_iff.mpr ⟨hC,e.trans (decide_eq_true q)⟩)) fun q=>hR _ _ _ h2 (Bool.and_eq_true_iff.mpr ⟨hC,by rw[e,decide_eq_false (Nat.not_lt.mpr q)];rfl⟩);rw[e,Nat.beq_refl] at z4;cases z4.2
noncomputable def VO(m:Nat)(C:dH->Bool)(L:dH->List Nat):Bool:=BS C fun t=>HB (lR t m) (L t)
section
variable (hr:∀i,i<4->rk i<4)(hc:∀a b,a<4->b<4->a≠b->∀p s,I s->Sem.wp M Γ (keyLt' κ (g a).1 (g b).1) (fun c u s'=>c=decide (rk a<rk b)/\I s') (fun u u u=>False) p s)
include hr hc
theorem aLc:
  WQ M Γ I κ g rk (countRun' 0 4) (fun o C L=>∃m,o=some m/\(Nat.ble 1 m && Nat.ble m 4)=true/\VO m C L=true) (fun u=>true) (fun u=>[0,1,2,3]):=by
 rw[countRun0_eq]
 repeat' first
  |with_reducible refine VK ?_
  |with_reducible refine VN hr hc (by kernel_rfl) ?_ ?_
  |with_reducible refine aLa ?_
  |with_reducible refine aL9 ?_
  |with_reducible refine VM ?_
  |with_reducible refine VL ?_
  |with_reducible refine rB [1,2,3] rfl ?_
  |with_reducible refine rB [2,3] rfl ?_
  |with_reducible refine rB [3] rfl ?_
  |with_reducible refine rB [] rfl ?_
  |with_reducible refine BU true rfl ?_
  |with_reducible refine BU false rfl ?_
  |with_reducible refine VJ ?_
  |exact⟨_,rfl,rfl,by kernel_rfl⟩
  |dsimp only
  |unfold descPart
  |unfold tail3
  |unfold descLoop
  |unfold ascLoop
theorem aLd {Q:Bool->SortSt->Prop}{m:Nat}(h1:1<=m)(h4:m<4)(hQ:Q true (dW κ g (lR (TK rk) 4))):eU M Γ I (binarySort' 0 4 m) Q (dW κ g (lR (TK rk) m)):=by
 rw[binarySort'_eq];refine fF (xI (List.range' m (4 - m)) (by rw[Nat.max_eq_left h1]) ?_)
 have go:∀n k,k+n=4->1<=k->∀{b:Nat->Option Bool×Unit->StateT SortSt Sem (ForInStep (Option Bool×Unit))},(∀k,k<4->1<=k->WQ M Γ I κ g rk (b k (none,())) (fun r C L=>r= .yield (none,())/\VO (k+1) C L=true) (fun u=>true) fun t=>lR t k)->
   ∀Q:Option Bool×Unit->SortSt->Prop,Q (none,()) (dW κ g (lR (TK rk) 4))->eU M Γ I (forIn (List.range' k n) ((none,()):Option Bool×Unit) b) Q (dW κ g (lR (TK rk) k)):=by
  intro n;induction n with
  |zero=>
   intro k hk _ b _ Q h;obtain rfl:k=4:=hk;exact VG h
  |succ n ih=>
   intro k hk h1 b hb Q h;rw[List.range'_succ];refine rA (hb k (hk▸Nat.lt_add_of_pos_right (Nat.succ_pos n)) h1 _ (fun r C' L' q hC=> ?_) rfl);obtain⟨rfl,q⟩:=q;have z:=ih (k+1) ((Nat.succ_add k n).trans hk) (Nat.le_succ_of_le h1) hb Q h;rw[HC (HA hr q hC)] at z;exact z
 refine go (4 - m) m (Nat.add_sub_of_le (Nat.le_of_lt h4)) h1 (oY (fun h=>nomatch h) (fun u=> ?_) (fun u=> ?_) fun u=> ?_) _ (jJ hQ)
 all_goals
  repeat' first
   |with_reducible refine VK ?_
   |with_reducible refine VN hr hc (by kernel_rfl) ?_ ?_
   |with_reducible refine aLb ?_
   |with_reducible refine VM ?_
   |with_reducible refine VL ?_
   |with_reducible refine rB [0] rfl ?_
   |with_reducible refine rB [0,1] rfl ?_
   |with_reducible refine rB [0,1,2] rfl ?_
   |with_reducible refine BU true rfl ?_
   |with_reducible refine BU false rfl ?_
   |with_reducible refine VJ ?_
   |exact⟨rfl,by kernel_rfl⟩
   |dsimp only
theorem aLe:
  eU M Γ I sortRuns' (fun u st'=>arrOf st'=⟨(dD (jK rk) 4).map g⟩/\failedOf st'=none) (dW κ g [0,1,2,3]):=by
 rw[sortRuns'_eq];refine fF (qZ ?_)
 with_reducible refine fF (xI [0,1,2,3] rfl (rA (oM false rfl (fF ?_))))
 refine aLc hr hc _ (fun o C L q hC=> ?_) rfl;obtain⟨m,rfl,hm,q⟩:=q;rw[<-(HC (HA hr q hC):lR (TK rk) m=L (TK rk))];have hm:=Bool.and_eq_true_iff.mp hm
 have tail:∀n,arrOf (setPending (dW κ g (lR (TK rk) 4)) ((pendingOf (dW κ g (lR (TK rk) 4))).push (0,n,0)))=⟨(dD (jK rk) 4).map g⟩/\failedOf (setPending (dW κ g (lR (TK rk) 4)) ((pendingOf (dW κ g (lR (TK rk) 4))).push (0,n,0)))=none:=fun n=>by
  rw[aL8];exact⟨rfl,rfl⟩
 dsimp only;rcases Nat.lt_or_eq_of_le (Nat.le_of_ble_eq_true hm.2) with h |rfl
 ·refine oM true (decide_eq_true h) (fF (VF (fF (aLd hr hc (Nat.le_of_ble_eq_true hm.1) h (oM false rfl (fF (qZ ?_)))))))
  refine fF (BR (jJ ?_));refine rA (oM true rfl (jJ ?_));refine fF (xI [0,1,2,3] rfl (rA (fF (qZ ?_))));refine oM true rfl (jJ (jJ (tail 4)))
 ·refine oM false rfl (fF (qZ ?_))
  refine fF (BR (jJ ?_));refine rA (oM true rfl (jJ ?_));refine fF (xI [0,1,2,3] rfl (rA (fF (qZ ?_))));refine oM true rfl (jJ (jJ (tail 4)))
end
end
end
noncomputable def rC:Str:=⟨⟨[107,101,121]⟩⟩
noncomputable def nP(a c:Nat):Code:= .builtin AP ⟨[.ref a],[(rC,.ref c)]⟩
noncomputable def mM(a c:Nat):Code:= .builtin AO ⟨[.ref a],[(rC,.ref c)]⟩
noncomputable def VP(x y:Nat):Sem Fin:=bindR (Fast.tw7819805574551732078 oneType' (.ref x) (.ref y)) fun b=> .pure (.done (.ret (.bool b)))
noncomputable def rD(l0 c loc cr ck cah cw:Nat)(p3 p4 p5:Pos):List (Code×Pos):=(nP l0 c,p3)::cE loc cr ck cah cw p4 p5
theorem aLf(w:World)(g₀:Nat)(ad tb:Nat->Nat)(p:Pos)(K:KP)(vb sg:Bool)(x y k1 k2 ddx ddy tx ty a l0 loc cr ck cah:Nat)(p3 p4 p5:Pos):
 let r:=qM w sg g₀ (K.L 0 x y) ad tb [hM w.params K 0 vb k1 k2 ddx ddy tx ty 16 0] 9 0x2002005004004007 (mM a K.c) (VP x y) (rD l0 K.c loc cr ck cah K.cw p3 p4 p5) p 303 (K.P w.params 0 k1 k2 ddx ddy tx ty)
 dI r kR=dJ r [] ⟨mM a K.c,none,none,rD l0 K.c loc cr ck cah K.cw p3 p4 p5,none⟩ (.pure (.done (.ret (.bool vb)))) ((K.P w.params 0 k1 k2 ddx ddy tx ty).map some) [] 16:=by cases sg <;> (intro r;kernel_rfl)
section
noncomputable abbrev gS(a c l0 loc cr ck cah cw:Nat)(p3 p4 p5:Pos):PySem.Ctx:=⟨mM a c,none,none,rD l0 c loc cr ck cah cw p3 p4 p5,none⟩
theorem HE(l0 c loc cr ck cah cw:Nat)(p3 p4 p5:Pos):frameCount (rD l0 c loc cr ck cah cw p3 p4 p5)<=303:=by
 unfold rD;rw[frameCount_cons]
 have h:(nP l0 c).weight=0:=by
  unfold nP;rw[<-aG7];exact plainId_weight plain_sorted _
 have:=eY loc cr ck cah cw p4 p5
 lia
theorem aLg:keyLt'=Fast.tw7819805574551732078:=Fast.te7819805574551732078
section
variable{w:World}{s:Shared}{p:Pos}
theorem aLh {K:KP}{l0:Nat}(hS:K.S.Ok)(h1:k1<4)(h2:k2<4)(h12:k1≠k2)(hb:decide (K.S.z k1 k2<0)=b)(B:aT w s)(ha:At s (K.B x y) (K.PB w.params k1 k2 ddx ddy tx ty))(nd:(K.B x y).Nodup)(lo:∀a∈K.B x y,817<=a):
  Sem.wp (model PR w) (gS a K.c l0 loc cr ck cah K.cw p3 p4 p5) (keyLt' oneType' (.ref x) (.ref y)) (fun v u s'=>v=b/\aH [] s s') (fun u u u=>False) p s:=by
 obtain⟨nd',lo',ha'⟩:=KP.pick (j:=0) dT ha nd lo;rw[aLg]
 refine Sem.wp_mono _ _ _ (fun v u s' h=> ?_) (fun e u s' h=>absurd h.1 (by intro q;nomatch q)) _ _ (iX (R:=fun r s'=>r= .ok (.ret (.bool b))/\aH [] s s') (enc:=fun b=>Flow.ret (.bool b))
  (bL (t:=VP x y) (fun ad tb=>by rw[zK rfl];exact aLf w s.gens.size ad tb p K b _ x y k1 k2 ddx ddy tx ty a l0 loc cr ck cah p3 p4 p5)
   (aD (TM (m:=0) dT hS h1 h2 h12 hb (Nat.le_refl _))) B ha' rfl nd' lo' (HE ..) fun ad tb s' Q=>⟨rfl,aJ.rest (m:=[]) Q.ext ha' (GN Q)⟩))
 obtain⟨h1,h2⟩:=h;injection h1 with h1
 injection h1 with h1
 injection h1 with h1
 exact⟨h1,h2⟩
end
theorem kW {M:Model}{α β:Type}{m:Sem α}{f:α->Sem β}{Q:β->Pos->Shared->Prop}{E:Value->Pos->Shared->Prop}{s1:Shared}{v:α}(hn:Γ.handled=none)(h:∀D u,wpAny M ⟨none,D,none,none,u⟩ m (fun a s'=>a=v/\s'=s1) (fun z z=>False) s)(k:∀p,Sem.wp M Γ (f v) Q E p s1):Sem.wp M Γ (m>>= f) Q E p s:=by
 rw[Sem.wp_bind'];refine Sem.wp_mono _ _ _ (fun a p' s' q=> ?_) (fun z z z q=>q.elim) _ _ (UL hn h);obtain⟨rfl,rfl⟩:=q;exact k p'
theorem VQ{M:Model}{Γ:PySem.Ctx}{body:Value->PUnit->Sem (ForInStep PUnit)}{Q:PUnit->Pos->Shared->Prop}(I:Nat->Shared->Prop):∀(vs:List Value) (i:Nat) (s:Shared) (p:Pos),I i s->
  (∀j x s p,vs[j]? =some x->I (i+j) s->Sem.wp M Γ (body x ⟨⟩) (fun r u s'=>r= .yield ⟨⟩/\I (i+j+1) s') (fun u u u=>False) p s)->(∀p s,I (i+vs.length) s->Q ⟨⟩ p s)->∀{E:Value->Pos->Shared->Prop},Sem.wp M Γ (forIn vs PUnit.unit body) Q E p s
 | [],i,s,p,hI,_,done,E=>by
  rw[List.forIn_nil];exact done p s (by simpa using hI)
 |x::vs,i,s,p,hI,step,done,E=>by
  rw[List.forIn_cons,Sem.wp_bind'];refine Sem.wp_mono _ _ _ (fun r p' s' h=> ?_) (fun u u u q=>q.elim) _ _ (step 0 x s p (by simp) hI);obtain⟨rfl,hI'⟩:=h;refine VQ I vs (i+1) s' p' hI' (fun j y s'' p'' hy hJ=> ?_) fun p'' s'' hd=>done p'' s'' (by rw[List.length_cons];rw[show i+(vs.length+1)=i+1+vs.length by lia];exact hd);have e:i+(j+1)=i+1+j:=by lia
  have h1:=step (j+1) y s'' p'' (by simpa using hy) (by rw[e];exact hJ);rw[e] at h1;exact h1
theorem aH.upd {o:Obj}(f:Obj->Obj)(h:s.heap.get? a=some o):aH [a] s {s with heap:=s.heap.update a f}:=
 have hs:=Heap.SameBut.update s.heap a f
 ⟨fun b x q1 q2=>(hs.2 b (fun e=>q2 (e▸.head _))).trans q1,by show _<=(s.heap.update a f).objs.size;rw[hs.1];exact Nat.le_refl _,Nat.le_refl _,rfl,rfl,rfl⟩
theorem aH.push (o:Obj):aH [] s {s with heap:=s.heap.push o}:=
 ⟨fun b x q1 u=>Heap.get?_push_of_some _ q1,by show _<=(s.heap.push o).objs.size;rw[Heap.size_push];lia,Nat.le_refl _,rfl,rfl,rfl⟩
theorem HG {h:Heap}(ho:h.get? a=some (aA vs e))(g:Array Value->Array Value):∃e',(h.update a (Obj.mapSeq g)).get? a=some (aA (g ⟨vs⟩).toList e'):=by
 rw[iZ] at ho;obtain⟨e',h'⟩:∃e',(h.update a (Obj.mapSeq g)).get? a=some (seqObj "list" (g ⟨vs⟩) e'):=⟨_,get?_update_seq ho g⟩;exact⟨e',by rw[iZ];exact h'⟩
section
variable{w:World}{s:Shared}{p:Pos}
theorem aLi {ns z bt st:Nat}(B:aT w s)(hd:frameCount bl<=360)(ha:At s [c,ns,md,fi,fid] (jI w.params c ns md fi fid bt t0 t1 t2 sl fl fg fe fle fge st ia ib ic id_ ie τ ρi))(nd:[c,ns,md,fi,fid].Nodup)(lo:∀a∈[c,ns,md,fi,fid],817<=a):
  wpCode (model PR w) ⟨.call (.ref c) ⟨[.int (Int.ofNat z) t],[]⟩,none,none,bl,none⟩ (fun r s'=>∃k dd,r= .ok (.ret (.ref k))/\aH [] s s'/\s'.heap.get? k=some (cZ c dd (Int.ofNat z) t)/\s.heap.objs.size<=k) p s:=
 SY B hd ha nd lo fun a1 a2 s' n1 n2 u X h1 h2=>⟨a2,a1,rfl,aJ.rest (m:=[]) X ha h1,h2.2.1,n2⟩
theorem aLj {K:KP}{l0:Nat}{t:Nat->Nat}(hS:K.S.Ok)(hrk:(∀i,i<4->rk i<4)/\∀i j,i<4->j<4->i≠j->decide (K.S.z i j<0)=decide (rk i<rk j))(B:aT w s)(hF:At s K.F (K.PF w.params))(ndF:K.F.Nodup)(loF:∀x∈K.F,817<=x)(hi:At s [K.fi,fid] [iM fid,jW sa s7 13 ρi ia ib ic id_ ie])(ha:s.heap.get? a=some (aA (r4 fun i=> .int (Int.ofNat i) (t i)) ea))(a8:817<=a)(aF:a∉K.F)(ai:a∉[K.fi,fid])(nk:[K.c,K.ns,K.md,K.fi,fid].Nodup)(lk:∀a∈[K.c,K.ns,K.md,K.fi,fid],817<=a)(hR:∀s' e',aH [a] s s'->s'.heap.get? a=some (aA ((dD (jK rk) 4).map fun i=> .int (Int.ofNat i) (t i)) e')->R (.ok (.ret .none)) s'):
  wpCode (model PR w) (gS a K.c l0 loc cr ck cah K.cw p3 p4 p5) R p s:=by
 rw[wpCode_iff_wp]
 have hden:(model PR w).den (mM a K.c)=ksk_tree a (.ref K.c) false:=by
  unfold mM;rw[<-aG6,eM entry_list_sort,show rC=Str.ofString "key" from by decide+kernel];exact ksk_t1 K.c a
 show Sem.wp _ _ ((model PR w).den (mM a K.c)) _ _ p s;rw[hden]
 have n1:∀{y:Nat},y∈[a]->y=a:=fun q=>by
  cases q with
  |head=>rfl
  |tail _ q=>nomatch q
 have main:∀(e1:Nat) (s3:Shared) (kS:Nat) (p:Pos),aH [a] s s3->s3.heap.get? a=some (aA [] e1)->s3.heap.get? kS=some (aA [] 0)->s.heap.objs.size<=kS->kS≠a->
   Sem.wp (model PR w) (gS a K.c l0 loc cr ck cah K.cw p3 p4 p5) (ksk_rest a (.ref K.c) false ⟨r4 fun i=> .int (Int.ofNat i) (t i)⟩ e1 (.ref kS)) (Sem.finPost (model PR w) (gS a K.c l0 loc cr ck cah K.cw p3 p4 p5) R) (fun e m s'=>R (.error e) s') p s3:=by
  intro e1 s3 kS p X3 ha3 hk3 hkS hka;have B3:=B.extB X3 (aD a8);have F3:At s3 K.F (K.PF w.params):=hF.mv X3 fun x q q'=>aF (n1 q▸q');have i3:=hi.mv X3 fun x q q'=>ai (n1 q▸q');have sz3:=X3.size;have kF:∀x∈K.F,x≠kS:=fun x q e=>by have:=hF.lt x q;lia
  have ki:∀x∈[K.fi,fid],x≠kS:=fun x q e=>by have:=hi.ltAll rfl x q;lia
  have k8:817<=kS:=by have:=B.sz;lia
  unfold ksk_rest;refine kW rfl (fun D u=>wpAny_rule ⟨rfl,rfl⟩) fun p=> ?_;rw[show (⟨r4 fun i=>Value.int (Int.ofNat i) (t i)⟩:Array Value)=(r4 fun i=>Value.int (Int.ofNat i) (t i)).toArray from rfl,List.forIn_toArray,Sem.wp_bind']
  refine VQ (fun i s'=>∃(k dd:Nat->Nat) (e:Nat),aH [kS] s3 s'/\s'.heap.get? kS=some (aA ((List.range i).map fun j=> .ref (k j)) e)/\(∀j,j<i->s'.heap.get? (k j)=some (cZ K.c (dd j) (Int.ofNat j) (t j))/\s3.heap.objs.size<=k j)/\(∀j j',j<i->j'<i->k j=k j'->j=j'))
   _ 0 s3 p ⟨fun m=>0,fun m=>0,0,(aH.refl _).mono aE,hk3,fun j h=>absurd h (Nat.not_lt_zero j),fun j j' h=>absurd h (Nat.not_lt_zero j)⟩ (fun j x s' p hx hI=> ?_) fun p s' hI=> ?_
  ·rw[Nat.zero_add] at hI ⊢
   obtain⟨k,dd,e,X,hk,hks,hin⟩:=hI
   have hj:j<4:=by
    rcases Nat.lt_or_ge j 4 with h |h
    ·exact h
    ·rw[List.getElem?_eq_none (by show 4<=j;exact h)] at hx;cases hx
   rw[uP _ hj] at hx;obtain rfl:=Option.some.inj hx;have B':=B3.extB X (aD k8);have F':At s' K.F (K.PF w.params):=F3.mv X fun y q q'=>kF y q' (by cases q with |head=>rfl |tail _ q=>nomatch q);have i':=i3.mv X fun y q q'=>ki y q' (by cases q with |head=>rfl |tail _ q=>nomatch q);rw[Sem.wp_bind',Sem.wp_attempt,Sem.wp_cmd_call]
   have hfc:∀p,frameCount ((mM a K.c,p)::rD l0 K.c loc cr ck cah K.cw p3 p4 p5)<=360:=fun p=>by
    rw[frameCount_cons];have h1:=HE l0 K.c loc cr ck cah K.cw p3 p4 p5;have h2:(mM a K.c).weight<=6:=vI (by unfold mM;kernel_rfl)
    lia
   refine wpCode_mono (fun r s'' h=> ?_) (aLi (z:=j) (t:=t j) B' (hfc p) ⟨F'.get 11 _ _ rfl rfl,F'.get 12 _ _ rfl rfl,F'.get 13 _ _ rfl rfl,i'.1,i'.2.1,trivial⟩ nk lk);obtain⟨kn,dn,rfl,X2,hkn,nkn⟩:=h;have hkS2:=X2.frame _ _ hk (by simp);have hkS2':=hkS2;rw[iZ] at hkS2;show Sem.wp _ _ (Builtin.List.listUpdate (.ref kS) (·.push (.ref kn))>>= _) _ _ p s'';refine kW rfl (fun D u=>listUpdate_at hkS2 rfl ⟨rfl,rfl⟩ (by simp;exact Nat.le_trans (Nat.le_of_lt hj) dT) (by simp;exact Nat.le_trans (Nat.le_of_lt hj) dT)) fun p=> ?_;obtain⟨e',he'⟩:=HG hkS2' (·.push (.ref kn));have X4:=aH.upd (Obj.mapSeq (·.push (Value.ref kn))) hkS2';have s3s':=X.size;have kne:∀i,i<j->k i≠kn:=fun i h e=>by have h1:k i<s'.heap.objs.size:=Heap.lt_size (hks i h).1;lia
   have kSn:kS≠kn:=fun e=>by have h1:kS<s'.heap.objs.size:=Heap.lt_size hk;lia
   refine⟨rfl,fun i=>if i=j then kn else k i,fun i=>if i=j then dn else dd i,e',(X.trans (X2.mono aE)).trans X4,?_,fun i h=> ?_,fun i i' h h' q=> ?_⟩
   ·rw[he']
    refine congrArg (fun l=>some (aA l e')) ?_;simp only[List.push_toArray,List.range_succ,List.map_append,List.map_cons,List.map_nil,if_true];refine congrArg (·++[Value.ref kn]) (List.map_congr_left ?_);intro i hi';rw[if_neg (by have:=List.mem_range.mp hi';lia)]
   ·by_cases q:i=j
    ·subst q
     simp only[if_true];exact⟨X4.frame _ _ hkn (by simpa using fun e=>kSn e.symm),Nat.le_trans s3s' nkn⟩
    ·simp only[if_neg q]
     have hi':i<j:=by lia
     refine⟨X4.frame _ _ (X2.frame _ _ (hks i hi').1 (by simp)) ?_,(hks i hi').2⟩;have h1:kS<s3.heap.objs.size:=Heap.lt_size hk3;have h2:=(hks i hi').2;exact lP (by lia)
   ·by_cases q1:i=j <;> by_cases q2:i'=j
    ·lia
    ·simp only[if_pos q1,if_neg q2] at q
     exact absurd q.symm (kne i' (by lia))
    ·simp only[if_neg q1,if_pos q2] at q
     exact absurd q (kne i (by lia))
    ·simp only[if_neg q1,if_neg q2] at q
     exact hin i i' (by lia) (by lia) q
  ·obtain⟨k,dd,e,X,hk,hks,hin⟩:=hI
   have hk:s'.heap.get? kS=some (aA (r4 fun j=> .ref (k j)) e):=hk;have hks:∀j,j<4->s'.heap.get? (k j)=some (cZ K.c (dd j) (Int.ofNat j) (t j))/\s3.heap.objs.size<=k j:=hks;have hin:∀j j',j<4->j'<4->k j=k j'->j=j':=hin;have B':=B3.extB X (aD k8);have F':At s' K.F (K.PF w.params):=F3.mv X fun y q q'=>kF y q' (by cases q with |head=>rfl |tail _ q=>nomatch q);have ha':=X.frame _ _ ha3 (lP (Ne.symm hka));have hk':=hk;rw[iZ] at hk';refine kW rfl (fun D u=>listItems_at hk' rfl ⟨rfl,rfl⟩) fun p=> ?_;unfold ksk_end;dsimp only;rw[if_neg dT,if_neg (show ¬(r4 fun i=>Value.int (Int.ofNat i) (t i)).toArray.size<2 from(by decide:¬4<2)),if_neg (show ¬(r4 fun i=>Value.int (Int.ofNat i) (t i)).toArray.size<2 from(by decide:¬4<2))];have lk:∀{j o},s'.heap.get? (k j)=some o->Looks (model PR w) s'.heap (typeOf (.ref (k j))) o.cls:=fun h A Q E s₁ kk q=>wpAny_typeOf_ref (kk _ _ h) q;refine kW rfl (fun D u=>kas_kind (vs:=r4 fun j=>Value.ref (k j)) (T:= .ref K.c) (by decide:2<=4) (fun v hv=> ?_) (by simp) (by simp) ⟨rfl,rfl⟩) fun p=> ?_
   ·have:v= .ref (k 0)\/v= .ref (k 1)\/v= .ref (k 2)\/v= .ref (k 3):=by simpa using hv
    rcases this with rfl |rfl |rfl |rfl
    ·exact lk (hks 0 dT).1
    ·exact lk (hks 1 dT).1
    ·exact lk (hks 2 dT).1
    ·exact lk (hks 3 dT).1
   rw[Sem.wp_bind']
   have hc:∀i j,i<4->j<4->i≠j->∀p s₂,aH [] s' s₂->Sem.wp (model PR w) (gS a K.c l0 loc cr ck cah K.cw p3 p4 p5) (keyLt' oneType' (.ref (k i)) (.ref (k j))) (fun c m s₃=>c=decide (rk i<rk j)/\aH [] s' s₃) (fun m m m=>False) p s₂:=fun i j hi' hj' hij p s₂ X2=>by
    have F2:=F'.extB X2
    have kn:∀i,i<4->∀x∈K.F,x<k i:=fun i h x q=>by
     have h1:x<s.heap.objs.size:=hF.lt x q;have h2:=(hks i h).2
     lia
    have ndB:(K.B (k i) (k j)).Nodup:=KP.perm_B.nodup_iff.mpr (List.nodup_cons.mpr ⟨fun q=>by
     rcases List.mem_cons.mp q with q |q
     ·exact hij (hin i j hi' hj' q)
     ·exact Nat.lt_irrefl _ (kn i hi' _ q),List.nodup_cons.mpr ⟨fun q=>Nat.lt_irrefl _ (kn j hj' _ q),ndF⟩⟩)
    have ge:∀i,i<4->817<=k i:=fun i h=>by
     have h2:=(hks i h).2;have:=B3.sz
     lia
    have loB:∀x∈K.B (k i) (k j),817<=x:=fun x q=>by
     rcases List.mem_cons.mp (KP.perm_B.mem_iff.mp q) with rfl |q
     ·exact ge i hi'
     rcases List.mem_cons.mp q with rfl |q
     ·exact ge j hj'
     exact loF x q
    exact Sem.wp_mono _ _ _ (fun c m s₃ q=>⟨q.1,X2.trans q.2⟩) (fun m m m q=>q) _ _ (aLh (tx:=t i) (ty:=t j) hS hi' hj' hij (hrk.2 i j hi' hj' hij) (B'.extB X2 aE) (KP.at_B F2 (X2.frame _ _ (hks i hi').1 (by simp)) (X2.frame _ _ (hks j hj').1 (by simp))) ndB loB)
   rw[if_neg dT,show (⟨r4 fun j=>Value.ref (k j)⟩:Array Value).zip (r4 fun i=>Value.int (Int.ofNat i) (t i)).toArray=⟨[0,1,2,3].map fun i=>(Value.ref (k i),Value.int (Int.ofNat i) (t i))⟩ by simp];refine Sem.wp_mono _ _ _ (fun r p' s₂ q=> ?_) (fun m m m q=>q.elim) _ _ (aLe (κ:=oneType') (g:=fun i=>(Value.ref (k i),Value.int (Int.ofNat i) (t i))) (rk:=rk) (I:=aH [] s') hrk.1 hc p s' (aH.refl s'));obtain⟨⟨har,hfl⟩,X2⟩:=q;obtain⟨u,st'⟩:=r;dsimp only at har hfl ⊢;unfold ksk_tail;dsimp only;rw[har,hfl];have hk2':=X2.frame _ _ hk (by simp);have hk2:=hk2';rw[iZ] at hk2;refine kW rfl (fun D u=>listUpdate_at hk2 rfl ⟨rfl,rfl⟩ (by decide:4<=sizeLine) (Nat.zero_le _)) fun p=> ?_;have X4:=aH.upd (Obj.mapSeq fun m=>(#[]:Array Value)) hk2';refine kW rfl (fun D u=>wpAny_letGo ⟨rfl,rfl⟩) fun p=> ?_;have ha4':=X4.frame _ _ (X2.frame _ _ ha' (by simp)) (lP (Ne.symm hka));have ha4:=ha4';rw[iZ] at ha4;refine kW rfl (fun D u=>seqEpoch_at ha4 rfl ⟨rfl,rfl⟩) fun p=> ?_
   have sz4:((⟨(dD (jK rk) 4).map fun i=>(Value.ref (k i),Value.int (Int.ofNat i) (t i))⟩:Array Keyed).map (·.2)).size<=sizeLine+1:=by
    simp[GZ];decide
   refine kW rfl (fun D u=>listUpdate_at ha4 rfl ⟨rfl,rfl⟩ (Nat.zero_le _) sz4) fun p=> ?_;obtain⟨e',he'⟩:=HG ha4' (fun m=>if false=true then((⟨(dD (jK rk) 4).map fun i=>(Value.ref (k i),Value.int (Int.ofNat i) (t i))⟩:Array Keyed).map (·.2)).reverse else(⟨(dD (jK rk) 4).map fun i=>(Value.ref (k i),Value.int (Int.ofNat i) (t i))⟩:Array Keyed).map (·.2));have X5:=aH.upd (Obj.mapSeq fun m=>if false=true then((⟨(dD (jK rk) 4).map fun i=>(Value.ref (k i),Value.int (Int.ofNat i) (t i))⟩:Array Keyed).map (·.2)).reverse else(⟨(dD (jK rk) 4).map fun i=>(Value.ref (k i),Value.int (Int.ofNat i) (t i))⟩:Array Keyed).map (·.2)) ha4';simp only[bne_self_eq_false,Bool.false_eq_true,if_false];refine hR _ e' ?_ ?_
   ·exact(((X3.mono (m':=[a,kS]) (aD (.head _))).trans (((X.mono (aD (.tail _ (.head _)))).trans (X2.mono aE)).trans (X4.mono (aD (.tail _ (.head _)))))).trans (X5.mono (aD (.head _)))).less (aB (.inl (.head _)) (aD (.inr hkS)))
   ·have e:∀l:List Nat,l.map ((fun x:Value×Value=>x.2)∘fun i=>(Value.ref (k i),Value.int (Int.ofNat i) (t i)))=l.map fun i=>Value.int (Int.ofNat i) (t i):=fun l=>rfl
    simp only[Bool.false_eq_true,if_false,List.map_toArray,List.map_map] at he' ⊢;exact he'
 have ha':=ha;rw[iZ] at ha';unfold ksk_tree;refine kW rfl (fun D u=>listItems_at ha' rfl ⟨rfl,rfl⟩) fun p=> ?_;refine kW rfl (fun D u=>listUpdate_at ha' rfl ⟨rfl,rfl⟩ (by decide:4<=sizeLine) (Nat.zero_le _)) fun p=> ?_;have X1:=aH.upd (Obj.mapSeq fun m=>(#[]:Array Value)) ha;obtain⟨e1,he1⟩:=HG ha (fun m=>(#[]:Array Value));have he1':=he1;rw[iZ] at he1';refine kW rfl (fun D u=>seqEpoch_at he1' rfl ⟨rfl,rfl⟩) fun p=> ?_;refine kW rfl (fun D u=>wpAny_newTuple ⟨rfl,rfl⟩ (by decide:4<=sizeLine)) fun p=> ?_;have X2:=X1.trans ((aH.push (s:={s with heap:=s.heap.update a (Obj.mapSeq fun m=>(#[]:Array Value))}) {cls:= .type "tuple",data:= .seq (r4 fun i=>Value.int (Int.ofNat i) (t i)).toArray}).mono aE);refine kW rfl (fun D u=>wpAny_newList ⟨rfl,rfl⟩ (Nat.zero_le _)) fun p=> ?_;have X3:=X2.trans ((aH.push (s:={s with heap:=(s.heap.update a (Obj.mapSeq fun m=>(#[]:Array Value))).push {cls:= .type "tuple",data:= .seq (r4 fun i=>Value.int (Int.ofNat i) (t i)).toArray}}) {cls:= .type "list",data:= .seq ([]:List Value).toArray}).mono aE);rw[Sem.wp_holding];have hl:a<s.heap.objs.size:=Heap.lt_size ha;have hz:s.heap.objs.size<=((s.heap.update a (Obj.mapSeq fun m=>(#[]:Array Value))).push {cls:= .type "tuple",data:= .seq (r4 fun i=>Value.int (Int.ofNat i) (t i)).toArray}).objs.size:=X2.size;have hne:((s.heap.update a (Obj.mapSeq fun m=>(#[]:Array Value))).push {cls:= .type "tuple",data:= .seq (r4 fun i=>Value.int (Int.ofNat i) (t i)).toArray}).objs.size≠a:=Nat.ne_of_gt (Nat.lt_of_lt_of_le hl hz);refine main e1 _ _ p X3 (Heap.get?_push_of_some _ (Heap.get?_push_of_some _ he1)) ?_ hz hne;rw[iZ];exact Heap.get?_push_size _ rfl
end
end
theorem aLk(w:World)(g₀:Nat)(ad tb:Nat->Nat)(bl:List (Code×Pos))(p:Pos)(loc cr ck cah cw ln c od:Nat)(τ:Nat->Nat)(sc:SC)(p5:Pos):
 let r:=aY w g₀ [loc] ad tb [] 14 16777216
  (cL loc cr ck cah cw) (eI (cW 6) (aU loc cr ck cah cw)) (bW p5) p 302 [cV w.params τ sc ln c od]
 fZ r [0,1]=iA r [bZ ⟨cL loc cr ck cah cw,none,none,(bW p5),none⟩ p 302] ⟨cL loc cr ck cah cw,none,none,(bW p5),none⟩ (some (.call (.builtin AP) ⟨[.ref (ad 1+817)],[(rC,.ref c)]⟩,none)) [some (cV w.params τ sc ln c od),some (aA [.int (Int.ofNat 0) (aC tb 0),.int (Int.ofNat 1) (aC tb 1),.int (Int.ofNat 2) (aC tb 2),.int (Int.ofNat 3) (aC tb 3)] 0)] [] 2:=by intro r;kernel_rfl
theorem aLl(w:World)(g₀:Nat)(ad tb:Nat->Nat)(bl:List (Code×Pos))(p:Pos)(loc cr ck cah cw l0 c:Nat)(p4 p5:Pos):
 eZ w g₀ [] ad tb [] 0 0 (.call (.builtin AP) ⟨[.ref l0],[(rC,.ref c)]⟩) (cE loc cr ck cah cw p4 p5) p 303 [] [] (nP l0 c) [] 0:=by unfold eZ;kernel_rfl
theorem aLm(w:World)(g₀:Nat)(ad tb:Nat->Nat)(bl:List (Code×Pos))(p:Pos)(loc cr ck cah cw l0 c:Nat)(t:Nat->Nat)(p4 p5:Pos):
 let r:=cN w g₀ [l0] ad tb [tZ (fun x=>[Value.int (Int.ofNat 0) (t 0),Value.int (Int.ofNat 1) (t 1),Value.int (Int.ofNat 2) (t 2),Value.int (Int.ofNat 3) (t 3)]) 0 0 1 0] 3 5
  (nP l0 c) (cE loc cr ck cah cw p4 p5) p 303 [aA [.int (Int.ofNat 0) (t 0),.int (Int.ofNat 1) (t 1),.int (Int.ofNat 2) (t 2),.int (Int.ofNat 3) (t 3)] 0]
 fZ r [0,2]=iA r [bZ ⟨nP l0 c,none,none,(cE loc cr ck cah cw p4 p5),none⟩ p 303] ⟨nP l0 c,none,none,(cE loc cr ck cah cw p4 p5),none⟩ (some (.call (.builtin AO) ⟨[.ref (ad 2+817)],[(rC,.ref c)]⟩,none)) [some (aA [.int (Int.ofNat 0) (t 0),.int (Int.ofNat 1) (t 1),.int (Int.ofNat 2) (t 2),.int (Int.ofNat 3) (t 3)] 0),some (aA [.int (Int.ofNat 0) (t 0),.int (Int.ofNat 1) (t 1),.int (Int.ofNat 2) (t 2),.int (Int.ofNat 3) (t 3)] 0)] [] 3:=by intro r;kernel_rfl
theorem aLn(w:World)(g₀:Nat)(ad tb:Nat->Nat)(bl:List (Code×Pos))(p:Pos)(loc cr ck cah cw l0 a9 c e:Nat)(t:Nat->Nat)(p3 p4 p5:Pos):
 eZ w g₀ [a9] ad tb [] 1 1 (.call (.builtin AO) ⟨[.ref a9],[(rC,.ref c)]⟩) (rD l0 c loc cr ck cah cw p3 p4 p5) p 303 [aA [.int (Int.ofNat 0) (t 0),.int (Int.ofNat 1) (t 1),.int (Int.ofNat 2) (t 2),.int (Int.ofNat 3) (t 3)] e] [0] (mM a9 c) [aA [.int (Int.ofNat 0) (t 0),.int (Int.ofNat 1) (t 1),.int (Int.ofNat 2) (t 2),.int (Int.ofNat 3) (t 3)] e] 1:=by unfold eZ;kernel_rfl
theorem aLo(w:World)(g₀:Nat)(ad tb:Nat->Nat)(bl:List (Code×Pos))(p:Pos)(g1:Nat)(ad1 tb1:Nat->Nat)(p1:Pos)(loc cr ck cah cw l0 c:Nat)(t:Nat->Nat)(p4 p5:Pos):
 aW w g₀ [] ad tb [] 1 0 (nP l0 c) (dY (cN w g1 [l0] ad1 tb1 [tZ (fun x=>[Value.int (Int.ofNat 0) (t 0),Value.int (Int.ofNat 1) (t 1),Value.int (Int.ofNat 2) (t 2),Value.int (Int.ofNat 3) (t 3)]) 0 0 1 0] 3 5 (nP l0 c) (cE loc cr ck cah cw p4 p5) p1 303 [aA [.int (Int.ofNat 0) (t 0),.int (Int.ofNat 1) (t 1),.int (Int.ofNat 2) (t 2),.int (Int.ofNat 3) (t 3)] 0]).t (.ok (.ret .none))) (cE loc cr ck cah cw p4 p5) p 303 [] [] (.pure (.done (.ret (.ref (ad1 2+817))))) [] 0:=by unfold aW;kernel_rfl
theorem aLp(w:World)(g₀:Nat)(ad tb:Nat->Nat)(bl:List (Code×Pos))(p:Pos)(g1:Nat)(ad1 tb1:Nat->Nat)(p1:Pos)(loc cr ck cah cw ln c od a ea eo:Nat)(τ:Nat->Nat)(sc:SC)(xs ys:List (Int×Nat))(p5:Pos):
 aW w g₀ [loc,a,od] ad tb [GR false 1 2 (aR xs) (aR ys) ea eo 3 0] 14 0x4009002003002001 (cL loc cr ck cah cw) (dY (aY w g1 [loc] ad1 tb1 [] 14 16777216 (cL loc cr ck cah cw) (eI (cW 6) (aU loc cr ck cah cw)) (bW p5) p1 302 [cV w.params τ sc ln c od]).t (.ok (.ret (.ref a)))) (bW p5) p 302 [cV w.params τ sc ln c od,aA (aR xs) ea,aA (aR ys) eo] [0,1,2] (.pure (.done Flow.next)) [cV w.params τ sc ln c od,aA (aR xs) ea,aA (aR ys) eo] 3:=by unfold aW;kernel_rfl
section
theorem xK(qs:List (Nat×Nat)):aP qs=aR (qs.map fun q=>(Int.ofNat q.1,q.2)):=by
 induction qs with
 |nil=>rfl
 |cons q qs ih=>simp only[aP,List.map_cons,aR,ih]
theorem aLq(f:Nat->Int×Nat)(l:List Nat):(l.map fun i=>Value.int (f i).1 (f i).2)=aR (l.map f):=by
 induction l with
 |nil=>rfl
 |cons q qs ih=>simp only[List.map_cons,aR,ih]
section
variable{w:World}{s:Shared}{p:Pos}
theorem aLr {K:KP}{sc:SC}(hS:K.S.Ok)(hrk:(∀i,i<4->rk i<4)/\∀i j,i<4->j<4->i≠j->decide (K.S.z i j<0)=decide (rk i<rk j))(hq:qs.map (·.1)=dD (jK rk) 4)(B:aT w s)(hF:At s K.F (K.PF w.params))(ndF:K.F.Nodup)(loF:∀a∈K.F,817<=a)(hi:At s [K.fi,fid] [iM fid,jW sa s7 13 ρi ia ib ic id_ ie])(hl:s.heap.get? loc=some (cV w.params τ sc ln K.c od))(ho:s.heap.get? od=some (aA (aP qs) eo))(nlo:loc≠od)(l1:817<=loc)(l2:817<=od)(nk:[K.c,K.ns,K.md,K.fi,fid].Nodup)(lk:∀a∈[K.c,K.ns,K.md,K.fi,fid],817<=a):
  Sem.wp (model PR w) (gL loc cr ck cah K.cw p5) (execs (cW 6) (aU loc cr ck cah K.cw)) (fun f u s'=>f= .next/\aH [] s s') (fun u u u=>False) p s:=by
 rw[Fast.te12563942051412417395];refine lM (pF (t:=eI (cW 6) (aU loc cr ck cah K.cw)) (fun ad tb=>aLk w s.gens.size ad tb [] p loc cr ck cah K.cw ln K.c od τ sc p5) aE B ⟨hl,trivial⟩ rfl (by simp) (aD l1) (kB p5) fun ad tb px s₁ Q=> ?_);have hA:At s [loc] [cV w.params τ sc ln K.c od]:=⟨hl,trivial⟩;have X1:aH [] s s₁:=aJ.rest (m:=[]) Q.ext hA ⟨Q.at_ 0 0 _ rfl rfl,trivial⟩;have n0:s.heap.objs.size<=ad 1+817:=(Q.new 1 (Nat.le_refl _) dT).1;have h0:s₁.heap.get? (ad 1+817)=some (aA [.int (Int.ofNat 0) (aC tb 0),.int (Int.ofNat 1) (aC tb 1),.int (Int.ofNat 2) (aC tb 2),.int (Int.ofNat 3) (aC tb 3)] 0):=Q.at_ 1 1 _ rfl rfl;have B1:=B.extB X1 aE;refine kK (fun ad' tb'=>aLl w s₁.gens.size ad' tb' [] px loc cr ck cah K.cw (ad 1+817) K.c px p5) (fun u u=>by unfold nP;kernel_rfl) aE B1 trivial rfl List.nodup_nil aE (eY ..) dT fun ad2 tb2 px2 s₂ Q2=> ?_;have X2:aH [] s₁ s₂:=Q2.ext.dropB fun y hy=>nomatch hy;have B2:=B1.extB X2 aE;have h0':At s₂ [ad 1+817] [aA [.int (Int.ofNat 0) (aC tb 0),.int (Int.ofNat 1) (aC tb 1),.int (Int.ofNat 2) (aC tb 2),.int (Int.ofNat 3) (aC tb 3)] 0]:=⟨X2.frame _ _ h0 (by simp),trivial⟩;refine wH (fun ad' tb'=>aLm w s₂.gens.size ad' tb' [] px2 loc cr ck cah K.cw (ad 1+817) K.c (aC tb) px p5) (aD (aIa dT)) B2 h0' rfl (by simp) (aD (Nat.le_add_left _ _)) (eY ..) dT fun ad3 tb3 px3 s₃ Q3=> ?_;have X3:aH [] s₂ s₃:=aJ.rest (m:=[]) Q3.ext h0' ⟨Q3.at_ 0 0 _ rfl rfl,trivial⟩;have B3:=B2.extB X3 aE;have n3:s₂.heap.objs.size<=ad3 2+817:=(Q3.new 2 (Nat.le_succ 1) dT).1;have h3:s₃.heap.get? (ad3 2+817)=some (aA [.int (Int.ofNat 0) (aC tb 0),.int (Int.ofNat 1) (aC tb 1),.int (Int.ofNat 2) (aC tb 2),.int (Int.ofNat 3) (aC tb 3)] 0):=Q3.at_ 1 2 _ rfl rfl;have h3':At s₃ [ad3 2+817] [aA [.int (Int.ofNat 0) (aC tb 0),.int (Int.ofNat 1) (aC tb 1),.int (Int.ofNat 2) (aC tb 2),.int (Int.ofNat 3) (aC tb 3)] 0]:=⟨h3,trivial⟩;refine kK (fun ad' tb'=>aLn w s₃.gens.size ad' tb' [] px3 loc cr ck cah K.cw (ad 1+817) (ad3 2+817) K.c 0 (aC tb) px3 px p5) (fun u u=>by unfold mM;kernel_rfl) aE B3 h3' rfl (by simp) (aD (Nat.le_add_left _ _)) (HE ..) dT fun ad4 tb4 px4 s₄ Q4=> ?_;have X4:aH [] s₃ s₄:=aJ.rest (m:=[]) Q4.ext h3' ⟨Q4.at_ 0 0 _ rfl rfl,trivial⟩;have X14:aH [] s s₄:=((X1.trans X2).trans X3).trans X4;have B4:=B3.extB X4 aE;have h4:s₄.heap.get? (ad3 2+817)=some (aA [.int (Int.ofNat 0) (aC tb 0),.int (Int.ofNat 1) (aC tb 1),.int (Int.ofNat 2) (aC tb 2),.int (Int.ofNat 3) (aC tb 3)] 0):=Q4.at_ 0 0 _ rfl rfl;have na:s.heap.objs.size<=ad3 2+817:=Nat.le_trans (X1.trans X2).size n3
 have big:∀{as:List Nat} {os:List Obj},At s as os->as.length=os.length->ad3 2+817∉as:=fun h hl q=>by
  have:=h.ltAll hl _ q
  lia
 refine aLj (t:=aC tb) hS hrk B4 (hF.extB X14) ndF loF (hi.extB X14) h4 (Nat.le_add_left _ _) (big hF rfl) (big hi rfl) nk lk fun s₅ e5 X5 h5=> ?_;have X15:aH [] s s₅:=((X14.mono (m':=[ad3 2+817]) aE).trans X5).less (aD (.inr na));have B5:=B.extB X15 aE;obtain⟨r6,s₆,run6,rfl,X6⟩:=bL (R:=fun r s'=>r= .ok (.ret (.ref (ad3 2+817)))/\aH [] s₅ s') (fun ad' tb'=>aLo w s₅.gens.size ad' tb' [] px3 s₂.gens.size ad3 tb3 px2 loc cr ck cah K.cw (ad 1+817) K.c (aC tb) px p5) aE B5 trivial rfl List.nodup_nil aE (eY ..) fun ad' tb' s₆ Q6=>⟨rfl,Q6.ext.dropB fun y hy=>nomatch hy⟩;refine⟨_,s₆,run6,?_⟩;have X16:=X15.trans X6;have B6:=B.extB X16 aE
 have hxa:s₆.heap.get? (ad3 2+817)=some (aA (aR ((dD (jK rk) 4).map fun i=>(Int.ofNat i,aC tb i))) e5):=by
  rw[<-aLq];exact X6.frame _ _ h5 (by simp)
 have h6:At s₆ [loc,ad3 2+817,od] [cV w.params τ sc ln K.c od,aA (aR ((dD (jK rk) 4).map fun i=>(Int.ofNat i,aC tb i))) e5,aA (aR (qs.map fun q=>(Int.ofNat q.1,q.2))) eo]:=
  ⟨X16.frame _ _ hl (by simp),hxa,by rw[<-xK];exact X16.frame _ _ ho (by simp),trivial⟩
 have lloc:loc<s.heap.objs.size:=Heap.lt_size hl;have lod:od<s.heap.objs.size:=Heap.lt_size ho
 have nd6:[loc,ad3 2+817,od].Nodup:=by
  simp only[List.nodup_cons,List.mem_cons,List.not_mem_nil,or_false,not_or,List.nodup_nil,and_true,not_false_eq_true]
  lia
 obtain⟨r7,s₇,run7,rfl,X7⟩:=bL (R:=fun r s'=>r= .ok .next/\aH [] s₆ s') (fun ad' tb'=>aLp w s₆.gens.size ad' tb' [] px s.gens.size ad tb p loc cr ck cah K.cw ln K.c od (ad3 2+817) e5 eo τ sc _ _ p5)
  (aD (UA (by
   rw[jZ,decide_eq_true]
   ·rfl
   ·rw[List.map_map,List.map_map]
    show (dD (jK rk) 4).map Int.ofNat=qs.map (Int.ofNat∘(·.1));rw[<-List.map_map,hq]) dT dT)) B6 h6 rfl nd6 (aB l1 (aB (Nat.le_add_left _ _) (aD l2))) (kB p5) fun ad' tb' s₇ Q7=>⟨rfl,aJ.rest (m:=[]) Q7.ext h6 (Q7.ats [0,1,2])⟩
 exact⟨_,s₇,run7,rfl,X16.trans X7⟩
end
end
section
theorem aLs:bF jH=cW 0++(cW 1++(cW 2++(cW 3++(cW 4++(cW 5++(cW 6++(cW 7++cW 8))))))):=by kernel_rfl
theorem oN {v:Array Value}(h:s.heap.TableAt c t v)(X:aH m s s')(hc:c<817)(hm:∀a∈m,817<=a)(ht:t<817):s'.heap.TableAt c t v:=by
 refine bC fun zz=> ?_;obtain⟨⟨o,vs,a1,a2⟩,a5⟩:=h;refine zz ?_;exact⟨⟨o,vs,X.frame _ _ a1 fun q=>absurd (hm _ q) (Nat.not_le.mpr hc),a2⟩,X.frame _ _ a5 fun q=>absurd (hm _ q) (Nat.not_le.mpr ht)⟩
theorem VR {v:Array Value}(h:s.heap.TableAt c t v)(X:dU m s s')(hc:c<817)(hc':c≠769)(hm:∀a∈m,817<=a)(ht:t<817)(ht':t≠769):s'.heap.TableAt c t v:=by
 refine bC fun zz=> ?_;obtain⟨⟨o,vs,a1,a2⟩,a5⟩:=h;refine zz ?_;exact⟨⟨o,vs,X.frame _ _ a1 (fun q=>absurd (hm _ q) (Nat.not_le.mpr hc)) hc',a2⟩,X.frame _ _ a5 (fun q=>absurd (hm _ q) (Nat.not_le.mpr ht)) ht'⟩
structure PL(xs:List Int) where
 L:Nat->List Nat
 R:Nat->List Nat
 a:Nat->Nat
 b:Nat->Nat
 rk:Nat->Nat
 rkB:∀i,i<4->rk i<4
 hL:lY 0 (xs.take 24) LB=[L 0,L 1,L 2,L 3]
 hR:jU 0 (xs.take 24) RB=[R 0,R 1,R 2,R 3]
 line:∀k,k<4->eX ⟨⟨L k⟩⟩/\(Str.mk ⟨L k⟩).length≠1/\Wd ⟨⟨L k⟩⟩ 0 (some 32) 1 ((R k).map bE) (a k) (b k)/\((R k).map bE).length<=8
 row:∀k,k<4->(∀n∈R k,n<300)/\(R k).length<=8
 rank:∀i j,i<4->j<4->i≠j->decide (iV ((R i).map bE) ((R j).map bE)<0)=decide (rk i<rk j)
 ord:∀y:Nat->List (Int×Nat),(∀i,i<4->(y i).map (·.1)=(R i).map Int.ofNat)->dD (lQ y) 4=dD (jK rk) 4/\∀i j,i<4->j<4->i≠j->kA (iV ((R i).map bE) ((R j).map bE)) (y i) (y j)
theorem aLt(n:Nat):(bE n).length<=3:=by
 unfold bE cY;rw[nF]
 repeat' split
 all_goals simp
theorem At.mvN {os:List Obj}(h:At s as os)(X:aH m s s')(nd:(as++m).Nodup):At s' as os:=h.mv X fun a q q'=>(List.nodup_append.mp nd).2.2 a q' a q rfl
theorem At.mvJ {os:List Obj}(h:At s as os)(X:dU m s s')(lo:∀a∈as,817<=a)(nd:(as++m).Nodup):At s' as os:=h.extJ X lo fun a q q'=>(List.nodup_append.mp nd).2.2 a q a q' rfl
theorem HH {L N:List Nat}{n':Nat}(h:∀a∈L,a<n)(hn:n<=n')(h':∀a∈N,a<n'):∀a∈L++N,a<n':=fun a q=>(List.mem_append.mp q).elim (fun q=>Nat.lt_of_lt_of_le (h a q) hn) (h' a)
theorem xL {L N:List Nat}(h:∀a∈L,817<=a)(hn:817<=n)(h':∀a∈N,n<=a):∀a∈L++N,817<=a:=fun a q=>(List.mem_append.mp q).elim (h a) fun q=>Nat.le_trans hn (h' a q)
section
variable{w:World}{s:Shared}{p:Pos}
theorem qB {l1 l2:List Stmt}{P:Shared->Prop}{Q:Flow->Pos->Shared->Prop}{E:Value->Pos->Shared->Prop}(h1:Sem.wp (model PR w) Γ (execs l1 env) (fun f u s'=>f= .next/\P s') (fun u u u=>False) p s)(h2:∀p' s',P s'->Sem.wp (model PR w) Γ (execs l2 env) Q E p' s'):Sem.wp (model PR w) Γ (execs (l1++l2) env) Q E p s:=
 BJ (Sem.wp_mono _ _ _ (fun f p' s' q=>by
  obtain⟨rfl,q⟩:=q;exact h2 p' s' q) (fun u u u q=>q.elim) _ _ h1)
def VS(s:Shared):Prop:=(∃v,s.heap.get? 46=some (tableObj v))/\(∃v,s.heap.get? 813=some (tableObj v))/\∃v,s.heap.get? 769=some (tableObj v)
noncomputable def ys(ρ:List (Nat×Nat)):List (Int×Nat):=ρ.map fun q=>(Int.ofNat q.1,q.2)
theorem aLu (D:PL (xs.map (·.1)))(fD:xs.length<=1000)(B:aT w s)(ha:At s [loc,cr,sc,cw,cah,ck] [BL w.params τ ⟨sc,⟨[]⟩⟩,aN none,aA (cI xs) ep,aN none,aN none,aN none])(nd:[loc,cr,sc,cw,cah,ck].Nodup)(lo:∀a∈[loc,cr,sc,cw,cah,ck],817<=a)(hT:s.heap.TableAt c₀ 769 ⟨[]⟩)(h46:s.heap.TableAt c46 46 ⟨[]⟩)(h813:s.heap.TableAt c813 813 ⟨[]⟩)(hc:c₀<817/\c46<817/\c813<817/\c₀≠46/\c₀≠813/\c46≠769/\c813≠769):
  Sem.wp (model PR w) (gL loc cr ck cah cw p5) (execs (bF jH) (aU loc cr ck cah cw)) (fun f u s'=>f= .ret (.bool true)/\dU [loc,cr,cw,cah,ck,46,813] s s'/\VS s') (fun u u u=>False) p s:=by
 rw[aLs];refine bC fun zz=> ?_;refine zz ?_;have z0:=ha.ltAll rfl;refine qB (aJt (L0:=D.L 0) (L1:=D.L 1) (L2:=D.L 2) (L3:=D.L 3) (R0:=D.R 0) (R1:=D.R 1) (R2:=D.R 2) (R3:=D.R 3) fD (by rw[List.map_take];exact D.hL) (by rw[List.map_take];exact D.hR) B ⟨ha.1,ha.2.1,ha.2.2.1,trivial⟩ (bO nd [0,1,2] rfl) (eE lo [0,1,2] rfl)) fun p s₁ q=> ?_;refine q _ fun ln rl r0 r1 r2 r3 t0 t1 t2 t3 e0 e1 e2 e3 τ1 ρ0 ρ1 ρ2 ρ3 X1 a1 nd1 n1 hρ0 hρ1 hρ2 hρ3=> ?_;have m1:∀a∈[loc,cr],817<=a:=eE lo [0,1] rfl;have B1:=B.extB X1 m1;have L1:=qA nd z0 nd1 n1;have lo1:=xL lo B.sz n1;have lt1:=HH z0 X1.size (fun a q=>a1.ltAll rfl a (.tail _ (.tail _ q)));have G1:At s₁ [cr,rl,r0,r1,r2,r3] [aN (some (.ref rl)),aA [.ref r0,.ref r1,.ref r2,.ref r3] 0,aA (aP ρ0) e0,aA (aP ρ1) e1,aA (aP ρ2) e2,aA (aP ρ3) e3]:=⟨a1.2.1,a1.2.2.2⟩;have C0:At s [cw,cah,ck] [aN none,aN none,aN none]:=ha.2.2.2;have C1:=C0.mvN X1 (bO nd [3,4,5,0,1] rfl);have T1:=oN hT X1 hc.1 m1 dT;have T46:=oN h46 X1 hc.2.1 m1 dT;have T813:=oN h813 X1 hc.2.2.1 m1 dT;have line:=D.line;refine qB (aJw (w0:=(D.R 0).map bE) (w1:=(D.R 1).map bE) (w2:=(D.R 2).map bE) (w3:=(D.R 3).map bE) (line 0 dT) (line 1 dT) (line 2 dT) (line 3 dT) B1 ⟨a1.1,a1.2.2.1,C1.1,trivial⟩ (bO L1 [0,6,3] rfl) (eE lo1 [0,6,3] rfl)) fun p s₂ q=> ?_;refine q _ fun wl q0 q1 q2 q3 sl U0 U1 U2 U3 X2 a2 nd2 n2 g0 g1 g2 g3=> ?_;have m2:∀a∈[loc,cw],817<=a:=eE lo1 [0,3] rfl;have B2:=B1.extB X2 m2;have L2:=qA L1 lt1 nd2 n2;have lo2:=xL lo1 B1.sz n2;have lt2:=HH lt1 X2.size (fun a q=>a2.ltAll rfl a (.tail _ (.tail _ q)));have G2:=G1.mvN X2 (bO L1 [1,7,8,9,10,11,0,3] rfl);have C1':At s₁ [cah,ck] [aN none,aN none]:=C1.2;have C2:=C1'.mvN X2 (bO L1 [4,5,0,3] rfl);have T2:=oN T1 X2 hc.1 m2 dT;have T46:=oN T46 X2 hc.2.1 m2 dT;have T813:=oN T813 X2 hc.2.2.1 m2 dT;have row:=D.row
 have gw:∀{k:Nat} {ρ:List (Nat×Nat)} {U:List Nat},k<4->ρ.map (·.1)=D.R k->U.length=((D.R k).map bE).length/\(∀t∈U,1335<=t)->mL (ρ.map (·.1)) U/\ρ.length<=8:=fun {k ρ U} hk e g=>by
  have e':ρ.length=(D.R k).length:=by rw[<-e,List.length_map]
  have:=(row k hk).2;rw[e];rw[List.length_map] at g;exact⟨⟨(row k hk).1,by lia,g.1,g.2⟩,by lia⟩
 refine qB (aKd (c₀:=c₀) (gw dT hρ0 g0) (gw dT hρ1 g1) (gw dT hρ2 g2) (gw dT hρ3 g3) B2 ⟨a2.2.1,a2.2.2.1,by rw[hρ0];exact a2.2.2.2.1,by rw[hρ1];exact a2.2.2.2.2.1,by rw[hρ2];exact a2.2.2.2.2.2.1,by rw[hρ3];exact a2.2.2.2.2.2.2.1,G2⟩ (bO L2 [3,12,13,14,15,16,1,7,8,9,10,11] rfl) (eE lo2 [3,12,13,14,15,16,1,7,8,9,10,11] rfl) ⟨_,T2,.inl rfl⟩ hc.1) fun p s₃ q=> ?_;obtain⟨X3,T3⟩:=q;have B3:=B2.extJ X3 aE;have G3:=G2.mvJ X3 (eE lo2 [1,7,8,9,10,11] rfl) (bO L2 [1,7,8,9,10,11] rfl);have C3:=C2.mvJ X3 (eE lo2 [4,5] rfl) (bO L2 [4,5] rfl);have W2:At s₂ [loc,cw,wl,q0,q1,q2,q3] _:=a2;have W3:=W2.mvJ X3 (eE lo2 [0,3,12,13,14,15,16] rfl) (bO L2 [0,3,12,13,14,15,16] rfl);have lt3:∀a∈[loc,cr,sc,cw,cah,ck]++[ln,rl,r0,r1,r2,r3]++[wl,q0,q1,q2,q3],a<s₃.heap.objs.size:=fun a q=>Nat.lt_of_lt_of_le (lt2 a q) X3.size;have T46:=VR T46 X3 hc.2.1 hc.2.2.2.2.2.1 aE dT dT;have T813:=VR T813 X3 hc.2.2.1 hc.2.2.2.2.2.2 aE dT dT
 have hS:(WS.mk (fun k=>(D.R k).map bE) (lO U0 U1 U2 U3) (fun k=>2+((D.R k).map bE).length)).Ok:=by
  refine⟨fun k hk=> ?_,fun k hk=> ?_,fun k hk x hx=> ?_⟩
  ·exact oY (P:=fun k=>(lO U0 U1 U2 U3 k).length=((D.R k).map bE).length/\∀t∈lO U0 U1 U2 U3 k,1335<=t) g0 g1 g2 g3 k hk |>.1
  ·have:=(line k hk).2.2.2
   exact Nat.le_trans this (by decide:8<=1000)
  ·obtain⟨n,hn,rfl⟩:=List.mem_map.mp hx
   exact Nat.le_trans (aLt n) dT
 refine qB (aKe (S:=⟨fun k=>(D.R k).map bE,lO U0 U1 U2 U3,fun k=>2+((D.R k).map bE).length⟩) B3 W3.1 (lo _ (.head _)) W3.2 (eE lo2 [3,12,13,14,15,16] rfl) (List.nodup_cons.mp (bO L2 [0,3,12,13,14,15,16] rfl)).1 T46 T813) fun p s₄ q=> ?_;refine q _ fun K τ4 ρi fid ia ib ic id_ ie hK B4 X4 fv l4 F4 i4 nd4 n4=> ?_;obtain⟨hKS,rfl,rfl,rfl,rfl,rfl,rfl⟩:=hK;have mt:∀{as:List Nat},(∀a∈as,817<=a)->loc∉as->∀a∈as,a∉[loc,46,813]:=fun lo hl a q q'=>(List.mem_cons.mp q').elim (fun e=>hl (e▸q)) fun q'=>Nat.not_lt.mpr (lo a q) (aB (Q:=(·<817)) dT (aD dT) a q');have G4:=G3.extJ X4 (eE lo2 [1,7,8,9,10,11] rfl) (mt (eE lo2 [1,7,8,9,10,11] rfl) (List.nodup_cons.mp (bO L2 [0,1,7,8,9,10,11] rfl)).1);have C4:=C3.extJ X4 (eE lo2 [4,5] rfl) (mt (eE lo2 [4,5] rfl) (List.nodup_cons.mp (bO L2 [0,4,5] rfl)).1);have L4:=qA L2 lt3 nd4 n4;have lo4:=xL lo2 B3.sz n4
 have ltv:=HH lt3 X4.size (n':=s₄.heap.objs.size) (N:=K.N fid) fun a q=>by
  have q:a∈[K.f 0,K.f 1,K.f 2,K.f 3,K.f 4,K.d 0,K.d 1,K.d 2,K.d 3,K.d 4,K.mc,K.c,K.ns,K.md,K.lm,K.cdl]++[K.fi,fid]:=q;rcases List.mem_append.mp q with q |q
  ·exact F4.lt a (List.mem_append_left [K.cw,K.wl,K.q0,K.q1,K.q2,K.q3] q)
  ·exact i4.lt a q
 have m5:∀a∈[loc],817<=a:=aD (lo _ (.head _));refine qB (aJz B4 l4 (lo _ (.head _))) fun p s₅ q=> ?_;refine bC fun zz=> ?_;obtain⟨od,τ5,X5,l5,o5,n5⟩:=q;refine zz ?_;have B5:=B4.extB X5 m5;have L5:=qA L4 ltv (N:=[od]) (by simp) (aD n5);have lo5:=xL lo4 B4.sz (aD (Q:=fun a=>s₄.heap.objs.size<=a) n5);have G5:=G4.mvN X5 (bO L4 [1,7,8,9,10,11,0] rfl);have C5:=C4.mvN X5 (bO L4 [4,5,0] rfl);have F5:=F4.mvN X5 (bO L4 [17,18,19,20,21,22,23,24,25,26,27,28,29,30,31,32,3,12,13,14,15,16,0] rfl);have i5:=i4.mvN X5 (bO L4 [33,34,0] rfl);rw[xK,xK,xK,xK] at G5
 have hy:∀i,i<4->(lO (ys ρ0) (ys ρ1) (ys ρ2) (ys ρ3) i).map (·.1)=(D.R i).map Int.ofNat:=by
  have e:∀{ρ:List (Nat×Nat)} {R},ρ.map (·.1)=R->(ys ρ).map (·.1)=R.map Int.ofNat:=fun h=>by subst h;simp[ys]
  exact oY (e hρ0) (e hρ1) (e hρ2) (e hρ3)
 obtain⟨hins,hord⟩:=D.ord _ hy;refine qB (aL4 (r:=lO r0 r1 r2 r3) (f:=lO e0 e1 e2 e3) (y:=lO (ys ρ0) (ys ρ1) (ys ρ2) (ys ρ3)) B5 ⟨l5,o5,C5.1,C5.2.1,G5⟩ (bO L5 [0,35,4,5,1,7,8,9,10,11] rfl) (eE lo5 [0,35,4,5,1,7,8,9,10,11] rfl)) fun p s₆ q=> ?_;refine bC fun zz=> ?_;obtain⟨od',qs,eo,X6,l6,o6,hq,n6,⟨oc,k6⟩⟩:=q;refine zz ?_;have m6:∀a∈[ck,cah,loc],817<=a:=eE lo1 [5,4,0] rfl;have B6:=B5.extB X6 m6;have G6:=G5.mvN X6 (bO L4 [1,7,8,9,10,11,5,4,0] rfl);have F6:=F5.mvN X6 (bO L4 [17,18,19,20,21,22,23,24,25,26,27,28,29,30,31,32,3,12,13,14,15,16,5,4,0] rfl);have i6:=i5.mvN X6 (bO L4 [33,34,5,4,0] rfl);have hS':K.S.Ok:=hKS▸hS;have hz:∀i j,K.S.z i j=iV ((D.R i).map bE) ((D.R j).map bE):=fun i j=>by rw[hKS];rfl
 have ndF:K.F.Nodup:=bO L4 [17,18,19,20,21,22,23,24,25,26,27,28,29,30,31,32,3,12,13,14,15,16] rfl;have loF:∀a∈K.F,817<=a:=eE lo4 [17,18,19,20,21,22,23,24,25,26,27,28,29,30,31,32,3,12,13,14,15,16] rfl;have lod:817<=od':=Nat.le_trans B5.sz n6
 have nlo:loc≠od':=fun e=>by
  have h:loc<s₅.heap.objs.size:=Heap.lt_size l5
  lia
 refine qB (aLr hS' ⟨D.rkB,fun i j hi hj hij=>by rw[hz];exact D.rank i j hi hj hij⟩ (hq.trans hins) B6 F6 ndF loF i6 l6 o6 nlo (lo _ (.head _)) lod (bO L4 [28,29,30,33,34] rfl) (eE lo4 [28,29,30,33,34] rfl)) fun p s₇ X7=> ?_;have B7:=B6.extB X7 aE
 refine qB (aJy (y0:=ys ρ0) (y1:=ys ρ1) (y2:=ys ρ2) (y3:=ys ρ3) hS' (by rw[hz];exact hord 0 3 dT dT dT) (by rw[hz];exact hord 1 0 dT dT dT) (by rw[hz];exact hord 2 1 dT dT dT) (by rw[hz];exact hord 3 2 dT dT dT) B7 (F6.extB X7) ndF loF
  (List.nodup_cons.mp (bO L4 [0,17,18,19,20,21,22,23,24,25,26,27,28,29,30,31,32,3,12,13,14,15,16] rfl)).1 (i6.extB X7) (bO L4 [0,5,28,29,30,33,34] rfl) (eE lo4 [0,5,28,29,30,33,34] rfl) (X7.frame _ _ l6 (by simp)) (X7.frame _ _ k6 (by simp)) (G6.extB X7) (bO L4 [0,1,5,7,8,9,10,11] rfl) (eE lo4 [0,1,5,7,8,9,10,11] rfl) (List.nodup_cons.mp (bO L4 [5,17,18,19,20,21,22,23,24,25,26,27,28,29,30,31,32,3,12,13,14,15,16] rfl)).1) fun p s₈ X8=> ?_
 have m8:∀a∈[ck,loc],817<=a:=eE lo1 [5,0] rfl;refine Sem.wp_mono _ _ _ (fun f p s₉ q=>⟨q.1,?_⟩) (fun u u u q=>q) _ _ (aK0 (B7.extB X8 m8));have X9:=q.2;have X49:aH [loc,ck,cah] s₄ s₉:=((((X5.mono (aB (.head _) aE)).trans (X6.mono (aB (.tail _ (.head _)) (aB (.tail _ (.tail _ (.head _))) (aD (.head _)))))).trans (X7.mono aE)).trans (X8.mono (aB (.tail _ (.head _)) (aD (.head _))))).trans (X9.mono aE);have m49:∀a∈[loc,ck,cah],817<=a:=eE lo1 [0,5,4] rfl;refine⟨?_,fv.2.1.imp fun v h=>X49.frame _ _ h fun q=>absurd (m49 _ q) dT,fv.2.2.imp fun v h=>X49.frame _ _ h fun q=>absurd (m49 _ q) dT,?_⟩
 ·have M:= @tE [loc,cr,K.cw,cah,ck,46,813]
  exact((((X1.toJ.mono (M [0,1] rfl)).trans (X2.toJ.mono (M [0,2] rfl))).trans (X3.mono aE)).trans (X4.mono (M [0,5,6] rfl))).trans (X49.toJ.mono (M [0,4,3] rfl))
 ·refine bC fun zz=> ?_
  obtain⟨ps,⟨_,h769⟩,_⟩:=T3;refine zz ?_;refine⟨ps,X49.frame _ _ (fv.1 _ _ h769 fun q=> ?_) fun q=>absurd (m49 _ q) dT⟩;have:=lo loc (.head _);simp only[List.mem_cons,List.not_mem_nil,or_false] at q
  lia
end
end
theorem aLv(w:World)(g₀:Nat)(ad tb:Nat->Nat)(bl:List (Code×Pos))(p:Pos)(sc ep:Nat)(vs:List Value)(p5:Pos):
 eZ w g₀ [sc] ad tb [] 12 274945015808 (.call (.ref 816) ⟨[.ref sc],[]⟩) (bW p5) p 302 [aA vs ep] [0,1,2,3,4,5] (cL (ad 1+817) (ad 2+817) (ad 3+817) (ad 4+817) (ad 5+817)) [aA vs ep,BL w.params (fun u=>aC tb 0) ⟨sc,⟨[]⟩⟩,aN none,aN none,aN none,aN none] 6:=by unfold eZ;kernel_rfl
section
section
variable{w:World}{s:Shared}{p:Pos}
theorem aLw (D:PL (xs.map (·.1)))(fD:xs.length<=1000)(B:aT w s)(hs:s.heap.get? sc=some (aA (cI xs) ep))(lo:817<=sc)(hT:s.heap.TableAt c₀ 769 ⟨[]⟩)(h46:s.heap.TableAt c46 46 ⟨[]⟩)(h813:s.heap.TableAt c813 813 ⟨[]⟩)(hc:c₀<817/\c46<817/\c813<817/\c₀≠46/\c₀≠813/\c46≠769/\c813≠769):
  wpCode (model PR w) ⟨.call (.ref 816) ⟨[.ref sc],[]⟩,none,none,bW p5,none⟩ (fun r s'=>r= .ok (.ret (.bool true))/\dU [46,813] s s'/\VS s') p s:=by
 have hA:At s [sc] [aA (cI xs) ep]:=⟨hs,trivial⟩;refine kK (fun ad tb=>aLv w s.gens.size ad tb [] p sc ep (cI xs) p5) (fun ad tb=>by unfold cL;kernel_rfl) aE B hA rfl (by simp) (aD lo) (kB p5) dT fun ad tb px s₁ Q=> ?_;have X1:aH [] s s₁:=aJ.rest (m:=[]) Q.ext hA ⟨Q.at_ 0 0 _ rfl rfl,trivial⟩;have B1:=B.extB X1 aE;have z:=Q.nd [1,2,3,4,5] rfl;have z1:[ad 1+817,ad 2+817,ad 3+817,ad 4+817,ad 5+817].Nodup:=z.1;have z2:∀a∈[ad 1+817,ad 2+817,ad 3+817,ad 4+817,ad 5+817],s.heap.objs.size<=a:=z.2;have nd:[sc,ad 1+817,ad 2+817,ad 3+817,ad 4+817,ad 5+817].Nodup:=qA (L:=[sc]) (by simp) (aD (Heap.lt_size hs)) z1 z2;have z3:∀a∈[sc,ad 1+817,ad 2+817,ad 3+817,ad 4+817,ad 5+817],817<=a:=xL (aD lo) B.sz z2;rw[wpCode_iff_wp];show Sem.wp _ _ (denote table (cL (ad 1+817) (ad 2+817) (ad 3+817) (ad 4+817) (ad 5+817))) _ _ px s₁;unfold cL;unfold denote;rw[Sem.wp_bind'];unfold PySem.point;rw[Sem.wp_point,Sem.wp_pure,Sem.wp_bind',Sem.wp_onRaise]
 refine Sem.wp_mono _ _ _ (fun f p₂ s₂ q=> ?_) (fun u u u q=>q.elim) _ _ (aLu (ep:=ep) (τ:=fun u=>aC tb 0) D fD B1 (Q.ats [1,2,0,5,4,3]) (bO nd [1,2,0,5,4,3] rfl) (eE z3 [1,2,0,5,4,3] rfl)
  (oN hT X1 hc.1 aE dT) (oN h46 X1 hc.2.1 aE dT) (oN h813 X1 hc.2.2.1 aE dT) hc)
 obtain⟨rfl,X2,t2⟩:=q;refine⟨rfl,((X1.toJ.mono (m':=[ad 1+817,ad 2+817,ad 5+817,ad 4+817,ad 3+817,46,813]) aE).trans X2).less (aB (.inr (z2 _ (mI 0))) (aB (.inr (z2 _ (mI 1))) (aB (.inr (z2 _ (mI 4))) (aB (.inr (z2 _ (mI 3))) (aB (.inr (z2 _ (mI 2))) (aB (.inl (mI 0)) (aD (.inl (mI 1))))))))),t2⟩
end
end
def rE(ks:List Nat):Prop:=∀k∈ks,k<16
theorem VT (h:n<300):rE (cY n):=by
 intro k hk;unfold cY at hk;split at hk
 ·cases hk
 ·split at hk
  ·simp at hk;lia
  ·split at hk
   ·simp at hk;lia
   ·simp at hk;lia
class inductive Tl:List Nat->Option Nat->Nat->Nat->Nat->Prop
 |nil {ln:Nat}:Tl [] none 0 ln ln
 |sp {l:List Nat} {ln:Nat}:Tl (32::l) (some 32) 1 ln ln
 |tab {l:List Nat} {ln:Nat}:Tl (9::l) (some 32) 1 ln ln
 |nl {l:List Nat} {ln:Nat}:Tl (10::l) (some 32) 1 ln (ln+1)
def lS(f:Bool)(l:List Nat)(st:Option Nat)(tok:List Nat)(q:Bool)(y ln n:Nat)(st':Option Nat)(tok':List Nat)(ln':Nat):Prop:=
 ∃q' y' u',bU f l st tok q y ln n st' tok' q' ln' y' u'/\(tok'≠[]\/q'=true)
theorem lS.mk' {f:Bool}{l:List Nat}{st:Option Nat}{q:Bool}(h:bU f l st tok q y ln n st' tok' q' ln' y' u')(g:tok'≠[]\/q'=true):lS f l st tok q y ln n st' tok' ln':=⟨q',y',u',h,g⟩
theorem BV {r:List Nat}(t:Tl r st' n ln ln'){q:Bool}(g:tok≠[]\/q=true):lS false r (some 97) tok q y ln n st' tok ln':=by
 cases tok with
 |nil=>
  have hq:q=true:=g.elim (fun h=>absurd rfl h) id;subst hq;cases t with
  |nil=>exact .mk' .aEof g
  |sp=>exact .mk' .aSp0 g
  |tab=>exact .mk' .aTab0 g
  |nl=>exact .mk' .aNl0 g
 |cons x xs=>
  cases t with
  |nil=>exact .mk' .aEof g
  |sp=>exact .mk' .aSp1 g
  |tab=>exact .mk' .aTab1 g
  |nl=>exact .mk' .aNl1 g
theorem VU{r:List Nat}{st':Option Nat}{n ln ln':Nat}(t:Tl r st' n ln ln'):∀(ks:List Nat) (x:Nat) (xs:List Nat) (q:Bool) (y:Nat),rE ks->lS false (bD ks++r) (some 97) (x::xs) q y ln (ks.length+n) st' (x::(xs++bD ks)) ln'
 | [],x,xs,q,y,_=>by
  rw[show bD []=[] from rfl,List.append_nil,List.nil_append,List.length_nil,Nat.zero_add];exact BV t (.inl (by simp))
 |k::ks,x,xs,q,y,h=>by
  obtain⟨q',y',u',p,g⟩:=VU t ks x (xs++[k+65]) q y fun j hj=>h j (.tail _ hj);rw[show xs++[k+65]++bD ks=xs++bD (k::ks) by simp[bD]] at p g;rw[show (k::ks).length+n=(ks.length+n)+1 by simp;lia];exact .mk' (.aL (h k (.head _)) p) g
theorem HI{r:List Nat}{st':Option Nat}{n ln ln':Nat}(t:Tl r st' n ln ln'):∀(ks:List Nat) (tok:List Nat) (q:Bool) (y:Nat),rE ks->lS false (bD ks++39::r) (some 39) tok q y ln (ks.length+1+n) st' (tok++bD ks) ln'
 | [],tok,q,y,_=>by
  obtain⟨q',y',u',p,g⟩:=BV t (tok:=tok) (q:=true) (y:=y) (.inr rfl);rw[show bD []=[] from rfl,List.append_nil,List.nil_append,show ([]:List Nat).length+1+n=n+1 by simp;lia];exact .mk' (.qEnd p) g
 |k::ks,[],q,y,h=>by
  obtain⟨q',y',u',p,g⟩:=HI t ks [k+65] true y fun j hj=>h j (.tail _ hj);rw[show[k+65]++bD ks=[]++bD (k::ks) by simp[bD]] at p g;rw[show (k::ks).length+1+n=(ks.length+1+n)+1 by simp;lia];exact .mk' (.qL0 (h k (.head _)) p) g
 |k::ks,x::xs,q,y,h=>by
  obtain⟨q',y',u',p,g⟩:=HI t ks (x::(xs++[k+65])) true y fun j hj=>h j (.tail _ hj);rw[show x::(xs++[k+65])++bD ks=x::xs++bD (k::ks) by simp[bD]] at p g;rw[show (k::ks).length+1+n=(ks.length+1+n)+1 by simp;lia];exact .mk' (.qL1 (h k (.head _)) p) g
theorem BW{r:List Nat}{st':Option Nat}{n ln ln':Nat}(t:Tl r st' n ln ln'):∀(ks:List Nat) (tok:List Nat) (q:Bool) (y:Nat),rE ks->lS false (bD ks++34::r) (some 34) tok q y ln (ks.length+1+n) st' (tok++bD ks) ln'
 | [],tok,q,y,_=>by
  obtain⟨q',y',u',p,g⟩:=BV t (tok:=tok) (q:=true) (y:=y) (.inr rfl);rw[show bD []=[] from rfl,List.append_nil,List.nil_append,show ([]:List Nat).length+1+n=n+1 by simp;lia];exact .mk' (.mEnd p) g
 |k::ks,[],q,y,h=>by
  obtain⟨q',y',u',p,g⟩:=BW t ks [k+65] true y fun j hj=>h j (.tail _ hj);rw[show[k+65]++bD ks=[]++bD (k::ks) by simp[bD]] at p g;rw[show (k::ks).length+1+n=(ks.length+1+n)+1 by simp;lia];exact .mk' (.mL0 (h k (.head _)) p) g
 |k::ks,x::xs,q,y,h=>by
  obtain⟨q',y',u',p,g⟩:=BW t ks (x::(xs++[k+65])) true y fun j hj=>h j (.tail _ hj);rw[show x::(xs++[k+65])++bD ks=x::xs++bD (k::ks) by simp[bD]] at p g;rw[show (k::ks).length+1+n=(ks.length+1+n)+1 by simp;lia];exact .mk' (.mL1 (h k (.head _)) p) g
theorem VV{r:List Nat}{st':Option Nat}{n ln ln':Nat}(t:Tl r st' n ln ln'):∀(ks:List Nat) (x:Nat) (xs:List Nat) (q:Bool) (y:Nat),rE ks->lS false (jP ks++r) (some 97) (x::xs) q y ln ((jP ks).length+n) st' (x::(xs++bD ks)) ln'
 | [],x,xs,q,y,_=>by
  rw[show bD []=[] from rfl,show jP []=[] from rfl,List.append_nil,List.nil_append,List.length_nil,Nat.zero_add];exact BV t (.inl (by simp))
 |k::ks,x,xs,q,y,h=>by
  obtain⟨q',y',u',p,g⟩:=VV t ks x (xs++[k+65]) q 97 fun j hj=>h j (.tail _ hj);rw[show xs++[k+65]++bD ks=xs++bD (k::ks) by simp[bD]] at p g;rw[show (jP (k::ks)).length+n=((jP ks).length+n)+1+1 by simp[jP];lia];exact .mk' (.aBs (.bsL1 (h k (.head _)) p)) g
set_option tactic.hygienic true in
theorem VW {r:List Nat}(t:Tl r st' n ln ln')(fs:Bool)(d:Nat)(ks:List Nat)(h:rE ks):lS fs (dS d ks++r) (some 32) [] false 32 ln ((dS d ks).length+n) st' (bD ks) ln':=by
 have hq:lS fs (39::(bD ks++[39])++r) (some 32) [] false 32 ln ((39::(bD ks++[39])).length+n) st' (bD ks) ln':=by
  obtain⟨q',y',u',p,g⟩:=HI t ks [] false 32 h;rw[List.nil_append] at p g;rw[show 39::(bD ks++[39])++r=39::(bD ks++39::r) by simp,show (39::(bD ks++[39])).length+n=(ks.length+1+n)+1 by simp[nF];lia];exact .mk' (.spQ p) g
 have hm:lS fs (34::(bD ks++[34])++r) (some 32) [] false 32 ln ((34::(bD ks++[34])).length+n) st' (bD ks) ln':=by
  obtain⟨q',y',u',p,g⟩:=BW t ks [] false 32 h;rw[List.nil_append] at p g;rw[show 34::(bD ks++[34])++r=34::(bD ks++34::r) by simp,show (34::(bD ks++[34])).length+n=(ks.length+1+n)+1 by simp[nF];lia];exact .mk' (.spM p) g
 unfold dS;split
 ·exact hq
 ·rename_i k ks
  obtain⟨q',y',u',p,g⟩:=VU t ks (k+65) [] false 32 fun j hj=>h j (.tail _ hj);rw[show (bD (k::ks)).length+n=(ks.length+n)+1 by simp[nF];lia];exact .mk' (.spL (h k (.head _)) p) g
 ·exact hq
 ·exact hm
 ·exact hm
 ·rename_i k ks
  obtain⟨q',y',u',p,g⟩:=VV t ks (k+65) [] false 97 fun j hj=>h j (.tail _ hj);rw[show (jP (k::ks)).length+n=((jP ks).length+n)+1+1 by simp[jP];lia];exact .mk' (.spBs (.bsL0 (h k (.head _)) p)) g
 ·rename_i k ks _ _ _ _
  obtain⟨q',y',u',p,g⟩:=BW t ks [k+65] false 32 fun j hj=>h j (.tail _ hj);rw[show (k+65)::34::(bD ks++[34])++r=(k+65)::34::(bD ks++34::r) by simp,show ((k+65)::34::(bD ks++[34])).length+n=(ks.length+1+n)+1+1 by simp[nF];lia];exact .mk' (.spL (h k (.head _)) (.aM p)) g
noncomputable def kX(x:Nat×Nat×Nat):List Nat:=fT x.1++dS x.2.1 (cY x.2.2)
noncomputable def tI:List (Nat×Nat×Nat)->List Nat
 | []=>[]
 |x::I=>kX x++tI I
theorem VX(x:Nat×Nat×Nat):∀I,tI (I++[x])=tI I++kX x
 | []=>by simp[tI]
 |y::I=>by simp[tI,VX x I]
class inductive mO:List Nat->Prop
 |nil:mO []
 |sp {l:List Nat} (h:mO l):mO (32::l)
 |tab {l:List Nat} (h:mO l):mO (9::l)
 |nl {l:List Nat} (h:mO l):mO (10::l)
theorem xM{l:List Nat}{n:Nat}{st':Option Nat}{tok:List Nat}(h:∀fs ln,∃ln',lS fs l (some 32) [] false 32 ln n st' tok ln'):∀{W:List Nat},mO W->∀fs ln,∃ln',lS fs (W++l) (some 32) [] false 32 ln (W.length+n) st' tok ln'
 |_,.nil,fs,ln=>by simpa using h fs ln
 |_,.sp (l:=W) hw,fs,ln=>by
  obtain⟨ln',q',y',u',p,g⟩:=xM h hw false ln;exact⟨ln',by rw[show (32::W).length+n=(W.length+n)+1 by simp;lia];exact .mk' (.spSp p) g⟩
 |_,.tab (l:=W) hw,fs,ln=>by
  obtain⟨ln',q',y',u',p,g⟩:=xM h hw false ln;exact⟨ln',by rw[show (9::W).length+n=(W.length+n)+1 by simp;lia];exact .mk' (.spTab p) g⟩
 |_,.nl (l:=W) hw,fs,ln=>by
  obtain⟨ln',q',y',u',p,g⟩:=xM h hw false (ln+1);exact⟨ln',by rw[show (10::W).length+n=(W.length+n)+1 by simp;lia];exact .mk' (.spNl p) g⟩
theorem aLx(k:Nat):mO (fT k):=by
 unfold fT;split
 ·exact .sp .nil
 ·exact .sp (.sp .nil)
 ·exact .tab .nil
 ·exact .nl .nil
theorem aLy(k:Nat)(l:List Nat):∃c W,fT k++l=c::(W++l)/\mO W/\∀l' ln,∃ln',Tl (c::l') (some 32) 1 ln ln':=by
 unfold fT;split
 ·exact⟨32,[],rfl,.nil,fun u ln=>⟨ln,.sp⟩⟩
 ·exact⟨32,[32],rfl,.sp .nil,fun u ln=>⟨ln,.sp⟩⟩
 ·exact⟨9,[],rfl,.nil,fun u ln=>⟨ln,.tab⟩⟩
 ·exact⟨10,[],rfl,.nil,fun u ln=>⟨ln+1,.nl⟩⟩
theorem HJ{L:Str}:∀(I:List (Nat×Nat×Nat)) (q ln:Nat) (W:List Nat) (d:Nat) (ks:List Nat),(∀x∈I,x.2.2<300)->mO W->rE ks->L.cps.toList.drop q=W++(dS d ks++tI I)->∃qe lne,Wd L q (some 32) ln (bD ks::I.map fun x=>bE x.2.2) qe lne
 | [],q,ln,W,d,ks,_,hW,hk,e=>by
  obtain⟨ln',q',y',u',p,g⟩:=xM (fun fs ln=>⟨ln,VW (Tl.nil (ln:=ln)) fs d ks hk⟩) hW true ln;rw[show W++(dS d ks++[])=L.cps.toList.drop q from e.symm] at p;refine⟨_,_,.word p g (.stop (.inr ⟨rfl,?_,rfl,rfl⟩))⟩;have:=congrArg List.length e;rw[List.length_drop,Array.length_toList,List.length_append,List.length_append,show (tI []).length=0 from rfl] at this;show L.cps.size<=_
  lia
 |x::I,q,ln,W,d,ks,hI,hW,hk,e=>by
  obtain⟨c,W',e2,hW',ht⟩:=aLy x.1 (dS x.2.1 (cY x.2.2)++tI I)
  have e3:tI (x::I)=c::(W'++(dS x.2.1 (cY x.2.2)++tI I)):=by
   rw[<-e2];show kX x++tI I=_;rw[kX,List.append_assoc]
  obtain⟨ln',q',y',u',p,g⟩:=xM (fun fs ln=>(ht (W'++(dS x.2.1 (cY x.2.2)++tI I)) ln).imp fun ln' t=>VW t fs d ks hk) hW true ln;rw[show W++(dS d ks++c::(W'++(dS x.2.1 (cY x.2.2)++tI I)))=L.cps.toList.drop q from by rw[e,e3]] at p
  obtain⟨qe,lne,h⟩:=HJ I (q+(W.length+((dS d ks).length+1))) ln' W' x.2.1 (cY x.2.2) (fun y hy=>hI y (.tail _ hy)) hW' (VT (hI x (.head _))) (by
   rw[<-List.drop_drop,e,e3];rw[show W++(dS d ks++c::(W'++(dS x.2.1 (cY x.2.2)++tI I)))=(W++(dS d ks++[c]))++(W'++(dS x.2.1 (cY x.2.2)++tI I)) by simp];exact List.drop_left' (by simp))
  exact⟨qe,lne,.word p g h⟩
noncomputable abbrev It:=Nat×Nat×Nat
noncomputable def BX(v:Nat):It:=(v / 5 % 4,v % 5,eC v)
theorem VY:∀(xs:List Int) (i:Nat) (b c:Nat->List Nat) (I:Nat->List It),(∀k,k<4->∀x∈I k,x.2.2<300)->∃J:Nat->List It,(∀k,k<4->∀x∈J k,x.2.2<300)/\
  lY i xs (r4 fun k=>b k++tI (I k))=(r4 fun k=>b k++tI (J k))/\jU i xs (r4 fun k=>c k++(I k).map fun x=>x.2.2)=r4 fun k=>c k++(J k).map fun x=>x.2.2
 | [],i,b,c,I,h=>⟨I,h,rfl,rfl⟩
 |x::xs,i,b,c,I,h=>by
  have hn:(BX (vN x)).2.2<300:=Nat.mod_lt _ dT
  obtain⟨J,h1,h2,h3⟩:=VY xs (i+1) b c (fun k=>if k=i % 4 then I k++[BX (vN x)] else I k) (fun k hk y hy=>by
   split at hy
   ·rcases List.mem_append.mp hy with hy |hy
    ·exact h k hk y hy
    ·rw[List.mem_singleton.mp hy];exact hn
   ·exact h k hk y hy)
  refine⟨J,h1,?_,?_⟩
  ·rw[<-h2]
   show lY (i+1) xs _=_;congr 1;have hk:i % 4<4:=Nat.mod_lt _ dT
   match h4:i % 4,hk with
   |0,_ |1,_ |2,_ |3,_=>simp[List.set,VX,kX,jE,BX]
  ·rw[<-h3]
   show jU (i+1) xs _=_;congr 1;have hk:i % 4<4:=Nat.mod_lt _ dT
   match h4:i % 4,hk with
   |0,_ |1,_ |2,_ |3,_=>simp[List.set,BX]
noncomputable def bI(k:Nat):List It:=match k with
 |1=>[(0,1,0)]
 |_=>[]
noncomputable def fB(k:Nat):List Nat:=match k with
 |0=>[66,75]
 |1=>[39,66,75,39]
 |2=>[]
 |_=>[66,34,75,34]
noncomputable def bN(k:Nat):List Nat:=match k with
 |2=>[]
 |_=>[26]
theorem aLz(xs:List Int):∃J:Nat->List It,(∀k,k<4->∀x∈J k,x.2.2<300)/\lY 0 xs LB=(r4 fun k=>fB k++tI (J k))/\jU 0 xs RB=r4 fun k=>bN k++(J k).map fun x=>x.2.2:=
 VY xs 0 fB bN bI fun k hk x hx=>by
  match k,hk with
  |0,_ |2,_ |3,_=>cases hx
  |1,_=>cases hx with
   |head=>decide
   |tail _ q=>cases q
theorem aM0(x:It):2<=(kX x).length/\(kX x).length<=10:=by
 have h3:1<=(fT x.1).length:=by unfold fT;split <;> exact Nat.succ_pos _
 unfold kX;rw[List.length_append];exact⟨Nat.add_le_add h3 (EV x.2.1 (cY x.2.2)).1,Nat.add_le_add (EU _) (EW (tU _))⟩
theorem VZ:∀I:List It,2*I.length<=(tI I).length/\(tI I).length<=10*I.length
 | []=>⟨Nat.le_refl _,Nat.le_refl _⟩
 |x::I=>by
  have h1:=aM0 x;have h2:=VZ I;show 2*I.length+2<=(kX x++tI I).length/\(kX x++tI I).length<=10*I.length+10;rw[List.length_append,Nat.add_comm (kX x).length];exact⟨Nat.add_le_add h2.1 h1.1,Nat.add_le_add h2.2 h1.2⟩
theorem aM1 {J:List It}(hk:k<4)(h:∀x∈J,x.2.2<300)(hn:(bN k++J.map fun x=>x.2.2).length<=8):
  ∃a b,eX ⟨⟨fB k++tI J⟩⟩/\(Str.mk ⟨fB k++tI J⟩).length≠1/\Wd ⟨⟨fB k++tI J⟩⟩ 0 (some 32) 1 ((bN k++J.map fun x=>x.2.2).map bE) a b/\((bN k++J.map fun x=>x.2.2).map bE).length<=8:=by
 have ht:=VZ J
 have hl:J.length<=8:=by
  rw[List.length_append,List.length_map] at hn
  lia
 have hb:(fB k).length<=4/\(fB k).length≠1/\(J≠[]->(fB k++tI J).length≠1):=by
  refine⟨?_,?_,fun hJ=> ?_⟩
  ·match k,hk with
   |0,_ |1,_ |2,_ |3,_=>simp[fB]
  ·match k,hk with
   |0,_ |1,_ |2,_ |3,_=>simp[fB]
  ·have:1<=J.length:=by cases J with
    |nil=>exact absurd rfl hJ
    |cons _ _=>simp
   rw[List.length_append]
   lia
 have hs:eX ⟨⟨fB k++tI J⟩⟩:=by
  show (fB k++tI J).length<=1000000;rw[List.length_append]
  lia
 have h1:(Str.mk ⟨fB k++tI J⟩).length≠1:=by
  show (fB k++tI J).length≠1
  by_cases hJ:J=[]
  ·subst hJ
   rw[show tI []=[] from rfl,List.append_nil];exact hb.2.1
  ·exact hb.2.2 hJ
 have d26:∀d J,(∀x∈J,x.2.2<300)->∀L:List Nat,L=dS d [1,10]++tI J->∃a b,Wd ⟨⟨L⟩⟩ 0 (some 32) 1 (bE 26::J.map fun x=>bE x.2.2) a b:=fun d J h L e=>by
  subst e;exact HJ (L:=⟨⟨_⟩⟩) J 0 1 [] d [1,10] h .nil (fun k hk=>by simp at hk;lia) rfl
 have hw:∃a b,Wd ⟨⟨fB k++tI J⟩⟩ 0 (some 32) 1 ((bN k++J.map fun x=>x.2.2).map bE) a b:=by
  match k,hk with
  |0,_=>rw[List.map_append,List.map_map];exact d26 0 J h (fB 0++tI J) rfl
  |1,_=>rw[List.map_append,List.map_map];exact d26 1 J h (fB 1++tI J) rfl
  |3,_=>rw[List.map_append,List.map_map];exact d26 4 J h (fB 3++tI J) rfl
  |2,_=>
   cases J with
   |nil=>exact⟨_,_,.stop (.inl ⟨rfl,_,_,.spEof⟩)⟩
   |cons x I=>
    obtain⟨a,b,z⟩:=HJ (L:=⟨⟨kX x++tI I⟩⟩) I 0 1 (fT x.1) x.2.1 (cY x.2.2) (fun y hy=>h y (.tail _ hy)) (aLx _) (VT (h x (.head _))) (by simp[kX]);exact⟨a,b,by rw[List.map_append,List.map_map];exact z⟩
 obtain⟨a,b,hw⟩:=hw;exact⟨a,b,hs,h1,hw,by rw[List.length_map];exact hn⟩
abbrev xN(u v:List Nat):Prop:=u.length<v.length\/(u.length=v.length/\u<v)
theorem aM2{u v w:List Nat}:xN u v->xN v w->xN u w
 | .inl h,.inl g=> .inl (Nat.lt_trans h g)
 | .inl h,.inr g=> .inl (g.1▸h)
 | .inr h,.inl g=> .inl (h.1▸g)
 | .inr h,.inr g=> .inr ⟨h.1.trans g.1,List.lt_trans h.2 g.2⟩
theorem WA:∀a,a<299->xN (bE a) (bE (a+1)):=by decide+kernel
theorem aM3 {b:Nat}(hb:b<300)(h:a<b):xN (bE a) (bE b):=by
 induction h with
 |refl=>exact WA _ (Nat.lt_of_succ_lt_succ hb)
 |step _ ih=>exact aM2 (ih (Nat.lt_of_succ_lt hb)) (WA _ (Nat.lt_of_succ_lt_succ hb))
theorem aM4{x y:List Nat}(h:x<y):¬y<x:=fun h'=>List.lt_irrefl x (List.lt_trans h h')
theorem aM5 {b:Nat}(hb:b<300)(h:a<b):iN 0 (bE a) (bE b)<0/\iN 0 (bE b) (bE a)>0:=by
 unfold iN;simp only[ne_eq,not_true_eq_false,if_false];rcases aM3 hb h with h1 |⟨h1,h2⟩
 ·rw[if_pos (by omega),if_pos (by omega)]
  constructor
  ·show (Int.ofNat _ - Int.ofNat _:Int)<0
   simp only[Int.ofNat_eq_natCast];omega
  ·show (0:Int)<Int.ofNat _ - Int.ofNat _
   simp only[Int.ofNat_eq_natCast];omega
 ·have e1:¬(bE a).length≠(bE b).length:=by omega
  have e2:¬(bE b).length≠(bE a).length:=by omega
  rw[if_neg e1,if_neg e2];have h3:=aM4 h2;simp[h2,h3]
theorem aM6(x:List Nat):iN 0 x x=0:=by
 unfold iN;simp
theorem HK:∀{t:Int} (xs ys:List (List Nat)),t≠0->fE t xs ys=t
 |t,[],ys,_=>wW (.inl rfl)
 |t,x::xs,[],_=>wW (.inr rfl)
 |t,x::xs,y::ys,h=>by
  rw[fE,show iN t x y=t by unfold iN;rw[if_pos h]];exact HK xs ys h
noncomputable def cz(a b:List Nat):Int:=iV (a.map bE) (b.map bE)
theorem WB(b:List Nat):cz [] b= -Int.ofNat b.length:=by
 unfold cz iV;rw[show fE 0 (List.map bE []) (b.map bE)=0 from wW (.inl rfl)];simp
theorem WD(a:List Nat):cz a []=Int.ofNat a.length:=by
 unfold cz iV;rw[show fE 0 (a.map bE) (List.map bE [])=0 from wW (.inr rfl)];simp
theorem WE(x:Nat)(a b:List Nat):cz (x::a) (x::b)=cz a b:=by
 unfold cz iV;rw[List.map_cons,List.map_cons,fE,aM6];simp only[List.length_cons];congr 1;simp only[Int.ofNat_eq_natCast];omega
theorem BY (hy:y<300)(h:x<y)(a b:List Nat):cz (x::a) (y::b)<0/\cz (y::b) (x::a)>0:=by
 have z:=aM5 hy h;unfold cz iV;rw[List.map_cons,List.map_cons,fE,fE,HK _ _ (by omega),HK _ _ (by omega),if_pos (by omega),if_pos (by omega)];exact z
theorem BZ:∀(a b:List Nat),(∀n∈a,n<300)->(∀n∈b,n<300)->(cz a b<0↔a<b)/\(cz a b=0↔a=b)/\(cz a b>0↔b<a)
 | [],b,_,_=>by
  rw[WB];cases b with
  |nil=>simp
  |cons y b=>simp;omega
 |x::a,[],_,_=>by
  rw[WD];simp;omega
 |x::a,y::b,ha,hb=>by
  rcases Nat.lt_trichotomy x y with h |h |h
  ·have z:=(BY (hb y (.head _)) h a b).1
   simp only[List.cons_lt_cons_iff,List.cons.injEq];refine⟨⟨fun u=> .inl h,fun u=>z⟩,⟨fun u=>by omega,fun q=>by omega⟩,⟨fun u=>by omega,fun q=>by omega⟩⟩
  ·subst h
   rw[WE];have z:=BZ a b (fun n q=>ha n (.tail _ q)) (fun n q=>hb n (.tail _ q));simp only[List.cons_lt_cons_iff,List.cons.injEq];simpa using z
  ·have z:=(BY (ha x (.head _)) h b a).2
   simp only[List.cons_lt_cons_iff,List.cons.injEq];refine⟨⟨fun u=>by omega,fun q=>by omega⟩,⟨fun u=>by omega,fun q=>by omega⟩,⟨fun u=> .inl h,fun u=>z⟩⟩
theorem WF:∀(a b:List Nat) (ya yb:List (Int×Nat)),(∀n∈a,n<300)->(∀n∈b,n<300)->ya.map (·.1)=a.map Int.ofNat->yb.map (·.1)=b.map Int.ofNat->(sL ya yb).sign=(cz a b).sign
 | [],b,[],yb,_,_,_,hb=>by
  have hl:yb.length=b.length:=by simpa using congrArg List.length hb
  rw[WB,<-hl];cases yb <;> rfl
 |x::a,[],u::ya,[],_,_,ha,_=>by
  have hl:(u::ya).length=(x::a).length:=by simpa using congrArg List.length ha
  rw[WD,<-hl];rfl
 |x::a,y::b,u::ya,v::yb,h1,h2,ha,hb=>by
  have ha:=List.cons.inj ha;have hb:=List.cons.inj hb;show (if u.1 == v.1 then sL ya yb else u.1 - v.1).sign=_;rw[show u.1=Int.ofNat x from ha.1,show v.1=Int.ofNat y from hb.1];rcases Nat.lt_trichotomy x y with h |rfl |h
  ·rw[if_neg (by simp;omega),Int.sign_eq_neg_one_of_neg (BY (h2 y (.head _)) h a b).1]
   exact Int.sign_eq_neg_one_of_neg (Int.sub_neg_of_lt (Int.ofNat_lt.mpr h))
  ·rw[if_pos (by simp),WE]
   exact WF a b ya yb (fun n q=>h1 n (.tail _ q)) (fun n q=>h2 n (.tail _ q)) ha.2 hb.2
  ·rw[if_neg (by simp;omega),Int.sign_eq_one_of_pos (BY (h1 x (.head _)) h b a).2]
   exact Int.sign_eq_one_of_pos (Int.sub_pos_of_lt (Int.ofNat_lt.mpr h))
theorem WG(a b:List Nat)(ya yb:List (Int×Nat))(h1:∀n∈a,n<300)(h2:∀n∈b,n<300)(ha:ya.map (·.1)=a.map Int.ofNat)(hb:yb.map (·.1)=b.map Int.ofNat):kA (cz a b) ya yb:=
 ⟨WF a b ya yb h1 h2 ha hb,by
  unfold jZ;rw[ha,hb,Bool.eq_iff_iff,decide_eq_true_iff,beq_iff_eq,(BZ a b h1 h2).2.1];exact⟨List.map_inj_right (fun u u q=>Int.ofNat.inj q) |>.mp,congrArg _⟩⟩
noncomputable def qC(R:Nat->List Nat)(i:Nat):Nat->Nat
 |0=>0
 |n+1=>qC R i n+(decide (R n<R i)).toNat
noncomputable def nQ(R:Nat->List Nat)(i:Nat):Nat:=qC R i 4
theorem WH {R:Nat->List Nat}(h:R i=R j\/R i<R j)(n:Nat):(decide (R n<R i)).toNat<=(decide (R n<R j)).toNat:=by
 by_cases q:R n<R i
 ·rw[decide_eq_true (h.elim (fun e=>e▸q) (List.lt_trans q))];exact Bool.toNat_le _
 ·rw[decide_eq_false q];exact Nat.zero_le _
theorem HL{R:Nat->List Nat}{i j:Nat}(h:R i=R j\/R i<R j):∀n,qC R i n<=qC R j n
 |0=>Nat.le_refl _
 |n+1=>Nat.add_le_add (HL h n) (WH h n)
theorem WI{R:Nat->List Nat}{i j:Nat}(h:R i<R j):∀n,i<n->qC R i n<qC R j n
 |n+1,hn=>by
  rcases Nat.lt_or_eq_of_le (Nat.le_of_lt_succ hn) with q |rfl
  ·exact Nat.add_lt_add_of_lt_of_le (WI h n q) (WH (.inr h) n)
  ·refine Nat.add_lt_add_of_le_of_lt (HL (.inr h) i) ?_
   rw[decide_eq_false (List.lt_irrefl _),decide_eq_true h];decide
theorem WJ{R:Nat->List Nat}{i:Nat}:∀n,qC R i n<=n
 |0=>Nat.le_refl _
 |n+1=>Nat.add_le_add (WJ n) (Bool.toNat_le _)
theorem WK{R:Nat->List Nat}{i:Nat}:∀n,i<n->qC R i n<n
 |n+1,hn=>by
  rcases Nat.lt_or_eq_of_le (Nat.le_of_lt_succ hn) with q |rfl
  ·exact Nat.add_lt_add_of_lt_of_le (WK n q) (Bool.toNat_le _)
  ·refine Nat.add_lt_add_of_le_of_lt (WJ i) ?_
   rw[decide_eq_false (List.lt_irrefl _)];decide
theorem WL (R:Nat->List Nat)(hi:i<4)(h:R i<R j):nQ R i<nQ R j:=WI h 4 hi
theorem WM (R:Nat->List Nat)(h:R i=R j\/R j<R i):nQ R j<=nQ R i:=HL (h.imp Eq.symm id) 4
section
variable {R:Nat->List Nat}(hR:∀k,k<4->∀n∈R k,n<300)
include hR
theorem aM7 (hi:i<4)(hj:j<4):decide (cz (R i) (R j)<0)=decide (nQ R i<nQ R j):=by
 have z:=BZ (R i) (R j) (hR i hi) (hR j hj)
 by_cases h:cz (R i) (R j)<0
 ·rw[decide_eq_true h,decide_eq_true (WL R hi (z.1.mp h))]
 ·have:=WM R (i:=i) (j:=j) (by
   by_cases h0:cz (R i) (R j)=0
   ·exact .inl (z.2.1.mp h0)
   ·exact .inr (z.2.2.mp (by omega)))
  rw[decide_eq_false h,decide_eq_false (by omega)]
theorem aM8 {y:Nat->List (Int×Nat)}(hy:∀i,i<4->(y i).map (·.1)=(R i).map Int.ofNat):dD (lQ y) 4=dD (jK (nQ R)) 4:=
 HD 4 fun a b hab hb=>by
  have ha:a<4:=Nat.lt_trans hab hb;have z:=BZ (R a) (R b) (hR a ha) (hR b hb);show cB .LtE (sL (y a) (y b))=decide (nQ R a<=nQ R b);rw[xC (WG (R a) (R b) (y a) (y b) (hR a ha) (hR b hb) (hy a ha) (hy b hb)) .LtE,<-uK];refine decide_eq_decide.mpr ⟨fun h=>WM R ((Int.lt_or_eq_of_le h).elim (fun h=> .inr (z.1.mp h)) fun h=> .inl (z.2.1.mp h).symm),fun h=>Int.not_lt.mp fun q=>Nat.not_lt.mpr h (WL R hb (z.2.2.mp q))⟩
end
theorem aM9(ns:List Int):Nonempty (PL ns):=by
 obtain⟨J,h1,h2,h3⟩:=aLz (ns.take 24);let R:Nat->List Nat:=fun k=>bN k++(J k).map fun x=>x.2.2
 have hR:∀k,k<4->∀n∈R k,n<300:=fun k hk n hn=>by
  rcases List.mem_append.mp hn with q |q
  ·match k,hk with
   |0,_ |1,_ |3,_=>rw[List.mem_singleton.mp q];decide
   |2,_=>cases q
  ·obtain⟨x,hx,rfl⟩:=List.mem_map.mp q
   exact h1 k hk x hx
 have hl:∀k,k<4->(R k).length<=8:=by
  have z:=tX (Rf:=[R 0,R 1,R 2,R 3]) (xs:=(ns.take 24).map fun n=>(n,0)) (by rw[List.length_map,List.length_take];exact Nat.min_le_left ..) (by rw[List.map_map];exact(congrArg (fun z=>jU 0 z RB) (List.map_id (ns.take 24))).trans h3);exact oY (z 0 dT) (z 1 dT) (z 2 dT) (z 3 dT)
 have hw:∀k,∃ab:Nat×Nat,k<4->eX ⟨⟨fB k++tI (J k)⟩⟩/\(Str.mk ⟨fB k++tI (J k)⟩).length≠1/\Wd ⟨⟨fB k++tI (J k)⟩⟩ 0 (some 32) 1 ((R k).map bE) ab.1 ab.2/\((R k).map bE).length<=8:=fun k=>by
  by_cases hk:k<4
  ·obtain⟨a,b,z⟩:=aM1 hk (h1 k hk) (hl k hk)
   exact⟨(a,b),fun u=>z⟩
  ·exact⟨(0,0),fun h=>absurd h hk⟩
 exact⟨⟨fun k=>fB k++tI (J k),R,fun k=>(hw k).choose.1,fun k=>(hw k).choose.2,nQ R,fun i=>WK 4,h2,h3,fun k hk=>(hw k).choose_spec hk,fun k hk=>⟨hR k hk,hl k hk⟩,
  fun i j hi hj u=>aM7 hR hi hj,fun y hy=>⟨aM8 hR hy,fun i j hi hj u=>WG _ _ _ _ (hR i hi) (hR j hj) (hy i hi) (hy j hj)⟩⟩⟩
theorem WN:∀{vs:List Value} {ns:List Int},IntsAre vs ns->∃xs:List (Int×Nat),vs=cI xs/\xs.map (·.1)=ns
 |_,_,.nil=>⟨[],rfl,rfl⟩
 |_,_,.cons (n:=n) (t:=t) h=>by
  obtain⟨xs,e1,e2⟩:=WN h;exact⟨(n,t)::xs,by rw[e1];rfl,by rw[<-e2];rfl⟩
theorem aMa (e:vO s=vP w):lT (aX w.params) s.heap:=fun a o ha ht=>by
 have z:=congrArg (·[a]?) (congrArg Prod.fst e);simp only[vO,vP,List.getElem?_map,List.getElem?_range ha,Option.map_some,Option.some.injEq,ht] at z;split at z
 ·cases z
 ·exact z
theorem HM {h:Heap}{P:Params}(T:lT (aX P) h){o:Obj}{vs:Array Value}(hc:c<817)(ho:(aX P).get c=some o)(h1:o=⟨.type SL.s5856160107412720595x4,none,.fields vs,⟨[]⟩⟩)(hv:vs[11]? =some (.ref t))(ht:h.get? t=some (tableObj ⟨[]⟩)):h.TableAt c t ⟨[]⟩:=by
 refine table_at (T c o hc ho) (vs:=vs) ?_ hv ht rfl;rw[h1,<-SL.e5856160107412720595x4]
set_option tactic.hygienic true in
theorem c8:KH q0 KG (XL q0 []) vO vP RR.toRowW dL []:=by
 intro w s₀ s₁ mg mb G y fa o pm cd doc dV kV ho hd hcd hD hmg hg args vals as L hpre hlay hrd hwl hlo;have T:=aMa y;have ZN:s₀.heap.objs.size=817:=congrArg (fun z=>z.2.2.1) y;obtain⟨t46,t769,t813⟩:s₀.heap.get? 46=some (tableObj ⟨[]⟩)/\s₀.heap.get? 769=some (tableObj ⟨[]⟩)/\s₀.heap.get? 813=some (tableObj ⟨[]⟩):=by simpa[fG,vO,vP] using congrArg (fun z=>z.2.1) y
 refine Ground.open G ?_;intro TT B D TE TW
 wrow_args hpre hlay hrd hwl hlo
 obtain⟨hat,hsz⟩:=script_at L;have htk:1335<=s₁.toks:=script_toks L (congrArg (fun z=>z.2.2.2) y);rw[ZN] at hat hsz;subst hat;have T:lT (aX w.params) s₁.heap:=fun a o ha ht=>L.keeps _ _ (T a o ha ht);replace t46:=L.keeps _ _ t46;replace t769:=L.keeps _ _ t769;replace t813:=L.keeps _ _ t813;obtain⟨o',es,ep,g1,g2,_,g4⟩:=TT.g;have k:(match(o3 w.params).data with | .dict es _=>nsFind es dL.name |_=>none)=some (.ref 816):=by kernel_rfl
 rw[Option.some.inj ((T 3 _ dT rfl).symm.trans g1),g2] at k;obtain rfl:fa=816:=Value.ref.inj (Option.some.inj ((hmg.symm.trans (g4 _).symm).trans k));obtain⟨xs,rfl,rfl⟩:=WN ‹IntsAre _ _›;obtain⟨D⟩:=aM9 (xs.map (·.1));have a46:s₁.heap.TableAt 50 46 ⟨[]⟩:=HM T dT rfl rfl rfl t46;have a769:s₁.heap.TableAt 773 769 ⟨[]⟩:=HM T dT rfl rfl rfl t769;have a813:s₁.heap.TableAt 815 813 ⟨[]⟩:=HM T dT rfl rfl rfl t813;have B:aT w s₁:=⟨T,by omega,htk⟩;have hs:s₁.heap.get? 817=some (aA (cI xs) 0):=by rw[iZ];exact script_obj L (by assumption)
 have hn:xs.length<=1000:=by
  have:=‹¬(63:Int)<_›;rw[List.length_map] at this;omega
 refine wpCode_mono (fun r s' q=> ?_) (show wpCode _ (G0.enter _ none default) _ _ _ from aLw (p5:=default) D hn B hs (Nat.le_refl _) a769 a46 a813 dT);obtain⟨rfl,X,v46,v813,v769⟩:=q
 have kept:∀(b:Nat) (o:Obj),s₁.heap.get? b=some o->s'.heap.get? b=some o\/((∃c,s₁.heap.TableAt c b ⟨[]⟩)/\∃v,s'.heap.get? b=some (tableObj v)):=fun b o hb=>by
  by_cases h1:b=46
  ·subst h1
   exact .inr ⟨⟨_,a46⟩,v46⟩
  by_cases h2:b=813
  ·subst h2
   exact .inr ⟨⟨_,a813⟩,v813⟩
  by_cases h3:b=769
  ·subst h3
   exact .inr ⟨⟨_,a769⟩,v769⟩
  exact .inl (X.frame b o hb (by simp[h1,h2]) h3)
 refine⟨fun f h=>⟨.bool true,by injection h with h;exact h.symm⟩,.inl ⟨_,_,[],rfl,fun u=>rfl,ReadsW.bool true,by kernel_rfl,fun u=>⟨List.nodup_nil,fun u hm=>(nomatch hm)⟩⟩,⟨fun b o hb=> ?_,fun b o hb=> ?_⟩,X.os,X.gens (by rw[hg];exact AllBare.empty)⟩
 ·rcases kept b o hb with h |⟨⟨c',ht⟩,v,hv⟩
  ·exact .inl h
  ·have eo:o=tableObj ⟨[]⟩:=Option.some.inj (hb.symm.trans ht.2)
   subst eo;exact .inr (.inl ⟨ht.isCodeTable,rfl,⟨[]⟩,v,rfl,by rw[hv];simp[tableObj]⟩)
 ·rcases kept b o hb with h |⟨_,v,hv⟩
  ·exact⟨o,h⟩
  ·exact⟨_,hv⟩
theorem law_holds:PySem.Challenge.rw_ik0071_01.Holds:=
 holds_law c0 fun u=>aAh aAd (fun s e=>xl_of s (Bool.and_eq_true_iff.mp e).1) XL.keeps c1 c2 c3 (fun s e=>recFacts_of (Bool.and_eq_true_iff.mp e).2) rfl (row_said c0) c5 c6 c7 c8
end Mine
theorem PySem.Challenge.cw_ik0071_01_holds : PySem.Challenge.rw_ik0071_01.Holds :=
  Mine.law_holds
