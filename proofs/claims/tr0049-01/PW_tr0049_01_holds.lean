import PyProof.Rows.All
import PyProof.AutoIntG0
import PyProof.AutoIntG1
import PyProof.AutoIntG2
import PyProof.AutoIntG4
import PyProof.AutoIntG6
import PyProof.AutoIntG9
import PyProof.AutoListH
import PyProof.SliceList
import PyProof.MeetsStr
import PyProof.SumWalk
import PyProof.MeetsSeq
import PyProof.Draws
import PyProof.EnumMake
import PyProof.EqKinds
import PyProof.NeKinds
import PyProof.SliceStr
import PyProof.StrLawsIdx
import PyProof.SliceMore
import PyProof.StrReplace2
import KE.IntBitsLaws
import KE.KSortTup
import Wide.FinOn
import OpenK.AllK
import Wide.All
import PySem.Challenge.RW_tr0049_01
set_option maxRecDepth 100000
set_option linter.all false
set_option Elab.async false
set_option genSizeOf false
set_option genInjectivity false
set_option compiler.extract_closed false
set_option compiler.extract_closed false
set_option maxHeartbeats 0
open PySem PySem.W PySem.W.X PySem.W.SL
open List (append_assoc cons_subset_cons drop_drop eq_nil_of_length_eq_zero flatten_cons foldl_cons getD_eq_getElem?_getD getElem?_append_left getElem?_append_right getElem?_drop getElem?_inj getElem?_map getElem?_toArray getElem_map getElem_mem length_cons length_map length_range map_append map_cons map_map map_nil map_take mem_append_left mem_append_right mem_cons_of_mem mem_cons_self mem_of_getElem? nodup_nil pairwise_singleton range_succ size_toArray sum_cons take_of_length_le)
open Nat (eq_of_beq_eq_true le_add_right le_of_ble_eq_true le_of_eq lt_of_lt_of_le lt_or_ge mod_lt ne_of_lt zero_add zero_le)
open Int (add_mul dvd_zero mul_le_mul_of_nonneg_right natCast_nonneg toNat_of_nonneg)
open Array (getElem?_push getElem?_setIfInBounds getElem?_toList length_toList size_append)
open Option (bind_some map_some)
namespace Mine
noncomputable section
theorem gQ{G:Prop}(h:∀Q:Prop,(G->Q)->Q):G:=h G id
abbrev Rf{α:Type}(x:α):Prop:=x=x
noncomputable abbrev pw:Program:=PySem.Challenge.pw_tr0049_01
noncomputable def mf(i:Nat):Stmt:=(pw.main.body[i]?).getD (.Pass default)
noncomputable def ki(i j:Nat):Stmt:=match mf i with
 |.ClassDef _ _ _ b .. =>(b[j]?).getD (.Pass default)
 |s=>s
noncomputable def D0:Stmt->Arguments
 |.FunctionDef _ a .. =>a
 |_=>⟨[],[],none,[],[],none,[]⟩
noncomputable def IY:Stmt->List Stmt
 |.FunctionDef _ _ b .. =>b
 |_=>[]
noncomputable def DZ:Stmt->Scope
 |.FunctionDef _ _ _ _ _ _ sc .. =>sc
 |_=>⟨.function,[],false,false,[]⟩
noncomputable abbrev QS(s:String):=s
abbrev q0:=QS s14018661285674007319x4
abbrev q1:="builtins.__doc__:str#opaque"
abbrev q2:="builtins.__package__:str#opaque"
abbrev q3:="builtins.__loader__:shared#opaque"
abbrev q4:=QS s11665532747177232413x24
abbrev q5:=QS s15183661809925369436x15
abbrev q6:=QS s13915890719876406383x10
abbrev q7:=QS s13459172003223722735x3
abbrev q8:=QS s10557405761357834076x3
abbrev q9:=QS s4233737765568776869x3
abbrev J1:=QS s2508922471967985374x5
abbrev Ks:=QS s15574269061696679450x3
abbrev Sv:=QS s6016482663378992977x10
abbrev RP:=QS s5596568736180474577x8
abbrev Sp:=QS s2839554839881490554x3
abbrev Q6:=QS s725004073602090463x7
abbrev Sb:=QS s9436932552931045734x7
abbrev Tb:=QS s2754603736356183583x3
abbrev RB:=QS s15185746759980889043x6
abbrev Q5:=QS s8192189862530294059x4
abbrev SZ:=QS s7038307821325472102x4
abbrev Qt:=QS s5662562618415449548x6
abbrev Qq:=QS s15281542589158584767x7
abbrev QJ:=QS s17651547275483570877x7
abbrev Rp:=QS s4036449017235975746x7
abbrev RQ:=QS s8879979712987360175x4
abbrev SW:=QS s1801250619170735830x3
abbrev SP:=QS s17659931425627118568x2
abbrev R1:=QS s6063217899685152688x5
abbrev Qv:=QS s8008927332132565319x10
abbrev SU:=QS s3544116645089599534x10
abbrev RS:=QS s13761710972054866084x4
abbrev RT:=QS s12896375587409280029x5
abbrev QC:=QS s13014049009108672802x3
abbrev R2:=QS s13935586738268321596x6
abbrev QG:=QS s8200498257699607233x3
abbrev SG:=QS s14114244577727609259x3
abbrev Qw:=QS s1499430450269397089x4
abbrev QY:=QS s8755793994789770505x5
abbrev QH:=QS s15725212667919936108x3
abbrev QU:=QS s15791221867095933363x3
abbrev Tj:=QS s81309575031448614x3
abbrev Qr:=QS s8069831620301644142x5
abbrev Sm:=QS s10061844253413749634x4
abbrev Q1:=QS s9496514870978017513x5
abbrev Sk:=QS s8899691144933366716x7
abbrev QA:=QS s15201008993051130160x6
abbrev Su:=QS s741896355592496720x3
abbrev SJ:=QS s17925004256654032244x4
abbrev RC:=QS s11695548795398191787x4
abbrev Ss:=QS s4156966113859768872x10
abbrev Tq:=QS s9501651726347032510x9
abbrev Sj:=QS s15722918466584999320x5
abbrev Sq:=QS s591115383303110208x11
abbrev Th:=QS s15721156781594690315x7
abbrev RL:=QS s14340494229221121180x9
abbrev QZ:=QS s13429844117177748173x6
abbrev Se:=QS s16463266125957815391x5
abbrev S4:=QS s4922535414793169389x9
abbrev Q9:=QS s8101838861749082086x8
abbrev Qu:=QS s7066276694103001551x3
abbrev Fw:=QS s9222952809800978799x4
abbrev S6:=QS s462964344163437139x3
abbrev Kx:=QS s2742458400755230247x6
abbrev Pu:=QS s1438033511350832697x5
abbrev Q4:=QS s14365286008749172514x8
abbrev I3:=QS s3642769012341782148x3
abbrev SX:=QS s4674234679698826739x5
abbrev QQ:=QS s16656946322747308186x12
abbrev Q8:=QS s10796804682411823810x3
abbrev Op:=QS s4290257624100764138x5
abbrev cj:=QS s2766695959194262286x5
abbrev Jb:=QS s17162191345867700912x4
abbrev R0:=QS s14339709457334898076x3
abbrev Tl:=QS s4278001404047624695x13
abbrev Ro:=QS s6585700554429387442x18
abbrev To:=QS s5946037652744460706x9
abbrev SH:=QS s7410770068591931388x13
abbrev Rn:=QS s11817881795495490833x17
abbrev RR:=QS s15679963881808890155x10
abbrev Rz:=QS s3871700062485845797x15
abbrev So:=QS s7689518266570723881x14
abbrev Re:=QS s9001593270443806431x14
abbrev Sz:=QS s6882542574934516792x11
abbrev SA:=QS s14403400214490484960x8
abbrev R9:=QS s14457978657717015782x11
abbrev Te:=QS s1753610191782819921x11
abbrev RF:=QS s14119380538032626715x11
abbrev ST:=QS s11437920000406562045x9
abbrev NY:=QS s10852414792293593619x7
abbrev Rr:=QS s14816307405966870543x14
abbrev Rs:=QS s8682627914449686677x12
abbrev Tp:=QS s4428170145600203450x18
abbrev M7:=QS s5991306692159431302x13
abbrev Tm:=QS s16067994140765818257x11
abbrev Rx:=QS s2327743974964600596x11
abbrev QR:=QS s2804747833354056582x9
abbrev Td:=QS s6070975301684473832x10
abbrev SD:=QS s14270485950484850486x7
abbrev QM:=QS s12041534306414923332x18
abbrev Nm:=QS s2531307568338490285x13
abbrev NQ:=QS s631175304937289666x17
abbrev MH:=QS s5144983644357021410x12
abbrev Nr:=QS s18039099521571816885x18
abbrev On:=QS s6011586214260557989x15
abbrev Og:=QS s5430567037509283100x13
abbrev N9:=QS s8117915138073963741x13
abbrev OE:=QS s3423317712779056401x25
abbrev Mp:=QS s2007317383269046180x15
abbrev Mo:=QS s17481586968713580700x14
abbrev Nu:=QS s2450899226349176912x13
abbrev MZ:=QS s16626165730633575011x14
abbrev Me:=QS s14288496050688921416x11
abbrev NF:=QS s5735081916595925998x15
abbrev Pk:=QS s3865607918536308442x17
abbrev MR:=QS s13337502604062700212x15
abbrev NM:=QS s13114017843053701147x15
abbrev L9:=QS s17467278006356818441x17
abbrev NK:=QS s17722149559621369488x16
abbrev NU:=QS s7855274175708717672x17
abbrev Ms:=QS s13351283678309829046x18
abbrev MS:=QS s6668348653404991179x15
abbrev Pm:=QS s12913350958174193794x18
abbrev N4:=QS s16115879512475548326x12
abbrev M2:=QS s15920661018069861047x16
abbrev L1:=QS s10779130036587390575x21
abbrev Oy:=QS s7801419657504700863x10
abbrev LH:=QS s1688129525768580628x8
abbrev LM:=QS s1031832959479892071x19
abbrev LJ:=QS s8991790508128307865x19
abbrev MN:=QS s14539662485746970245x23
abbrev Nk:=QS s11643622729373238714x14
abbrev Mx:=QS s3386828779285465597x17
abbrev NN:=QS s13042696260734638735x12
abbrev LK:=QS s18239426817015966623x15
abbrev ND:=QS s1270395311379034370x22
abbrev Od:=QS s10696252587037064777x22
abbrev MD:=QS s7852717498200857586x20
abbrev N1:=QS s6377248116197321094x8
abbrev NH:=QS s3834378056692298002x18
abbrev M9:=QS s17586630440231065808x18
abbrev MM:=QS s15234114252648025395x21
abbrev MB:=QS s8496462677383758984x14
abbrev LS:=QS s16789243406116112673x4
abbrev OH:=QS s14400166428656793546x20
abbrev Mt:=QS s5857708277339239366x20
abbrev Ox:="builtins.copyright#opaque"
abbrev ML:="builtins.credits#opaque"
abbrev Md:="builtins.license#opaque"
abbrev Ni:=QS s7804999707787243718x20
abbrev Iy:=QS s7097527257260152453x26
abbrev IZ:=QS s6658869562736209489x6
abbrev dn:=QS s5856160107412720595x4
abbrev A3:=QS s658472552662922059x5
abbrev dY:=QS s7174869446012820540x8
abbrev Cq:=QS s11030030927630378310x26
abbrev Io:=QS s10062305145149207511x16
abbrev NW:=QS s11443829558043349243x14
abbrev Cy:=QS s14755015743595814543x17
abbrev Jf:=QS s6511155373996960695x17
abbrev Ja:=QS s12411053484034534018x21
abbrev IE:=QS s10220274742760427390x26
abbrev IK:=QS s4860613602091757760x24
abbrev Ow:=QS s15660640913423913556x4
abbrev Pl:=QS s896114127876100448x12
abbrev Np:=QS s15992201931430999065x14
abbrev jp:=QS s3492446563574874994x13
noncomputable def S(l:List Nat):Str:=⟨⟨l⟩⟩
def s0:=S [95,95,110,97,109,101,95,95]
def s1:=S [98,117,105,108,116,105,110,115]
def s2:=S [95,95,100,111,99,95,95]
def s3:=S [95,95,112,97,99,107,97,103,101,95,95]
def s4:=S [95,95,108,111,97,100,101,114,95,95]
def s5:=S [95,95,115,112,101,99,95,95]
def s6:=S [95,95,98,117,105,108,100,95,99,108,97,115,115,95,95]
def s7:=S [95,95,105,109,112,111,114,116,95,95]
def s8:=S [97,98,115]
def s9:=S [97,108,108]
def QP:=S [97,110,121]
def Rc:=S [97,115,99,105,105]
def RZ:=S [98,105,110]
def Sl:=S [98,114,101,97,107,112,111,105,110,116]
def Ra:=S [99,97,108,108,97,98,108,101]
def Rv:=S [99,104,114]
def Ry:=S [99,111,109,112,105,108,101]
def Tn:=S [100,101,108,97,116,116,114]
def QW:=S [100,105,114]
def R4:=S [100,105,118,109,111,100]
def R3:=S [101,118,97,108]
def Q2:=S [101,120,101,99]
def QF:=S [102,111,114,109,97,116]
def Rg:=S [103,101,116,97,116,116,114]
def Sr:=S [103,108,111,98,97,108,115]
def Rw:=S [104,97,115,97,116,116,114]
def R8:=S [104,97,115,104]
def Sd:=S [104,101,120]
def Q0:=S [105,100]
def Rq:=S [105,110,112,117,116]
def Sf:=S [105,115,105,110,115,116,97,110,99,101]
def RY:=S [105,115,115,117,98,99,108,97,115,115]
def S9:=S [105,116,101,114]
def QD:=S [97,105,116,101,114]
def Q7:=S [108,101,110]
def Sc:=S [108,111,99,97,108,115]
def Qp:=S [109,97,120]
def Qy:=S [109,105,110]
def SQ:=S [110,101,120,116]
def Sw:=S [97,110,101,120,116]
def QI:=S [111,99,116]
def Tc:=S [111,114,100]
def SS:=S [112,111,119]
def RW:=S [112,114,105,110,116]
def QO:=S [114,101,112,114]
def SK:=S [114,111,117,110,100]
def QT:=S [115,101,116,97,116,116,114]
def SR:=S [115,111,114,116,101,100]
def Rh:=S [115,117,109]
def Rb:=S [118,97,114,115]
def SY:=S [78,111,110,101]
def P9:=S [69,108,108,105,112,115,105,115]
def PC:=S [78,111,116,73,109,112,108,101,109,101,110,116,101,100]
def PQ:=S [70,97,108,115,101]
def P7:=S [84,114,117,101]
def RV:=S [98,111,111,108]
def SV:=S [109,101,109,111,114,121,118,105,101,119]
def Rt:=S [98,121,116,101,97,114,114,97,121]
def Ta:=S [98,121,116,101,115]
def Rk:=S [99,108,97,115,115,109,101,116,104,111,100]
def Sx:=S [99,111,109,112,108,101,120]
def SE:=S [100,105,99,116]
def Sg:=S [101,110,117,109,101,114,97,116,101]
def RI:=S [102,105,108,116,101,114]
def Ru:=S [102,108,111,97,116]
def R7:=S [102,114,111,122,101,110,115,101,116]
def Qo:=S [112,114,111,112,101,114,116,121]
def SN:=S [105,110,116]
def QB:=S [108,105,115,116]
def RG:=S [109,97,112]
def Tg:=S [111,98,106,101,99,116]
def RN:=S [114,97,110,103,101]
def QK:=S [114,101,118,101,114,115,101,100]
def QV:=S [115,101,116]
def RM:=S [115,108,105,99,101]
def Tf:=S [115,116,97,116,105,99,109,101,116,104,111,100]
def S7:=S [115,116,114]
def Sa:=S [115,117,112,101,114]
def S5:=S [116,117,112,108,101]
def R5:=S [116,121,112,101]
def Qs:=S [122,105,112]
def PW:=S [95,95,100,101,98,117,103,95,95]
def RA:=S [66,97,115,101,69,120,99,101,112,116,105,111,110]
def RX:=S [66,97,115,101,69,120,99,101,112,116,105,111,110,71,114,111,117,112]
def Sy:=S [69,120,99,101,112,116,105,111,110]
def Rd:=S [71,101,110,101,114,97,116,111,114,69,120,105,116]
def Sh:=S [75,101,121,98,111,97,114,100,73,110,116,101,114,114,117,112,116]
def RH:=S [83,121,115,116,101,109,69,120,105,116]
def SF:=S [65,114,105,116,104,109,101,116,105,99,69,114,114,111,114]
def QN:=S [65,115,115,101,114,116,105,111,110,69,114,114,111,114]
def Tk:=S [65,116,116,114,105,98,117,116,101,69,114,114,111,114]
def SM:=S [66,117,102,102,101,114,69,114,114,111,114]
def RO:=S [69,79,70,69,114,114,111,114]
def SI:=S [73,109,112,111,114,116,69,114,114,111,114]
def QL:=S [76,111,111,107,117,112,69,114,114,111,114]
def Si:=S [77,101,109,111,114,121,69,114,114,111,114]
def Qz:=S [78,97,109,101,69,114,114,111,114]
def RE:=S [79,83,69,114,114,111,114]
def Rl:=S [82,101,102,101,114,101,110,99,101,69,114,114,111,114]
def QE:=S [82,117,110,116,105,109,101,69,114,114,111,114]
def LQ:=S [83,116,111,112,65,115,121,110,99,73,116,101,114,97,116,105,111,110]
def Pc:=S [83,116,111,112,73,116,101,114,97,116,105,111,110]
def OM:=S [83,121,110,116,97,120,69,114,114,111,114]
def Nl:=S [83,121,115,116,101,109,69,114,114,111,114]
def Nc:=S [84,121,112,101,69,114,114,111,114]
def M8:=S [86,97,108,117,101,69,114,114,111,114]
def O1:=S [87,97,114,110,105,110,103]
def LO:=S [70,108,111,97,116,105,110,103,80,111,105,110,116,69,114,114,111,114]
def LI:=S [79,118,101,114,102,108,111,119,69,114,114,111,114]
def L3:=S [90,101,114,111,68,105,118,105,115,105,111,110,69,114,114,111,114]
def OZ:=S [66,121,116,101,115,87,97,114,110,105,110,103]
def N2:=S [68,101,112,114,101,99,97,116,105,111,110,87,97,114,110,105,110,103]
def O5:=S [69,110,99,111,100,105,110,103,87,97,114,110,105,110,103]
def Pd:=S [70,117,116,117,114,101,87,97,114,110,105,110,103]
def NP:=S [73,109,112,111,114,116,87,97,114,110,105,110,103]
def Lx:=S [80,101,110,100,105,110,103,68,101,112,114,101,99,97,116,105,111,110,87,97,114,110,105,110,103]
def NX:=S [82,101,115,111,117,114,99,101,87,97,114,110,105,110,103]
def MG:=S [82,117,110,116,105,109,101,87,97,114,110,105,110,103]
def O7:=S [83,121,110,116,97,120,87,97,114,110,105,110,103]
def Mn:=S [85,110,105,99,111,100,101,87,97,114,110,105,110,103]
def Nw:=S [85,115,101,114,87,97,114,110,105,110,103]
def Ou:=S [66,108,111,99,107,105,110,103,73,79,69,114,114,111,114]
def N7:=S [67,104,105,108,100,80,114,111,99,101,115,115,69,114,114,111,114]
def ON:=S [67,111,110,110,101,99,116,105,111,110,69,114,114,111,114]
def NA:=S [70,105,108,101,69,120,105,115,116,115,69,114,114,111,114]
def Pn:=S [70,105,108,101,78,111,116,70,111,117,110,100,69,114,114,111,114]
def MF:=S [73,110,116,101,114,114,117,112,116,101,100,69,114,114,111,114]
def Pj:=S [73,115,65,68,105,114,101,99,116,111,114,121,69,114,114,111,114]
def OY:=S [78,111,116,65,68,105,114,101,99,116,111,114,121,69,114,114,111,114]
def LL:=S [80,101,114,109,105,115,115,105,111,110,69,114,114,111,114]
def Na:=S [80,114,111,99,101,115,115,76,111,111,107,117,112,69,114,114,111,114]
def MU:=S [84,105,109,101,111,117,116,69,114,114,111,114]
def OD:=S [73,110,100,101,110,116,97,116,105,111,110,69,114,114,111,114]
def OA:=S [95,73,110,99,111,109,112,108,101,116,101,73,110,112,117,116,69,114,114,111,114]
def LD:=S [73,110,100,101,120,69,114,114,111,114]
def Ot:=S [75,101,121,69,114,114,111,114]
def Nv:=S [77,111,100,117,108,101,78,111,116,70,111,117,110,100,69,114,114,111,114]
def Pa:=S [78,111,116,73,109,112,108,101,109,101,110,116,101,100,69,114,114,111,114]
def OS:=S [80,121,116,104,111,110,70,105,110,97,108,105,122,97,116,105,111,110,69,114,114,111,114]
def N5:=S [82,101,99,117,114,115,105,111,110,69,114,114,111,114]
def Mv:=S [85,110,98,111,117,110,100,76,111,99,97,108,69,114,114,111,114]
def MP:=S [85,110,105,99,111,100,101,69,114,114,111,114]
def N6:=S [66,114,111,107,101,110,80,105,112,101,69,114,114,111,114]
def MA:=S [67,111,110,110,101,99,116,105,111,110,65,98,111,114,116,101,100,69,114,114,111,114]
def Nn:=S [67,111,110,110,101,99,116,105,111,110,82,101,102,117,115,101,100,69,114,114,111,114]
def Mc:=S [67,111,110,110,101,99,116,105,111,110,82,101,115,101,116,69,114,114,111,114]
def L6:=S [84,97,98,69,114,114,111,114]
def OG:=S [85,110,105,99,111,100,101,68,101,99,111,100,101,69,114,114,111,114]
def MJ:=S [85,110,105,99,111,100,101,69,110,99,111,100,101,69,114,114,111,114]
def Mh:=S [85,110,105,99,111,100,101,84,114,97,110,115,108,97,116,101,69,114,114,111,114]
def N8:=S [69,120,99,101,112,116,105,111,110,71,114,111,117,112]
def Mw:=S [69,110,118,105,114,111,110,109,101,110,116,69,114,114,111,114]
def L7:=S [73,79,69,114,114,111,114]
def Ol:=S [111,112,101,110]
def ME:=S [113,117,105,116]
def Nj:=S [101,120,105,116]
def Nz:=S [99,111,112,121,114,105,103,104,116]
def Pi:=S [99,114,101,100,105,116,115]
def Oq:=S [108,105,99,101,110,115,101]
def No:=S [104,101,108,112]
def CS:=S [95,95,109,97,105,110,95,95]
def rb:=S [108,97,119,95,116,114,48,48,52,57,95,48,49]
def I5:=S [95,95,97,110,110,111,116,97,116,105,111,110,115,95,95]
def HW:=S [95,95,98,117,105,108,116,105,110,115,95,95]
def IV:=S [95,95,102,105,108,101,95,95]
def dc:=S [47,99,108,97,105,109,47,99,117,116,46,112,121]
def IP:=S [95,95,99,97,99,104,101,100,95,95]
def zE:=S [95,119,97,108,108]
def H5:=S [78,76]
def Jl:=S [10]
def H4:=S [69,77,80,84,89,83,84,82,73,78,71]
def Ir:=S []
def pY:=S [95,86,97,108,117,101,70,111,114,109,97,116,116,101,114]
def qb:=S [95,65,99,99,117,109,117,108,97,116,111,114]
def xa:=S [114,103,98,95,116,111,95,104,115,118]
def OV:=S [99,57,95,115,101,116]
def Bd:=S [105,110,95,116,97,98,108,101,95,99,57]
def Ck:=S [95,108,97,119,95,108,105,110,101,115]
def CM:=S [95,108,97,119,95,112,111,105,110,116,115]
def Dv:=S [95,108,97,119,95,104,117,101]
def C6:=S [95,108,97,119,95,115,116,101,112,115]
def Br:=S [95,108,97,119,95,110,111,110,101,95,98,101,108,111,119]
def CI:=S [108,97,119]
def H8:=S [60,109,111,100,117,108,101,62]
def L5:=S [107]
def Dh:=S [95,95,109,111,100,117,108,101,95,95]
def eJ:=S [99,112,121,51,49,51,46,101,109,97,105,108,46,104,101,97,100,101,114]
def I0:=S [95,95,113,117,97,108,110,97,109,101,95,95]
def qu:=S [95,95,102,105,114,115,116,108,105,110,101,110,111,95,95]
def mq:=S [95,95,105,110,105,116,95,95]
def yF:=S [95,115,116,114]
def mr:=S [95,95,115,116,114,95,95]
def yX:=S [110,101,119,108,105,110,101]
def xd:=S [97,100,100,95,116,114,97,110,115,105,116,105,111,110]
def ye:=S [102,101,101,100]
def xm:=S [95,109,97,120,108,101,110,103,116,104,115]
def zj:=S [95,97,115,99,105,105,95,115,112,108,105,116]
def yd:=S [95,97,112,112,101,110,100,95,99,104,117,110,107]
def C5:=S [95,95,115,116,97,116,105,99,95,97,116,116,114,105,98,117,116,101,115,95,95]
def gB:=S [115,101,108,102]
def NG:=S [104,101,97,100,101,114,108,101,110]
def Nb:=S [109,97,120,108,101,110]
def Oc:=S [99,111,110,116,105,110,117,97,116,105,111,110,95,119,115]
def IJ:=S [115,112,108,105,116,99,104,97,114,115]
def Gh:=S [95,86,97,108,117,101,70,111,114,109,97,116,116,101,114,46,95,95,105,110,105,116,95,95]
def Oh:=S [108,105,110,101,115,101,112]
def E9:=S [95,86,97,108,117,101,70,111,114,109,97,116,116,101,114,46,95,115,116,114]
def FF:=S [95,86,97,108,117,101,70,111,114,109,97,116,116,101,114,46,95,95,115,116,114,95,95]
def My:=S [101,110,100,95,111,102,95,108,105,110,101]
def GW:=S [95,86,97,108,117,101,70,111,114,109,97,116,116,101,114,46,110,101,119,108,105,110,101]
def Go:=S [95,86,97,108,117,101,70,111,114,109,97,116,116,101,114,46,97,100,100,95,116,114,97,110,115,105,116,105,111,110]
def Dk:=S [102,119,115]
def Dn:=S [115,116,114,105,110,103]
def MV:=S [99,104,97,114,115,101,116]
def Fz:=S [95,86,97,108,117,101,70,111,114,109,97,116,116,101,114,46,102,101,101,100]
def Fv:=S [95,86,97,108,117,101,70,111,114,109,97,116,116,101,114,46,95,109,97,120,108,101,110,103,116,104,115]
def EK:=S [95,86,97,108,117,101,70,111,114,109,97,116,116,101,114,46,95,97,115,99,105,105,95,115,112,108,105,116]
def GI:=S [95,86,97,108,117,101,70,111,114,109,97,116,116,101,114,46,95,97,112,112,101,110,100,95,99,104,117,110,107]
noncomputable abbrev PE:=[95,99,111,110,116,105,110,117,97,116,105,111,110,95,119,115]
def MW:Str:=S PE
noncomputable abbrev Ql:=[95,99,111,110,116,105,110,117,97,116,105,111,110,95,119,115,95,108,101,110]
def L0:Str:=S Ql
def M0:=S [95,99,117,114,114,101,110,116,95,108,105,110,101]
def O3:=S [95,108,105,110,101,115]
def Nf:=S [95,109,97,120,108,101,110]
def Lz:=S [95,115,112,108,105,116,99,104,97,114,115]
def BD:=S [95,95,100,105,99,116,95,95]
def BW:=S [95,95,119,101,97,107,114,101,102,95,95]
def zg:=S [112,117,115,104]
def xp:=S [112,111,112,95,102,114,111,109]
def yf:=S [112,111,112]
def zl:=S [95,95,108,101,110,95,95]
def zz:=S [114,101,115,101,116]
def zI:=S [105,115,95,111,110,108,121,119,115]
def yM:=S [112,97,114,116,95,99,111,117,110,116]
def NZ:=S [95,95,99,108,97,115,115,99,101,108,108,95,95]
def vM:=S [95,95,99,108,97,115,115,95,95]
def O4:=S [105,110,105,116,105,97,108,95,115,105,122,101]
def GM:=S [95,65,99,99,117,109,117,108,97,116,111,114,46,95,95,105,110,105,116,95,95]
def Hf:=S [95,65,99,99,117,109,117,108,97,116,111,114,46,112,117,115,104]
def Po:=S [105]
def FV:=S [95,65,99,99,117,109,117,108,97,116,111,114,46,112,111,112,95,102,114,111,109]
def Hh:=S [95,65,99,99,117,109,117,108,97,116,111,114,46,112,111,112]
def G9:=S [95,65,99,99,117,109,117,108,97,116,111,114,46,95,95,108,101,110,95,95]
def FL:=S [95,65,99,99,117,109,117,108,97,116,111,114,46,95,95,115,116,114,95,95]
def LF:=S [115,116,97,114,116,118,97,108]
def Fu:=S [95,65,99,99,117,109,117,108,97,116,111,114,46,114,101,115,101,116]
def Hb:=S [95,65,99,99,117,109,117,108,97,116,111,114,46,105,115,95,111,110,108,121,119,115]
def Gb:=S [95,65,99,99,117,109,117,108,97,116,111,114,46,112,97,114,116,95,99,111,117,110,116]
noncomputable abbrev MI:=[95,105,110,105,116,105,97,108,95,115,105,122,101]
def MX:Str:=S MI
def Mf:=S [114]
def Mg:=S [103]
def LY:=S [98]
def LP:=S [109,97,120,99]
def N0:=S [109,105,110,99]
def LE:=S [114,97,110,103,101,99]
def M4:=S [118]
def M5:=S [115]
def NR:=S [114,99]
def MQ:=S [103,99]
def L4:=S [98,99]
def Or:=S [104]
def Mi:=S [99,112,121,51,49,51,46,99,111,108,111,114,115,121,115]
def Nx:=S [99,111,100,101]
def Im:=S [99,112,121,51,49,51,46,115,116,114,105,110,103,112,114,101,112]
def O8:=S [115,105,103,110,115]
def LC:=S [114,111,119,115]
noncomputable abbrev EJ:=[115,105,103,110]
noncomputable abbrev EA:=EJ
def LB:Str:=S EA
noncomputable abbrev DU:=[115,116,101,112]
noncomputable abbrev Lf:=DU
def Nt:Str:=S Lf
noncomputable abbrev wJ:=[112,111,105,110,116,115]
noncomputable abbrev Yq:=wJ
def LZ:Str:=S Yq
def NT:=S [101,100,103,101]
noncomputable abbrev mj:=[112,108,97,99,101]
def OP:Str:=S mj
def NL:=S [104,101,105,103,104,116]
noncomputable abbrev wM:=[97,99,114,111,115,115]
noncomputable abbrev md:=wM
def Ob:Str:=S md
noncomputable abbrev yS:=[117,112]
noncomputable abbrev wQ:=yS
def LU:Str:=S wQ
def O6:=S [120]
def M1:=S [121]
noncomputable abbrev Yn a:=Value.type a
noncomputable abbrev Ys a:=Value.ref a
noncomputable def b0:List Value:=[(Ys 178),(Yn Fw),(Yn Kx)]
noncomputable abbrev Y4 a b c d:=DictEntry.mk (PyData.keyHash a b) (Value.str b d) (Value.type c)
noncomputable abbrev Yb a b:=Value.str a b
noncomputable abbrev Yg a b:=PyData.keyHash a b
noncomputable abbrev vU a:=Value.builtin a
noncomputable abbrev dO a b c d:=DictEntry.mk (Yg a b) (Yb b d) (vU c)
noncomputable abbrev rv a b c d e:=DictEntry.mk (Yg a b) (Yb b d) (Yb c e)
noncomputable abbrev xR a b c:=DictEntry.mk (Yg a b) (Yb b c) Value.none
noncomputable abbrev Gz:=Value.bool Bool.true
def o0(P:Params):=Obj.mk (Yn q0) none (Data.dict ⟨[(rv P s0 s1 1 160),(dO P s2 q1 2),(dO P s3 q2 3),(dO P s4 q3 4),(dO P s5 q4 5),(dO P s6 q5 6),(dO P s7 q6 7),(dO P s8 q7 8),(dO P s9 q8 9),(dO P QP q9 10),(dO P Rc J1 11),(dO P RZ Ks 12),(dO P Sl Sv 13),(dO P Ra RP 14),(dO P Rv Sp 15),(dO P Ry Q6 16),(dO P Tn Sb 17),(dO P QW Tb 18),(dO P R4 RB 19),(dO P R3 Q5 20),(dO P Q2 SZ 21),(dO P QF Qt 22),(dO P Rg Qq 23),(dO P Sr QJ 24),(dO P Rw Rp 25),(dO P R8 RQ 26),(dO P Sd SW 27),(dO P Q0 SP 28),(dO P Rq R1 29),(dO P Sf Qv 30),(dO P RY SU 31),(dO P S9 RS 32),(dO P QD RT 33),(dO P Q7 QC 34),(dO P Sc R2 35),(dO P Qp QG 36),(dO P Qy SG 37),(dO P SQ Qw 38),(dO P Sw QY 39),(dO P QI QH 40),(dO P Tc QU 41),(dO P SS Tj 42),(dO P RW Qr 43),(dO P QO Sm 44),(dO P SK Q1 45),(dO P QT Sk 46),(dO P SR QA 47),(dO P Rh Su 48),(dO P Rb SJ 49),(xR P SY 50),(DictEntry.mk (Yg P P9) (Yb P9 51) Value.ellipsis),(DictEntry.mk (Yg P PC) (Yb PC 52) Value.notImplemented),(DictEntry.mk (Yg P PQ) (Yb PQ 53) (Value.bool Bool.false)),(DictEntry.mk (Yg P P7) (Yb P7 54) Gz),(Y4 P RV RC 55),(Y4 P SV Ss 56),(Y4 P Rt Tq 57),(Y4 P Ta Sj 58),(Y4 P Rk Sq 59),(Y4 P Sx Th 60),(Y4 P SE q0 61),(Y4 P Sg RL 62),(Y4 P RI QZ 63),(Y4 P Ru Se 64),(Y4 P R7 S4 65),(Y4 P Qo Q9 66),(Y4 P SN Qu 67),(Y4 P QB Fw 68),(Y4 P RG S6 69),(Y4 P Tg Kx 70),(Y4 P RN Pu 71),(Y4 P QK Q4 72),(Y4 P QV I3 73),(Y4 P RM SX 74),(Y4 P Tf QQ 75),(Y4 P S7 Q8 76),(Y4 P Sa Op 77),(Y4 P S5 cj 78),(Y4 P R5 Jb 79),(Y4 P Qs R0 80),(DictEntry.mk (Yg P PW) (Yb PW 81) Gz),(Y4 P RA Tl 82),(Y4 P RX Ro 83),(Y4 P Sy To 84),(Y4 P Rd SH 85),(Y4 P Sh Rn 86),(Y4 P RH RR 87),(Y4 P SF Rz 88),(Y4 P QN So 89),(Y4 P Tk Re 90),(Y4 P SM Sz 91),(Y4 P RO SA 92),(Y4 P SI R9 93),(Y4 P QL Te 94),(Y4 P Si RF 95),(Y4 P Qz ST 96),(Y4 P RE NY 97),(Y4 P Rl Rr 98),(Y4 P QE Rs 99),(Y4 P LQ Tp 100),(Y4 P Pc M7 101),(Y4 P OM Tm 102),(Y4 P Nl Rx 103),(Y4 P Nc QR 104),(Y4 P M8 Td 105),(Y4 P O1 SD 106),(Y4 P LO QM 107),(Y4 P LI Nm 108),(Y4 P L3 NQ 109),(Y4 P OZ MH 110),(Y4 P N2 Nr 111),(Y4 P O5 On 112),(Y4 P Pd Og 113),(Y4 P NP N9 114),(Y4 P Lx OE 115),(Y4 P NX Mp 116),(Y4 P MG Mo 117),(Y4 P O7 Nu 118),(Y4 P Mn MZ 119),(Y4 P Nw Me 120),(Y4 P Ou NF 121),(Y4 P N7 Pk 122),(Y4 P ON MR 123),(Y4 P NA NM 124),(Y4 P Pn L9 125),(Y4 P MF NK 126),(Y4 P Pj NU 127),(Y4 P OY Ms 128),(Y4 P LL MS 129),(Y4 P Na Pm 130),(Y4 P MU N4 131),(Y4 P OD M2 132),(Y4 P OA L1 133),(Y4 P LD Oy 134),(Y4 P Ot LH 135),(Y4 P Nv LM 136),(Y4 P Pa LJ 137),(Y4 P OS MN 138),(Y4 P N5 Nk 139),(Y4 P Mv Mx 140),(Y4 P MP NN 141),(Y4 P N6 LK 142),(Y4 P MA ND 143),(Y4 P Nn Od 144),(Y4 P Mc MD 145),(Y4 P L6 N1 146),(Y4 P OG NH 147),(Y4 P MJ M9 148),(Y4 P Mh MM 149),(Y4 P N8 MB 150),(Y4 P Mw NY 151),(Y4 P L7 NY 152),(dO P Ol LS 153),(dO P ME OH 154),(dO P Nj Mt 155),(dO P Nz Ox 156),(dO P Pi ML 157),(dO P Oq Md 158),(dO P No Ni 159)]⟩ 159) ⟨[]⟩
noncomputable abbrev Ya a b c d:=DictEntry.mk (PyData.keyHash a b) (Value.str b c) (Value.ref d)
def o1(P:Params):=Obj.mk (Yn q0) none (Data.dict ⟨[(Ya P s1 162 4),(Ya P CS 163 5)]⟩ 2) ⟨[]⟩
noncomputable def o2(P:Params):=Obj.mk Value.none none (Data.dict ⟨[]⟩ 0) ⟨[]⟩
def o3(P:Params):=Obj.mk (Yn q0) none (Data.dict ⟨[(rv P s0 rb 165 627),(xR P s2 166),(xR P s3 167),(dO P s4 Iy 168),(xR P s5 169),(Ya P I5 170 6),(Ya P HW 171 4),(rv P IV dc 173 172),(xR P IP 174),(Ya P zE 193 21),(rv P H5 Jl 197 196),(rv P H4 Ir 199 198),(Ya P pY 302 94),(Ya P qb 397 178),(Ya P xa 417 189),(Ya P OV 619 197),(Ya P Bd 626 207),(Ya P Ck 637 214),(Ya P CM 643 219),(Ya P Dv 650 226),(Ya P C6 656 231),(Ya P Br 670 238),(Ya P CI 676 243)]⟩ 23) ⟨[]⟩
def o4(P:Params):=Obj.mk (Yn IZ) (some 0) Data.plain ⟨[]⟩
def o5(P:Params):=Obj.mk (Yn IZ) (some 3) Data.plain ⟨[]⟩
def o6(P:Params):=Obj.mk (Yn q0) none (Data.dict ⟨[]⟩ 0) ⟨[]⟩
noncomputable abbrev Yl a:=Obj.mk (Value.type a) none (Data.seq ⟨[]⟩ 0) ⟨[]⟩
def o7(P:Params):Obj:=(Yl cj)
noncomputable abbrev jy:=Obj.mk Value.none none (Data.fields ⟨[]⟩) ⟨[]⟩
noncomputable def o8(P:Params):Obj:=jy
noncomputable abbrev Yj a b:=Value.int a b
noncomputable abbrev JD a b c d e f g h i j k l:=Obj.mk (Yn a) none (Data.fields ⟨[(Yb b d),(Yb b e),(Yb c f),(Yj g 0),(Yj 0 0),(Yj 0 0),(Yj 0 0),(Yj 0 0),(Ys h),(Value.bool Bool.false),(Yj i 0),(Ys j),Value.none,Value.none,Value.none,Value.none,(Yj k 0),(Yj g 0),(Yb c l)]⟩) ⟨[]⟩
def o9(P:Params):Obj:=(JD dn H8 dc 176 177 178 1 7 175 8 179 180)
noncomputable abbrev KF a b c d e:=Obj.mk (Yn a) none Data.plain ⟨[(some (Ys c)),(some (Ys 3)),(some (Ys d)),none,(some (Yb b e)),none,(some (Ys 0))]⟩
def JU(P:Params):Obj:=(KF A3 CS 9 3 164)
def Lt(P:Params):Obj:=(Yl cj)
noncomputable def NJ(P:Params):=Obj.mk Value.none none (Data.fields ⟨[(Yj 1 0),(Yj 0 0),(Ys 20),(Yj 7 0),(Yj 0 0),(Ys 27),(Yj 49 0),(Yj 0 0),(Ys 105),(Yj 84 0),(Yj 0 0),(Ys 188),(Yj 105 0),(Yj 0 0),(Ys 206),(Yj 108 0),(Yj 0 0),(Ys 213),(Yj 115 0),(Yj 0 0),(Ys 218),(Yj 131 0),(Yj 0 0),(Ys 225),(Yj 133 0),(Yj 0 0),(Ys 230),(Yj 144 0),(Yj 0 0),(Ys 237),(Yj 152 0),(Yj 0 0),(Ys 242)]⟩) ⟨[]⟩
def KB(P:Params):Obj:=(JD dn H8 dc 182 183 184 1 11 181 12 185 186)
def JK(P:Params):Obj:=(KF A3 CS 13 3 164)
def JC(P:Params):Obj:=(Yl cj)
noncomputable def JE(P:Params):Obj:=jy
noncomputable abbrev rk a b c:=Obj.mk (Yn a) none (Data.seq ⟨[(Yb b c)]⟩ 0) ⟨[]⟩
def KV(P:Params):Obj:=(rk cj L5 190)
def J0(P:Params):Obj:=(Yl cj)
abbrev Yv a b:=Obj.mk Value.none none (Data.func (FuncData.mk a a (D0 (mf b)) (FuncBody.stmts (IY (mf b))) (DZ (mf b)) 0 [] Value.none Value.none Value.none Value.none none Value.none Value.none 0)) ⟨[]⟩
def Lm(P:Params):Obj:=(Yv zE 0)
noncomputable abbrev Hv a b c d e f g h i j k l m o p:=Obj.mk (Yn a) none (Data.fields ⟨[(Yb b d),(Yb b e),(Yb c f),(Yj g 0),(Yj h 0),(Yj 0 0),(Yj 0 0),(Yj 3 0),(Ys i),Gz,(Yj 181 0),(Ys j),Value.none,(Ys k),(Ys l),(Ys m),(Yj o 0),(Yj g 0),(Yb c p)]⟩) ⟨[]⟩
def J7(P:Params):Obj:=(Hv dn zE dc 187 188 189 1 1 15 16 17 18 19 191 192)
abbrev Dq a b c d e f:=Obj.mk (Yn a) none (Data.func (FuncData.mk b b (D0 (mf d)) (FuncBody.stmts (IY (mf d))) (DZ (mf d)) 3 [] Value.none Value.none Value.none (Yb c e) none (Ys f) Value.none 0)) ⟨[]⟩
def JH(P:Params):Obj:=(Dq dY zE CS 0 164 20)
def JG(P:Params):Obj:=(Yl cj)
def Ke(P:Params):=Obj.mk (Yn Cq) none (Data.fields ⟨[(vU Io),(Yn Jb)]⟩) ⟨[]⟩
def Lr(P:Params):=Obj.mk (Yn q0) none (Data.dict ⟨[(rv P Dh eJ 207 194),(rv P I0 pY 209 208),(DictEntry.mk (Yg P qu) (Yb qu 211) (Yj 7 210)),(Ya P mq 222 35),(Ya P yF 230 42),(Ya P mr 237 49),(Ya P yX 245 56),(Ya P xd 252 63),(Ya P ye 262 70),(Ya P xm 269 77),(Ya P zj 279 84),(Ya P yd 288 91),(Ya P C5 295 92)]⟩ 13) ⟨[]⟩
def Jx(P:Params):Obj:=(Yl cj)
noncomputable def Ls(P:Params):=Obj.mk Value.none none (Data.fields ⟨[(Yj 9 0),(Yj 4 0),(Ys 34),(Yj 17 0),(Yj 4 0),(Ys 41),(Yj 21 0),(Yj 4 0),(Ys 48),(Yj 24 0),(Yj 4 0),(Ys 55),(Yj 35 0),(Yj 4 0),(Ys 62),(Yj 38 0),(Yj 4 0),(Ys 69),(Yj 41 0),(Yj 4 0),(Ys 76),(Yj 44 0),(Yj 4 0),(Ys 83),(Yj 47 0),(Yj 4 0),(Ys 90)]⟩) ⟨[]⟩
def Jp(P:Params):Obj:=(JD dn pY dc 202 203 204 7 25 181 26 205 206)
def Ll(P:Params):Obj:=(KF A3 eJ 27 24 194)
def JX(P:Params):Obj:=(Yl cj)
noncomputable def J5(P:Params):Obj:=jy
def KU(P:Params):=Obj.mk (Yn cj) none (Data.seq ⟨[(Yb gB 215),(Yb NG 216),(Yb Nb 217),(Yb Oc 218),(Yb IJ 219)]⟩ 0) ⟨[]⟩
def Lw(P:Params):Obj:=(Yl cj)
abbrev Yd a b c d e:=Obj.mk Value.none none (Data.func (FuncData.mk a b (D0 (ki c d)) (FuncBody.stmts (IY (ki c d))) (DZ (ki c e)) 0 [] Value.none Value.none Value.none Value.none none Value.none Value.none 0)) ⟨[]⟩
def Jr(P:Params):Obj:=(Yd mq Gh 4 0 0)
noncomputable abbrev Y3 a b c d e f g h i j k l m o p q:=Obj.mk (Value.type a) none (Data.fields ⟨[(Value.str b e),(Value.str c f),(Value.str d g),(Value.int h 0),(Value.int i 0),(Value.int 0 0),(Value.int 0 0),(Value.int 3 0),(Value.ref j),Gz,(Value.int 181 0),(Value.ref k),Value.none,(Value.ref l),(Value.ref m),(Value.ref o),(Value.int p 0),(Value.int h 0),(Value.str d q)]⟩) ⟨[]⟩
def JV(P:Params):Obj:=(Y3 dn mq Gh dc 212 213 214 9 5 29 30 31 32 33 220 221)
abbrev Kc a b:=FuncBody.stmts (IY (ki a b))
abbrev uS a b c d e f g:=Obj.mk (Yn a) none (Data.func (FuncData.mk b c (D0 (ki e f)) (Kc e f) (DZ (ki e f)) 3 [] Value.none Value.none Value.none (Yb d 194) none (Ys g) Value.none 0)) ⟨[]⟩
def Js(P:Params):Obj:=(uS dY mq Gh eJ 4 0 34)
def Kk(P:Params):Obj:=(Yl cj)
noncomputable def Kg(P:Params):Obj:=jy
noncomputable abbrev IO a b c d e:=Obj.mk (Yn a) none (Data.seq ⟨[(Yb b d),(Yb c e)]⟩ 0) ⟨[]⟩
def Kh(P:Params):Obj:=(IO cj gB Oh 226 227)
def KZ(P:Params):Obj:=(Yl cj)
def Ld(P:Params):Obj:=(Yd yF E9 4 1 1)
def Lp(P:Params):Obj:=(Y3 dn yF E9 dc 223 224 225 17 2 36 37 38 39 40 228 229)
def Jo(P:Params):Obj:=(uS dY yF E9 eJ 4 1 41)
def JW(P:Params):Obj:=(Yl cj)
noncomputable def JT(P:Params):Obj:=jy
def Jq(P:Params):Obj:=(rk cj gB 234)
def KD(P:Params):Obj:=(Yl cj)
def Ku(P:Params):Obj:=(Yd mr FF 4 2 2)
def Kl(P:Params):Obj:=(Y3 dn mr FF dc 231 232 233 21 1 43 44 45 46 47 235 236)
def JY(P:Params):Obj:=(uS dY mr FF eJ 4 2 48)
def KR(P:Params):Obj:=(Yl cj)
noncomputable def La(P:Params):Obj:=jy
def Jw(P:Params):Obj:=(IO cj gB My 241 242)
def J2(P:Params):Obj:=(Yl cj)
def Kd(P:Params):Obj:=(Yd yX GW 4 3 3)
def KK(P:Params):Obj:=(Y3 dn yX GW dc 238 239 240 24 1 50 51 52 53 54 243 244)
def Lc(P:Params):Obj:=(uS dY yX GW eJ 4 3 55)
def KO(P:Params):Obj:=(Yl cj)
noncomputable def Kz(P:Params):Obj:=jy
def K6(P:Params):Obj:=(rk cj gB 249)
def K5(P:Params):Obj:=(Yl cj)
def Kq(P:Params):Obj:=(Yd xd Go 4 4 4)
def Kp(P:Params):Obj:=(Y3 dn xd Go dc 246 247 248 35 1 57 58 59 60 61 250 251)
def JL(P:Params):Obj:=(uS dY xd Go eJ 4 4 62)
def Jn(P:Params):Obj:=(Yl cj)
noncomputable def J6(P:Params):Obj:=jy
def JM(P:Params):=Obj.mk (Yn cj) none (Data.seq ⟨[(Yb gB 256),(Yb Dk 257),(Yb Dn 258),(Yb MV 259)]⟩ 0) ⟨[]⟩
def Lg(P:Params):Obj:=(Yl cj)
def K8(P:Params):Obj:=(Yd ye Fz 4 5 5)
def JJ(P:Params):Obj:=(Y3 dn ye Fz dc 253 254 255 38 4 64 65 66 67 68 260 261)
def J3(P:Params):Obj:=(uS dY ye Fz eJ 4 5 69)
def Kt(P:Params):Obj:=(Yl cj)
noncomputable def KH(P:Params):Obj:=jy
def K0(P:Params):Obj:=(rk cj gB 266)
def Li(P:Params):Obj:=(Yl cj)
def KY(P:Params):Obj:=(Yd xm Fv 4 6 6)
def Ki(P:Params):Obj:=(Y3 dn xm Fv dc 263 264 265 41 1 71 72 73 74 75 267 268)
def KN(P:Params):Obj:=(uS dY xm Fv eJ 4 6 76)
def JF(P:Params):Obj:=(Yl cj)
noncomputable def KA(P:Params):Obj:=jy
def Ky(P:Params):=Obj.mk (Yn cj) none (Data.seq ⟨[(Yb gB 273),(Yb Dk 274),(Yb Dn 275),(Yb IJ 276)]⟩ 0) ⟨[]⟩
def Lu(P:Params):Obj:=(Yl cj)
def Jv(P:Params):Obj:=(Yd zj EK 4 7 7)
def KI(P:Params):Obj:=(Y3 dn zj EK dc 270 271 272 44 4 78 79 80 81 82 277 278)
def Lv(P:Params):Obj:=(uS dY zj EK eJ 4 7 83)
def KL(P:Params):Obj:=(Yl cj)
noncomputable def Kn(P:Params):Obj:=jy
def Ju(P:Params):=Obj.mk (Yn cj) none (Data.seq ⟨[(Yb gB 283),(Yb Dk 284),(Yb Dn 285)]⟩ 0) ⟨[]⟩
def Kv(P:Params):Obj:=(Yl cj)
def Lo(P:Params):Obj:=(Yd yd GI 4 8 8)
def Lh(P:Params):Obj:=(Y3 dn yd GI dc 280 281 282 47 3 85 86 87 88 89 286 287)
def KS(P:Params):Obj:=(uS dY yd GI eJ 4 8 90)
def KQ(P:Params):=Obj.mk (Yn cj) none (Data.seq ⟨[(Yb MW 289),(Yb L0 290),(Yb M0 291),(Yb O3 292),(Yb Nf 293),(Yb Lz 294)]⟩ 0) ⟨[]⟩
def KX(P:Params):=Obj.mk (Yn q0) none (Data.dict ⟨[(rv P Dh eJ 207 194),(DictEntry.mk (Yg P qu) (Yb qu 211) (Yj 7 210)),(Ya P mq 222 35),(Ya P yF 230 42),(Ya P mr 237 49),(Ya P yX 245 56),(Ya P xd 252 63),(Ya P ye 262 70),(Ya P xm 269 77),(Ya P zj 279 84),(Ya P yd 288 91),(Ya P C5 295 92),(Ya P BD 297 95),(Ya P BW 299 96),(xR P s2 300)]⟩ 4) ⟨[]⟩
def JA(P:Params):=Obj.mk (Yn Jb) none (Data.cls (ClassData.mk pY [(Yn Kx)] [(Ys 94),(Yn Kx)] 93 pY Bool.true [] [] Bool.false none Bool.false)) ⟨[none,none,(some (Yb pY 200)),(some (Yb pY 208)),(some (vU NW)),(some Gz)]⟩
def J4(P:Params):=Obj.mk (Yn Cy) none (Data.fields ⟨[(Yb BD 296),(Ys 94),(vU Jf),(vU Ja)]⟩) ⟨[]⟩
def Km(P:Params):=Obj.mk (Yn Cy) none (Data.fields ⟨[(Yb BW 298),(Ys 94),(vU IE),Value.none]⟩) ⟨[]⟩
def KG(P:Params):=Obj.mk (Yn Op) none (Data.fields ⟨[(Ys 94),(Ys 94),(Ys 94)]⟩) ⟨[]⟩
def Ln(P:Params):=Obj.mk (Yn Cq) none (Data.fields ⟨[(vU IK),(Ys 94)]⟩) ⟨[]⟩
def JB(P:Params):=Obj.mk (Yn cj) none (Data.seq ⟨[(Yn Fw)]⟩ 0) ⟨[]⟩
def CE(P:Params):=Obj.mk (Yn Cq) none (Data.fields ⟨[(vU Io),(Yn Jb)]⟩) ⟨[]⟩
def AT(P:Params):=Obj.mk (Yn q0) none (Data.dict ⟨[(rv P Dh eJ 310 194),(rv P I0 qb 312 311),(DictEntry.mk (Yg P qu) (Yb qu 314) (Yj 49 313)),(Ya P mq 324 115),(Ya P zg 333 122),(Ya P xp 342 130),(Ya P yf 350 138),(Ya P zl 357 145),(Ya P mr 364 152),(Ya P zz 372 160),(Ya P zI 379 167),(Ya P yM 387 175),(Ya P C5 389 176),(Ya P NZ 390 102)]⟩ 14) ⟨[]⟩
def Bv(P:Params):=Obj.mk (Yn Ow) none (Data.cell (some (Ys 178))) ⟨[]⟩
def Dt(P:Params):Obj:=(Yl cj)
noncomputable def Cc(P:Params):=Obj.mk Value.none none (Data.fields ⟨[(Yj 51 0),(Yj 4 0),(Ys 114),(Yj 55 0),(Yj 4 0),(Ys 121),(Yj 58 0),(Yj 4 0),(Ys 129),(Yj 61 0),(Yj 4 0),(Ys 137),(Yj 66 0),(Yj 4 0),(Ys 144),(Yj 69 0),(Yj 4 0),(Ys 151),(Yj 72 0),(Yj 4 0),(Ys 159),(Yj 78 0),(Yj 4 0),(Ys 166),(Yj 81 0),(Yj 4 0),(Ys 174)]⟩) ⟨[]⟩
def Bq(P:Params):Obj:=(JD dn qb dc 305 306 307 49 103 181 104 308 309)
def Bg(P:Params):Obj:=(KF A3 eJ 105 101 194)
def BF(P:Params):=Obj.mk (Yn cj) none (Data.seq ⟨[(Yj 0 315)]⟩ 0) ⟨[]⟩
noncomputable abbrev OF a:=Obj.mk (Yn a) none (Data.seq ⟨[(Ys 102)]⟩ 0) ⟨[]⟩
def B9(P:Params):Obj:=(OF cj)
def AB(P:Params):Obj:=(rk cj vM 319)
noncomputable def CR(P:Params):Obj:=jy
def Bz(P:Params):Obj:=(IO cj gB O4 320 321)
def C1(P:Params):Obj:=(Yl cj)
def DB(P:Params):Obj:=(Yd mq GM 5 0 0)
def Dc(P:Params):Obj:=(Y3 dn mq GM dc 316 317 318 51 2 109 110 111 112 113 322 323)
def AV(P:Params):=Obj.mk (Yn dY) none (Data.func (FuncData.mk mq GM (D0 (ki 5 0)) (Kc 5 0) (DZ (ki 5 0)) 3 [(Prod.mk vM 102)] (Ys 107) Value.none Value.none (Yb eJ 194) none (Ys 114) (Ys 108) 0)) ⟨[]⟩
def CC(P:Params):Obj:=(Yl cj)
noncomputable def A4(P:Params):Obj:=jy
def BB(P:Params):=Obj.mk (Yn cj) none (Data.seq ⟨[(Yb gB 328),(Yb Dk 329),(Yb Dn 330)]⟩ 0) ⟨[]⟩
def CJ(P:Params):Obj:=(Yl cj)
def Az(P:Params):Obj:=(Yd zg Hf 5 1 1)
def AL(P:Params):Obj:=(Y3 dn zg Hf dc 325 326 327 55 3 116 117 118 119 120 331 332)
def CA(P:Params):Obj:=(uS dY zg Hf eJ 5 1 121)
def A9(P:Params):=Obj.mk (Yn cj) none (Data.seq ⟨[(Yj 0 334)]⟩ 0) ⟨[]⟩
def BZ(P:Params):Obj:=(Yl cj)
noncomputable def Cw(P:Params):Obj:=jy
def AE(P:Params):Obj:=(IO cj gB Po 338 339)
def By(P:Params):Obj:=(Yl cj)
def Bb(P:Params):Obj:=(Yd xp FV 5 2 2)
def Bw(P:Params):Obj:=(Y3 dn xp FV dc 335 336 337 58 2 124 125 126 127 128 340 341)
abbrev PB a b c d e f g:=Obj.mk (Yn a) none (Data.func (FuncData.mk b c (D0 (ki 5 e)) (Kc 5 e) (DZ (ki 5 e)) 3 [] (Ys f) Value.none Value.none (Yb d 194) none (Ys g) Value.none 0)) ⟨[]⟩
def B8(P:Params):Obj:=(PB dY xp FV eJ 2 123 129)
def CK(P:Params):Obj:=(OF cj)
def CD(P:Params):Obj:=(rk cj vM 346)
noncomputable def CB(P:Params):Obj:=jy
def CH(P:Params):Obj:=(rk cj gB 347)
def BJ(P:Params):Obj:=(Yl cj)
def Dw(P:Params):Obj:=(Yd yf Hh 5 3 8)
def AJ(P:Params):Obj:=(Y3 dn yf Hh dc 343 344 345 61 1 132 133 134 135 136 348 349)
abbrev P0 a b c d e f g h:=Obj.mk (Yn a) none (Data.func (FuncData.mk b c (D0 (ki 5 f)) (Kc 5 f) (DZ (ki 5 8)) 3 [(Prod.mk d 102)] Value.none Value.none Value.none (Yb e 194) none (Ys g) (Ys h) 0)) ⟨[]⟩
def Bh(P:Params):Obj:=(P0 dY yf Hh vM eJ 3 137 131)
def DC(P:Params):Obj:=(Yl cj)
noncomputable def Fx(P:Params):Obj:=jy
def Bj(P:Params):Obj:=(rk cj gB 354)
def AN(P:Params):Obj:=(Yl cj)
def AY(P:Params):Obj:=(Yd zl G9 5 4 4)
def CP(P:Params):Obj:=(Y3 dn zl G9 dc 351 352 353 66 1 139 140 141 142 143 355 356)
def C0(P:Params):Obj:=(uS dY zl G9 eJ 5 4 144)
def Bo(P:Params):Obj:=(Yl cj)
noncomputable def FT(P:Params):Obj:=jy
def DJ(P:Params):Obj:=(rk cj gB 361)
def AC(P:Params):Obj:=(Yl cj)
def Cl(P:Params):Obj:=(Yd mr FL 5 5 5)
def Dj(P:Params):Obj:=(Y3 dn mr FL dc 358 359 360 69 1 146 147 148 149 150 362 363)
def Df(P:Params):Obj:=(uS dY mr FL eJ 5 5 151)
def Dd(P:Params):=Obj.mk (Yn cj) none (Data.seq ⟨[Value.none]⟩ 0) ⟨[]⟩
def Cn(P:Params):Obj:=(Yl cj)
noncomputable def A2(P:Params):Obj:=jy
def Cj(P:Params):Obj:=(IO cj gB LF 368 369)
def CN(P:Params):Obj:=(Yl cj)
def BY(P:Params):Obj:=(Yd zz Fu 5 6 6)
def Ca(P:Params):Obj:=(Y3 dn zz Fu dc 365 366 367 72 2 154 155 156 157 158 370 371)
def Bp(P:Params):Obj:=(PB dY zz Fu eJ 6 153 159)
def AF(P:Params):Obj:=(Yl cj)
noncomputable def Ct(P:Params):Obj:=jy
def BU(P:Params):Obj:=(rk cj gB 376)
def Db(P:Params):Obj:=(Yl cj)
def AZ(P:Params):Obj:=(Yd zI Hb 5 7 7)
def Cb(P:Params):Obj:=(Y3 dn zI Hb dc 373 374 375 78 1 161 162 163 164 165 377 378)
def CL(P:Params):Obj:=(uS dY zI Hb eJ 5 7 166)
def Cs(P:Params):Obj:=(OF cj)
def Bf(P:Params):Obj:=(rk cj vM 383)
noncomputable def AO(P:Params):Obj:=jy
def Cm(P:Params):Obj:=(rk cj gB 384)
def AX(P:Params):Obj:=(Yl cj)
def Bx(P:Params):Obj:=(Yd yM Gb 5 8 8)
def Cf(P:Params):Obj:=(Y3 dn yM Gb dc 380 381 382 81 1 169 170 171 172 173 385 386)
def Bk(P:Params):Obj:=(P0 dY yM Gb vM eJ 8 174 168)
def AR(P:Params):Obj:=(rk cj MX 388)
def Bl(P:Params):=Obj.mk (Yn q0) none (Data.dict ⟨[(rv P Dh eJ 310 194),(DictEntry.mk (Yg P qu) (Yb qu 314) (Yj 49 313)),(Ya P mq 324 115),(Ya P zg 333 122),(Ya P xp 342 130),(Ya P yf 350 138),(Ya P zl 357 145),(Ya P mr 364 152),(Ya P zz 372 160),(Ya P zI 379 167),(Ya P yM 387 175),(Ya P C5 389 176),(Ya P BD 392 179),(Ya P BW 394 180),(xR P s2 395)]⟩ 5) ⟨[]⟩
def CV(P:Params):=Obj.mk (Yn Jb) none (Data.cls (ClassData.mk qb [(Yn Fw)] b0 177 qb Bool.true [] [] Bool.false none Bool.false)) ⟨[(some (Ys 99)),none,(some (Yb qb 303)),(some (Yb qb 311)),(some (vU Pl)),(some Gz)]⟩
def AI(P:Params):=Obj.mk (Yn Cy) none (Data.fields ⟨[(Yb BD 391),(Ys 178),(vU Jf),(vU Ja)]⟩) ⟨[]⟩
def BM(P:Params):=Obj.mk (Yn Cy) none (Data.fields ⟨[(Yb BW 393),(Ys 178),(vU IE),Value.none]⟩) ⟨[]⟩
def Bi(P:Params):=Obj.mk (Yn Op) none (Data.fields ⟨[(Ys 178),(Ys 178),(Ys 178)]⟩) ⟨[]⟩
def DG(P:Params):=Obj.mk (Yn Cq) none (Data.fields ⟨[(vU IK),(Ys 178)]⟩) ⟨[]⟩
def BQ(P:Params):Obj:=(Yl cj)
noncomputable def BH(P:Params):Obj:=jy
def Cp(P:Params):=Obj.mk (Yn cj) none (Data.seq ⟨[(Yb Mf 403),(Yb Mg 404),(Yb LY 405),(Yb LP 406),(Yb N0 407),(Yb LE 408),(Yb M4 409),(Yb M5 410),(Yb NR 411),(Yb MQ 412),(Yb L4 413),(Yb Or 414)]⟩ 0) ⟨[]⟩
def DF(P:Params):Obj:=(Yl cj)
def A5(P:Params):Obj:=(Yv xa 7)
def CT(P:Params):Obj:=(Hv dn xa dc 400 401 402 84 3 183 184 185 186 187 415 416)
def Bn(P:Params):Obj:=(Dq dY xa Mi 7 398 188)
def C7(P:Params):=Obj.mk (Yn Fw) none (Data.seq ⟨[(Yj 917505 420)]⟩ 0) ⟨[]⟩
def Ds(P:Params):=Obj.mk (Yn Pu) none (Data.fields ⟨[(Yj 917536 421),(Yj 917632 422),(Yj 1 423)]⟩) ⟨[]⟩
def Ax(P:Params):=Obj.mk (Yn Fw) none (Data.seq ⟨[(Yj 917536 426),(Yj 917537 427),(Yj 917538 428),(Yj 917539 429),(Yj 917540 430),(Yj 917541 431),(Yj 917542 432),(Yj 917543 433),(Yj 917544 434),(Yj 917545 435),(Yj 917546 436),(Yj 917547 437),(Yj 917548 438),(Yj 917549 439),(Yj 917550 440),(Yj 917551 441),(Yj 917552 442),(Yj 917553 443),(Yj 917554 444),(Yj 917555 445),(Yj 917556 446),(Yj 917557 447),(Yj 917558 448),(Yj 917559 449),(Yj 917560 450),(Yj 917561 451),(Yj 917562 452),(Yj 917563 453),(Yj 917564 454),(Yj 917565 455),(Yj 917566 456),(Yj 917567 457),(Yj 917568 458),(Yj 917569 459),(Yj 917570 460),(Yj 917571 461),(Yj 917572 462),(Yj 917573 463),(Yj 917574 464),(Yj 917575 465),(Yj 917576 466),(Yj 917577 467),(Yj 917578 468),(Yj 917579 469),(Yj 917580 470),(Yj 917581 471),(Yj 917582 472),(Yj 917583 473),(Yj 917584 474),(Yj 917585 475),(Yj 917586 476),(Yj 917587 477),(Yj 917588 478),(Yj 917589 479),(Yj 917590 480),(Yj 917591 481),(Yj 917592 482),(Yj 917593 483),(Yj 917594 484),(Yj 917595 485),(Yj 917596 486),(Yj 917597 487),(Yj 917598 488),(Yj 917599 489),(Yj 917600 490),(Yj 917601 491),(Yj 917602 492),(Yj 917603 493),(Yj 917604 494),(Yj 917605 495),(Yj 917606 496),(Yj 917607 497),(Yj 917608 498),(Yj 917609 499),(Yj 917610 500),(Yj 917611 501),(Yj 917612 502),(Yj 917613 503),(Yj 917614 504),(Yj 917615 505),(Yj 917616 506),(Yj 917617 507),(Yj 917618 508),(Yj 917619 509),(Yj 917620 510),(Yj 917621 511),(Yj 917622 512),(Yj 917623 513),(Yj 917624 514),(Yj 917625 515),(Yj 917626 516),(Yj 917627 517),(Yj 917628 518),(Yj 917629 519),(Yj 917630 520),(Yj 917631 521)]⟩ 98) ⟨[]⟩
def A8(P:Params):=Obj.mk (Yn Np) none (Data.fields ⟨[(Yj 917632 0),(Yj 0 0),(Yj 1 0)]⟩) ⟨[]⟩
def BA(P:Params):Obj:=(Yl cj)
noncomputable abbrev PR a b:=Obj.mk (Yn a) none (Data.fields ⟨[(Ys b),Value.none,Value.none,Value.none,(Value.bool Bool.false),Value.none]⟩) ⟨[]⟩
def BN(P:Params):Obj:=(PR M7 194)
def AG(P:Params):=Obj.mk (Yn Fw) none (Data.seq ⟨[(Yj 917505 420),(Yj 917536 426),(Yj 917537 427),(Yj 917538 428),(Yj 917539 429),(Yj 917540 430),(Yj 917541 431),(Yj 917542 432),(Yj 917543 433),(Yj 917544 434),(Yj 917545 435),(Yj 917546 436),(Yj 917547 437),(Yj 917548 438),(Yj 917549 439),(Yj 917550 440),(Yj 917551 441),(Yj 917552 442),(Yj 917553 443),(Yj 917554 444),(Yj 917555 445),(Yj 917556 446),(Yj 917557 447),(Yj 917558 448),(Yj 917559 449),(Yj 917560 450),(Yj 917561 451),(Yj 917562 452),(Yj 917563 453),(Yj 917564 454),(Yj 917565 455),(Yj 917566 456),(Yj 917567 457),(Yj 917568 458),(Yj 917569 459),(Yj 917570 460),(Yj 917571 461),(Yj 917572 462),(Yj 917573 463),(Yj 917574 464),(Yj 917575 465),(Yj 917576 466),(Yj 917577 467),(Yj 917578 468),(Yj 917579 469),(Yj 917580 470),(Yj 917581 471),(Yj 917582 472),(Yj 917583 473),(Yj 917584 474),(Yj 917585 475),(Yj 917586 476),(Yj 917587 477),(Yj 917588 478),(Yj 917589 479),(Yj 917590 480),(Yj 917591 481),(Yj 917592 482),(Yj 917593 483),(Yj 917594 484),(Yj 917595 485),(Yj 917596 486),(Yj 917597 487),(Yj 917598 488),(Yj 917599 489),(Yj 917600 490),(Yj 917601 491),(Yj 917602 492),(Yj 917603 493),(Yj 917604 494),(Yj 917605 495),(Yj 917606 496),(Yj 917607 497),(Yj 917608 498),(Yj 917609 499),(Yj 917610 500),(Yj 917611 501),(Yj 917612 502),(Yj 917613 503),(Yj 917614 504),(Yj 917615 505),(Yj 917616 506),(Yj 917617 507),(Yj 917618 508),(Yj 917619 509),(Yj 917620 510),(Yj 917621 511),(Yj 917622 512),(Yj 917623 513),(Yj 917624 514),(Yj 917625 515),(Yj 917626 516),(Yj 917627 517),(Yj 917628 518),(Yj 917629 519),(Yj 917630 520),(Yj 917631 521)]⟩ 0) ⟨[]⟩
noncomputable def sO(P:Params)(m:List (Nat×Nat))(ep mask:Nat)(place:List Nat)(mv:Nat):Obj:=⟨.type I3,none,.set ⟨m.map fun x=>(Int.ofNat x.1,.int (Int.ofNat x.1) x.2)⟩ ep ⟨mask,⟨place⟩,⟨[]⟩,0,!P.followText "set-order",mv,true⟩,⟨[]⟩⟩
noncomputable abbrev wj:=(917505,420)
noncomputable abbrev wL:=(917536,426)
noncomputable abbrev wT:=(917537,427)
noncomputable abbrev wV:=(917538,428)
noncomputable abbrev wR:=(917539,429)
noncomputable abbrev wP:=(917540,430)
noncomputable abbrev wH:=(917541,431)
noncomputable abbrev wZ:=(917542,432)
noncomputable abbrev wK:=(917543,433)
noncomputable abbrev yw:=(917544,434)
noncomputable abbrev zk:=(917545,435)
noncomputable abbrev w0:=(917546,436)
noncomputable abbrev yJ:=(917547,437)
noncomputable abbrev xI:=(917548,438)
noncomputable abbrev yL:=(917549,439)
noncomputable abbrev xq:=(917550,440)
noncomputable abbrev yr:=(917551,441)
noncomputable abbrev Al:=(917552,442)
noncomputable abbrev Af:=(917553,443)
noncomputable abbrev Ab:=(917554,444)
noncomputable abbrev Aj:=(917555,445)
noncomputable abbrev Ac:=(917556,446)
noncomputable abbrev At:=(917557,447)
noncomputable abbrev Ai:=(917558,448)
noncomputable abbrev Ah:=(917559,449)
noncomputable abbrev Av:=(917560,450)
noncomputable abbrev Cv:=(917561,451)
noncomputable abbrev Bs:=(917562,452)
noncomputable abbrev B3:=(917563,453)
noncomputable abbrev AD:=(917564,454)
noncomputable abbrev CY:=(917565,455)
noncomputable abbrev Do:=(917566,456)
noncomputable abbrev DD:=(917567,457)
def zi(P:Params):Obj:=sO P [wj,wL,wT,wV,wR,wP,wH,wZ,wK,yw,zk,w0,yJ,xI,yL,xq,yr,Al,Af,Ab,Aj,Ac,At,Ai,Ah,Av,Cv,Bs,B3,AD,CY,Do,DD,(917568,458),(917569,459),(917570,460),(917571,461),(917572,462),(917573,463),(917574,464),(917575,465),(917576,466),(917577,467),(917578,468),(917579,469),(917580,470),(917581,471),(917582,472),(917583,473),(917584,474),(917585,475),(917586,476),(917587,477),(917588,478),(917589,479),(917590,480),(917591,481),(917592,482),(917593,483),(917594,484),(917595,485),(917596,486),(917597,487),(917598,488),(917599,489),(917600,490),(917601,491),(917602,492),(917603,493),(917604,494),(917605,495),(917606,496),(917607,497),(917608,498),(917609,499),(917610,500),(917611,501),(917612,502),(917613,503),(917614,504),(917615,505),(917616,506),(917617,507),(917618,508),(917619,509),(917620,510),(917621,511),(917622,512),(917623,513),(917624,514),(917625,515),(917626,516),(917627,517),(917628,518),(917629,519),(917630,520),(917631,521)] 100 511 [1,32,33,34,35,36,37,38,39,40,41,42,43,44,45,46,47,48,49,50,51,52,53,54,55,56,57,58,59,60,61,62,63,64,65,66,67,68,69,70,71,72,73,74,75,76,77,78,79,80,81,82,83,84,85,86,87,88,89,90,91,92,93,94,95,96,97,98,99,100,101,102,103,104,105,106,107,108,109,110,111,112,113,114,115,116,117,118,119,120,121,122,123,124,125,126,127] 3
def EN(P:Params):=Obj.mk (Yn jp) none (Data.fields ⟨[Value.none,(Yj 97 0)]⟩) ⟨[]⟩
def G5(P:Params):Obj:=(Yl cj)
def FZ(P:Params):Obj:=(PR M7 199)
def GZ(P:Params):Obj:=(Yl cj)
noncomputable def EM(P:Params):Obj:=jy
def GD(P:Params):Obj:=(rk cj Nx 623)
def FI(P:Params):Obj:=(Yl cj)
def Fs(P:Params):Obj:=(Yv Bd 10)
def G8(P:Params):Obj:=(Hv dn Bd dc 620 621 622 105 1 201 202 203 204 205 624 625)
def GP(P:Params):Obj:=(Dq dY Bd Im 10 418 206)
def He(P:Params):Obj:=(Yl cj)
noncomputable def Fg(P:Params):Obj:=jy
def GL(P:Params):=Obj.mk (Yn cj) none (Data.seq ⟨[(Yb O8 632),(Yb LC 633),(Yb LB 634)]⟩ 0) ⟨[]⟩
def Fq(P:Params):Obj:=(Yl cj)
def Gi(P:Params):Obj:=(Yv Ck 12)
def Ha(P:Params):Obj:=(Hv dn Ck dc 629 630 631 108 1 208 209 210 211 212 635 636)
def B1(P:Params):Obj:=(Dq dY Ck rb 12 627 213)
def Fi(P:Params):Obj:=(Yl cj)
noncomputable def GU(P:Params):Obj:=jy
def Gw(P:Params):Obj:=(Yv CM 13)
noncomputable abbrev OW a b c d e f g h i j k l m:=Obj.mk (Yn a) none (Data.fields ⟨[(Yb b d),(Yb b e),(Yb c f),(Yj g 0),(Yj h 0),(Yj 0 0),(Yj 0 0),(Yj 3 0),(Ys i),Gz,(Yj 181 0),(Ys j),Value.none,Value.none,Value.none,(Ys k),(Yj l 0),(Yj g 0),(Yb c m)]⟩) ⟨[]⟩
def GY(P:Params):Obj:=(OW dn CM dc 638 639 640 115 2 215 216 217 641 642)
def Cg(P:Params):Obj:=(Dq dY CM rb 13 627 218)
def FW(P:Params):Obj:=(Yl cj)
noncomputable def GR(P:Params):Obj:=jy
def FX(P:Params):Obj:=(rk cj Nt 647)
def Gj(P:Params):Obj:=(Yl cj)
def Hg(P:Params):Obj:=(Yv Dv 14)
def Fo(P:Params):Obj:=(Hv dn Dv dc 644 645 646 131 1 220 221 222 223 224 648 649)
def FO(P:Params):Obj:=(Dq dY Dv rb 14 627 225)
def FU(P:Params):Obj:=(Yl cj)
noncomputable def GG(P:Params):Obj:=jy
def GQ(P:Params):Obj:=(Yv C6 15)
def Ff(P:Params):Obj:=(OW dn C6 dc 651 652 653 133 1 227 228 229 654 655)
def BX(P:Params):Obj:=(Dq dY C6 rb 15 627 230)
def EO(P:Params):Obj:=(Yl cj)
noncomputable def F0(P:Params):Obj:=jy
def Fj(P:Params):=Obj.mk (Yn cj) none (Data.seq ⟨[(Yb LZ 660),(Yb NT 661),(Yb OP 662),(Yb NL 663),(Yb Ob 664),(Yb LU 665),(Yb O6 666),(Yb M1 667)]⟩ 0) ⟨[]⟩
def F1(P:Params):Obj:=(Yl cj)
def F6(P:Params):Obj:=(Yv Br 16)
def Gm(P:Params):Obj:=(Hv dn Br dc 657 658 659 144 2 232 233 234 235 236 668 669)
def BP(P:Params):Obj:=(Dq dY Br rb 16 627 237)
def GE(P:Params):Obj:=(Yl cj)
noncomputable def FY(P:Params):Obj:=jy
def F8(P:Params):Obj:=(Yv CI 17)
def F7(P:Params):Obj:=(OW dn CI dc 671 672 673 152 1 239 240 241 674 675)
def Cx(P:Params):Obj:=(Dq dY CI rb 17 627 242)
noncomputable def a8:Code->Sem Fin:=PySem.W.Fast.tw11892475500146522536 PySem.W.Fast.tw14364793385576792824
theorem sF:denote table=a8:=by
 rw [table_eq_tree,PySem.W.Fast.te11892475500146522536,PySem.W.Fast.te14364793385576792824];rfl
theorem ve:denote treeTable=a8:=by
 rw [PySem.W.Fast.te11892475500146522536,PySem.W.Fast.te14364793385576792824];rfl
noncomputable abbrev N(o:Obj)(l r:BT):BT:=.node o l r
noncomputable abbrev L(o:Obj):BT:=.node o .nil .nil
noncomputable def Pq(P:Params):BT:=(N (boot_o_0 P) (N (boot_o_1 P) (N (boot_o_3 P) (L (boot_o_7 P)) BT.nil) (N (boot_o_5 P) (L (boot_o_9 P)) BT.nil)) (N (boot_o_2 P) (N (boot_o_4 P) (L (boot_o_8 P)) BT.nil) (N (boot_o_6 P) (L (boot_o_10 P)) BT.nil)))
noncomputable def Jt(P:Params):BT:=(N (o0 P) (N (o1 P) (N (o3 P) (N (o7 P) (N (JC P) (N (KU P) (N (JL P) (L (By P)) (L (Ds P))) (N (J4 P) (L (Ca P)) (L (Gj P)))) (N (Ku P) (N (KA P) (L (AY P)) (L (GP P))) (N (Bz P) (L (Bk P)) (L (GE P))))) (N (Ke P) (N (KZ P) (N (Kt P) (L (BJ P)) (L (G5 P))) (N (Dt P) (L (CL P)) (L (BX P)))) (N (KK P) (N (Ju P) (L (Dj P)) (L (Fi P))) (N (CJ P) (L (BQ P)) BT.nil)))) (N (Lt P) (N (Lm P) (N (Js P) (N (Lg P) (L (CK P)) (L (BN P))) (N (JB P) (L (BU P)) (L (FU P)))) (N (La P) (N (KI P) (L (FT P)) (L (Fq P))) (N (AV P) (L (AI P)) (L (Cx P))))) (N (Jp P) (N (JW P) (N (KY P) (L (DC P)) (L (GD P))) (N (BF P) (L (Cm P)) (L (F1 P)))) (N (K6 P) (N (KS P) (L (A2 P)) (L (Cg P))) (N (A9 P) (L (A5 P)) BT.nil))))) (N (o5 P) (N (o9 P) (N (KV P) (N (Jr P) (N (J6 P) (L (Bw P)) (L (A8 P))) (N (KG P) (L (AF P)) (L (Fo P)))) (N (JY P) (N (Lu P) (L (C0 P)) (L (Fg P))) (N (DB P) (L (Bl P)) (L (F8 P))))) (N (Jx P) (N (Lp P) (N (K0 P) (L (AJ P)) (L (GZ P))) (N (Bq P) (L (Bf P)) (L (F0 P)))) (N (KO P) (N (Lo P) (L (Dd P)) (L (Gw P))) (N (AL P) (L (Cp P)) BT.nil)))) (N (KB P) (N (JH P) (N (Kg P) (N (JJ P) (L (CB P)) (L (zi P))) (N (AT P) (L (AZ P)) (L (GQ P)))) (N (J2 P) (N (KL P) (L (AC P)) (L (Ha P))) (N (A4 P) (L (Bi P)) BT.nil))) (N (JX P) (N (Jq P) (N (KN P) (L (Bj P)) (L (Fs P))) (N (AB P) (L (Bx P)) (L (Gm P)))) (N (Kq P) (N (KX P) (L (CN P)) (L (GR P))) (N (Cw P) (L (Bn P)) BT.nil)))))) (N (o2 P) (N (o4 P) (N (o8 P) (N (JE P) (N (Lw P) (N (Jn P) (L (Bb P)) (L (Ax P))) (N (Km P) (L (Bp P)) (L (Hg P)))) (N (Kl P) (N (Ky P) (L (CP P)) (L (He P))) (N (C1 P) (L (AR P)) (L (FY P))))) (N (Lr P) (N (Ld P) (N (KH P) (L (Dw P)) (L (FZ P))) (N (Cc P) (L (Cs P)) (L (EO P)))) (N (Lc P) (N (Kv P) (L (Df P)) (L (GU P))) (N (Az P) (L (BH P)) BT.nil)))) (N (NJ P) (N (J7 P) (N (Kk P) (N (K8 P) (L (CD P)) (L (AG P))) (N (CE P) (L (Db P)) (L (GG P)))) (N (Jw P) (N (Lv P) (L (DJ P)) (L (Gi P))) (N (CC P) (L (BM P)) BT.nil))) (N (Ll P) (N (JT P) (N (Ki P) (L (Fx P)) (L (FI P))) (N (B9 P) (L (AX P)) (L (F6 P)))) (N (K5 P) (N (KQ P) (L (Cj P)) (L (FW P))) (N (BZ P) (L (CT P)) BT.nil))))) (N (o6 P) (N (JU P) (N (J0 P) (N (JV P) (N (JM P) (L (B8 P)) (L (BA P))) (N (Ln P) (L (Ct P)) (L (FO P)))) (N (KR P) (N (Jv P) (L (Bo P)) (L (GL P))) (N (Dc P) (L (CV P)) (L (F7 P))))) (N (Ls P) (N (Jo P) (N (Li P) (L (Bh P)) (L (EM P))) (N (Bg P) (L (AO P)) (L (Fj P)))) (N (Kz P) (N (Lh P) (L (Cn P)) (L (GY P))) (N (CA P) (L (DF P)) BT.nil)))) (N (JK P) (N (JG P) (N (Kh P) (N (J3 P) (L (CH P)) (L (EN P))) (N (Bv P) (L (Cb P)) (L (Ff P)))) (N (Kd P) (N (Kn P) (L (Cl P)) (L (B1 P))) (N (BB P) (L (DG P)) BT.nil))) (N (J5 P) (N (KD P) (N (JF P) (L (AN P)) (L (G8 P))) (N (CR P) (L (Cf P)) (L (BP P)))) (N (Kp P) (N (JA P) (L (BY P)) (L (FX P))) (N (AE P) (L (C7 P)) BT.nil)))))))
noncomputable def HX(P:Params):List Obj:=[o0 P,o1 P,o2 P,o3 P,o4 P,o5 P,o6 P,o7 P,o8 P,o9 P,JU P,Lt P,NJ P,KB P,JK P,JC P,JE P,KV P,J0 P,Lm P,J7 P,JH P,JG P,Ke P,Lr P,Jx P,Ls P,Jp P,Ll P,JX P,J5 P,KU P,Lw P,Jr P,JV P,Js P,Kk P,Kg P,Kh P,KZ P,Ld P,Lp P,Jo P,JW P,JT P,Jq P,KD P,Ku P,Kl P,JY P,KR P,La P,Jw P,J2 P,Kd P,KK P,Lc P,KO P,Kz P,K6 P,K5 P,Kq P,Kp P,JL P,Jn P,J6 P,JM P,Lg P,K8 P,JJ P,J3 P,Kt P,KH P,K0 P,Li P,KY P,Ki P,KN P,JF P,KA P,Ky P,Lu P,Jv P,KI P,Lv P,KL P,Kn P,Ju P,Kv P,Lo P,Lh P,KS P,KQ P,KX P,JA P,J4 P,Km P,KG P,Ln P,JB P,CE P,AT P,Bv P,Dt P,Cc P,Bq P,Bg P,BF P,B9 P,AB P,CR P,Bz P,C1 P,DB P,Dc P,AV P,CC P,A4 P,BB P,CJ P,Az P,AL P,CA P,A9 P,BZ P,Cw P,AE P,By P,Bb P,Bw P,B8 P,CK P,CD P,CB P,CH P,BJ P,Dw P,AJ P,Bh P,DC P,Fx P,Bj P,AN P,AY P,CP P,C0 P,Bo P,FT P,DJ P,AC P,Cl P,Dj P,Df P,Dd P,Cn P,A2 P,Cj P,CN P,BY P,Ca P,Bp P,AF P,Ct P,BU P,Db P,AZ P,Cb P,CL P,Cs P,Bf P,AO P,Cm P,AX P,Bx P,Cf P,Bk P,AR P,Bl P,CV P,AI P,BM P,Bi P,DG P,BQ P,BH P,Cp P,DF P,A5 P,CT P,Bn P,C7 P,Ds P,Ax P,A8 P,BA P,BN P,AG P,zi P,EN P,G5 P,FZ P,GZ P,EM P,GD P,FI P,Fs P,G8 P,GP P,He P,Fg P,GL P,Fq P,Gi P,Ha P,B1 P,Fi P,GU P,Gw P,GY P,Cg P,FW P,GR P,FX P,Gj P,Hg P,Fo P,FO P,FU P,GG P,GQ P,Ff P,BX P,EO P,F0 P,Fj P,F1 P,F6 P,Gm P,BP P,GE P,FY P,F8 P,F7 P,Cx P]
noncomputable def dA(P:Params):Heap:=⟨⟨HX P⟩,{}⟩
theorem OL(P:Params):absHeap (Pq P) 11 {}=boot_heap P:=by kernel_rfl
theorem OT(P:Params):absHeap (Jt P) 244 {}=dA P:=by kernel_rfl
noncomputable def qE(w:World)(ann:Option Value):Nat->SharedT->Thread->Option SharedT
 |0,_,_=>none
 |n+1,s,t=>match through t with
  |true=>some s
  |false=>match PySem.W.Fast.tw6613529449190102663 11 ann t with
   |false=>none
   |true=>match PySem.W.Fast.tw10156331382660048174 a8 pw w s t with
    |some (s',t')=>qE w ann n s' t'
    |none=>none
theorem mz(w:World)(ann:Option Value):∀(n:Nat) (s:SharedT) (t:Thread) (s':SharedT),qE w ann n s t=some s'->topRun treeTable pw w 11 ann n s.abs t=some s'.abs
 |0,_,_,_,h=>by cases h
 |n+1,s,t,s',h=>by
  unfold qE at h
  unfold topRun
  cases ht:through t with
  |true=>rw [ht] at h;cases h;rfl
  |false=>
   rw [ht] at h
   rw [<-PySem.W.Fast.te6613529449190102663,<-PySem.W.Fast.te10156331382660048174,<-ve] at h
   dsimp only at h⊢
   cases hk:stepOk 11 ann t with
   |false=>rw [hk] at h;cases h
   |true=>
    rw [hk] at h
    dsimp only at h⊢
    cases hs:stepT (denote treeTable) pw w s t with
    |none=>rw [hs] at h;cases h
    |some r=>
     obtain⟨s₁,t₁⟩:=r
     rw [hs] at h
     rw [stepT_spec hs]
     exact mz w ann n s₁ t₁ s' h
theorem Ig(w:World):((boot_heap w.params).isNs mainGlobals&&(#[]:Array GenState).size==0,(boot_heap w.params).objs.size,(boot_heap w.params).nsMap mainGlobals "__annotations__")=(true,11,some (.ref 6)):=by kernel_rfl
noncomputable def N3(P:Params):Obj:=(Obj.mk (Yn q0) none (Data.dict ⟨[(rv P s0 Im 165 418),(xR P s2 166),(xR P s3 167),(dO P s4 Iy 168),(xR P s5 169),(Ya P I5 170 6),(Ya P HW 171 4),(rv P IV dc 173 172),(xR P IP 174),(Ya P zE 193 21),(rv P H5 Jl 197 196),(rv P H4 Ir 199 198),(Ya P pY 302 94),(Ya P qb 397 178),(Ya P xa 417 189)]⟩ 15) ⟨[]⟩)
noncomputable def Iq(P:Params):Obj:=(Obj.mk Value.none none (Data.fields ⟨[(Yj 1 0),(Yj 0 0),(Ys 20),(Yj 7 0),(Yj 0 0),(Ys 27),(Yj 49 0),(Yj 0 0),(Ys 105),(Yj 84 0),(Yj 0 0),(Ys 188)]⟩) ⟨[]⟩)
noncomputable abbrev vt a b:=Obj.mk (Yn a) none (Data.fields ⟨[(Ys 196),(Yj b 0)]⟩) ⟨[]⟩
noncomputable def zB(P:Params):Obj:=(vt jp 1)
noncomputable def FR(P:Params)(a b:Obj):BT:=(N (o0 P) (N (o1 P) (N (N3 P) (N (o7 P) (N (JC P) (N (KU P) (N (JL P) (L (By P)) (L (Ds P))) (N (J4 P) (L (Ca P)) BT.nil)) (N (Ku P) (N (KA P) (L (AY P)) BT.nil) (N (Bz P) (L (Bk P)) BT.nil))) (N (Ke P) (N (KZ P) (N (Kt P) (L (BJ P)) BT.nil) (N (Dt P) (L (CL P)) BT.nil)) (N (KK P) (N (Ju P) (L (Dj P)) BT.nil) (N (CJ P) (L (BQ P)) BT.nil)))) (N (Lt P) (N (Lm P) (N (Js P) (N (Lg P) (L (CK P)) (L (BN P))) (N (JB P) (L (BU P)) BT.nil)) (N (La P) (N (KI P) (L (FT P)) BT.nil) (N (AV P) (L (AI P)) BT.nil))) (N (Jp P) (N (JW P) (N (KY P) (L (DC P)) BT.nil) (N (BF P) (L (Cm P)) BT.nil)) (N (K6 P) (N (KS P) (L (A2 P)) BT.nil) (N (A9 P) (L (A5 P)) BT.nil))))) (N (o5 P) (N (o9 P) (N (KV P) (N (Jr P) (N (J6 P) (L (Bw P)) (L (A8 P))) (N (KG P) (L (AF P)) BT.nil)) (N (JY P) (N (Lu P) (L (C0 P)) BT.nil) (N (DB P) (L (Bl P)) BT.nil))) (N (Jx P) (N (Lp P) (N (K0 P) (L (AJ P)) BT.nil) (N (Bq P) (L (Bf P)) BT.nil)) (N (KO P) (N (Lo P) (L (Dd P)) BT.nil) (N (AL P) (L (Cp P)) BT.nil)))) (N (KB P) (N (JH P) (N (Kg P) (N (JJ P) (L (CB P)) (L a)) (N (AT P) (L (AZ P)) BT.nil)) (N (J2 P) (N (KL P) (L (AC P)) BT.nil) (N (A4 P) (L (Bi P)) BT.nil))) (N (JX P) (N (Jq P) (N (KN P) (L (Bj P)) BT.nil) (N (AB P) (L (Bx P)) BT.nil)) (N (Kq P) (N (KX P) (L (CN P)) BT.nil) (N (Cw P) (L (Bn P)) BT.nil)))))) (N (o2 P) (N (o4 P) (N (o8 P) (N (JE P) (N (Lw P) (N (Jn P) (L (Bb P)) (L (Ax P))) (N (Km P) (L (Bp P)) BT.nil)) (N (Kl P) (N (Ky P) (L (CP P)) BT.nil) (N (C1 P) (L (AR P)) BT.nil))) (N (Lr P) (N (Ld P) (N (KH P) (L (Dw P)) BT.nil) (N (Cc P) (L (Cs P)) BT.nil)) (N (Lc P) (N (Kv P) (L (Df P)) BT.nil) (N (Az P) (L (BH P)) BT.nil)))) (N (Iq P) (N (J7 P) (N (Kk P) (N (K8 P) (L (CD P)) (L (AG P))) (N (CE P) (L (Db P)) BT.nil)) (N (Jw P) (N (Lv P) (L (DJ P)) BT.nil) (N (CC P) (L (BM P)) BT.nil))) (N (Ll P) (N (JT P) (N (Ki P) (L (Fx P)) BT.nil) (N (B9 P) (L (AX P)) BT.nil)) (N (K5 P) (N (KQ P) (L (Cj P)) BT.nil) (N (BZ P) (L (CT P)) BT.nil))))) (N (o6 P) (N (JU P) (N (J0 P) (N (JV P) (N (JM P) (L (B8 P)) (L (BA P))) (N (Ln P) (L (Ct P)) BT.nil)) (N (KR P) (N (Jv P) (L (Bo P)) BT.nil) (N (Dc P) (L (CV P)) BT.nil))) (N (Ls P) (N (Jo P) (N (Li P) (L (Bh P)) BT.nil) (N (Bg P) (L (AO P)) BT.nil)) (N (Kz P) (N (Lh P) (L (Cn P)) BT.nil) (N (CA P) (L (DF P)) BT.nil)))) (N (JK P) (N (JG P) (N (Kh P) (N (J3 P) (L (CH P)) (L b)) (N (Bv P) (L (Cb P)) BT.nil)) (N (Kd P) (N (Kn P) (L (Cl P)) BT.nil) (N (BB P) (L (DG P)) BT.nil))) (N (J5 P) (N (KD P) (N (JF P) (L (AN P)) BT.nil) (N (CR P) (L (Cf P)) BT.nil)) (N (Kp P) (N (JA P) (L (BY P)) BT.nil) (N (AE P) (L (C7 P)) BT.nil)))))))
noncomputable def yW(P:Params):Obj:=(vt jp 9)
noncomputable def xD(P:Params):Obj:=(vt jp 17)
noncomputable def zo(P:Params):Obj:=(vt jp 25)
noncomputable def yI(P:Params):Obj:=(vt jp 33)
noncomputable def yt(P:Params):Obj:=(vt jp 41)
noncomputable def xk(P:Params):Obj:=(vt jp 49)
noncomputable def yR(P:Params):Obj:=(vt jp 57)
noncomputable def xg(P:Params):Obj:=(vt jp 65)
noncomputable def xx(P:Params):Obj:=(vt jp 73)
noncomputable def sP(P:Params):Obj:=(vt jp 81)
noncomputable def tN(P:Params):Obj:=(vt jp 89)
noncomputable def sB(P:Params):Obj:=(vt jp 97)
noncomputable def xW(P:Params):Obj:=sO P [wj] 1 7 [1] 0
noncomputable def zS(P:Params):Obj:=sO P [wL,wj,wV,wR,wT,wP,wH,wZ,wK] 10 31 [0,1,2,3,4,5,6,7,8] 1
noncomputable def yj(P:Params):Obj:=sO P [wL,wj,wV,wR,wT,wP,wH,wZ,wK,yw,zk,w0,yJ,xI,yL,xq,yr] 18 31 [0,1,2,3,4,5,6,7,8,9,10,11,12,13,14,15,16] 1
noncomputable def yH(P:Params):Obj:=sO P [wj,wL,wT,wV,wR,wP,wH,wZ,wK,yw,zk,w0,yJ,xI,yL,xq,yr,Al,Af,Ab,Aj,Ac,At,Ai,Ah] 27 127 [1,32,33,34,35,36,37,38,39,40,41,42,43,44,45,46,47,48,49,50,51,52,53,54,55] 2
noncomputable def zO(P:Params):Obj:=sO P [wj,wL,wT,wV,wR,wP,wH,wZ,wK,yw,zk,w0,yJ,xI,yL,xq,yr,Al,Af,Ab,Aj,Ac,At,Ai,Ah,Av,Cv,Bs,B3,AD,CY,Do,DD] 35 127 [1,32,33,34,35,36,37,38,39,40,41,42,43,44,45,46,47,48,49,50,51,52,53,54,55,56,57,58,59,60,61,62,63] 2
noncomputable def yP(P:Params):Obj:=sO P [wj,wL,wT,wV,wR,wP,wH,wZ,wK,yw,zk,w0,yJ,xI,yL,xq,yr,Al,Af,Ab,Aj,Ac,At,Ai,Ah,Av,Cv,Bs,B3,AD,CY,Do,DD,(917568,458),(917569,459),(917570,460),(917571,461),(917572,462),(917573,463),(917574,464),(917575,465)] 43 127 [1,32,33,34,35,36,37,38,39,40,41,42,43,44,45,46,47,48,49,50,51,52,53,54,55,56,57,58,59,60,61,62,63,64,65,66,67,68,69,70,71] 2
noncomputable def zX(P:Params):Obj:=sO P [wj,wL,wT,wV,wR,wP,wH,wZ,wK,yw,zk,w0,yJ,xI,yL,xq,yr,Al,Af,Ab,Aj,Ac,At,Ai,Ah,Av,Cv,Bs,B3,AD,CY,Do,DD,(917568,458),(917569,459),(917570,460),(917571,461),(917572,462),(917573,463),(917574,464),(917575,465),(917576,466),(917577,467),(917578,468),(917579,469),(917580,470),(917581,471),(917582,472),(917583,473)] 51 127 [1,32,33,34,35,36,37,38,39,40,41,42,43,44,45,46,47,48,49,50,51,52,53,54,55,56,57,58,59,60,61,62,63,64,65,66,67,68,69,70,71,72,73,74,75,76,77,78,79] 2
noncomputable def Aa(P:Params):Obj:=sO P [wj,wL,wT,wV,wR,wP,wH,wZ,wK,yw,zk,w0,yJ,xI,yL,xq,yr,Al,Af,Ab,Aj,Ac,At,Ai,Ah,Av,Cv,Bs,B3,AD,CY,Do,DD,(917568,458),(917569,459),(917570,460),(917571,461),(917572,462),(917573,463),(917574,464),(917575,465),(917576,466),(917577,467),(917578,468),(917579,469),(917580,470),(917581,471),(917582,472),(917583,473),(917584,474),(917585,475),(917586,476),(917587,477),(917588,478),(917589,479),(917590,480),(917591,481)] 59 127 [1,32,33,34,35,36,37,38,39,40,41,42,43,44,45,46,47,48,49,50,51,52,53,54,55,56,57,58,59,60,61,62,63,64,65,66,67,68,69,70,71,72,73,74,75,76,77,78,79,80,81,82,83,84,85,86,87] 2
noncomputable def zL(P:Params):Obj:=sO P [wj,wL,wT,wV,wR,wP,wH,wZ,wK,yw,zk,w0,yJ,xI,yL,xq,yr,Al,Af,Ab,Aj,Ac,At,Ai,Ah,Av,Cv,Bs,B3,AD,CY,Do,DD,(917568,458),(917569,459),(917570,460),(917571,461),(917572,462),(917573,463),(917574,464),(917575,465),(917576,466),(917577,467),(917578,468),(917579,469),(917580,470),(917581,471),(917582,472),(917583,473),(917584,474),(917585,475),(917586,476),(917587,477),(917588,478),(917589,479),(917590,480),(917591,481),(917592,482),(917593,483),(917594,484),(917595,485),(917596,486),(917597,487),(917598,488),(917599,489)] 67 127 [1,32,33,34,35,36,37,38,39,40,41,42,43,44,45,46,47,48,49,50,51,52,53,54,55,56,57,58,59,60,61,62,63,64,65,66,67,68,69,70,71,72,73,74,75,76,77,78,79,80,81,82,83,84,85,86,87,88,89,90,91,92,93,94,95] 2
noncomputable def xP(P:Params):Obj:=sO P [wj,wL,wT,wV,wR,wP,wH,wZ,wK,yw,zk,w0,yJ,xI,yL,xq,yr,Al,Af,Ab,Aj,Ac,At,Ai,Ah,Av,Cv,Bs,B3,AD,CY,Do,DD,(917568,458),(917569,459),(917570,460),(917571,461),(917572,462),(917573,463),(917574,464),(917575,465),(917576,466),(917577,467),(917578,468),(917579,469),(917580,470),(917581,471),(917582,472),(917583,473),(917584,474),(917585,475),(917586,476),(917587,477),(917588,478),(917589,479),(917590,480),(917591,481),(917592,482),(917593,483),(917594,484),(917595,485),(917596,486),(917597,487),(917598,488),(917599,489),(917600,490),(917601,491),(917602,492),(917603,493),(917604,494),(917605,495),(917606,496),(917607,497)] 75 127 [1,32,33,34,35,36,37,38,39,40,41,42,43,44,45,46,47,48,49,50,51,52,53,54,55,56,57,58,59,60,61,62,63,64,65,66,67,68,69,70,71,72,73,74,75,76,77,78,79,80,81,82,83,84,85,86,87,88,89,90,91,92,93,94,95,96,97,98,99,100,101,102,103] 2
noncomputable def sC(P:Params):Obj:=sO P [wj,wL,wT,wV,wR,wP,wH,wZ,wK,yw,zk,w0,yJ,xI,yL,xq,yr,Al,Af,Ab,Aj,Ac,At,Ai,Ah,Av,Cv,Bs,B3,AD,CY,Do,DD,(917568,458),(917569,459),(917570,460),(917571,461),(917572,462),(917573,463),(917574,464),(917575,465),(917576,466),(917577,467),(917578,468),(917579,469),(917580,470),(917581,471),(917582,472),(917583,473),(917584,474),(917585,475),(917586,476),(917587,477),(917588,478),(917589,479),(917590,480),(917591,481),(917592,482),(917593,483),(917594,484),(917595,485),(917596,486),(917597,487),(917598,488),(917599,489),(917600,490),(917601,491),(917602,492),(917603,493),(917604,494),(917605,495),(917606,496),(917607,497),(917608,498),(917609,499),(917610,500),(917611,501),(917612,502),(917613,503),(917614,504),(917615,505)] 84 511 [1,32,33,34,35,36,37,38,39,40,41,42,43,44,45,46,47,48,49,50,51,52,53,54,55,56,57,58,59,60,61,62,63,64,65,66,67,68,69,70,71,72,73,74,75,76,77,78,79,80,81,82,83,84,85,86,87,88,89,90,91,92,93,94,95,96,97,98,99,100,101,102,103,104,105,106,107,108,109,110,111] 3
noncomputable def sT(P:Params):Obj:=sO P [wj,wL,wT,wV,wR,wP,wH,wZ,wK,yw,zk,w0,yJ,xI,yL,xq,yr,Al,Af,Ab,Aj,Ac,At,Ai,Ah,Av,Cv,Bs,B3,AD,CY,Do,DD,(917568,458),(917569,459),(917570,460),(917571,461),(917572,462),(917573,463),(917574,464),(917575,465),(917576,466),(917577,467),(917578,468),(917579,469),(917580,470),(917581,471),(917582,472),(917583,473),(917584,474),(917585,475),(917586,476),(917587,477),(917588,478),(917589,479),(917590,480),(917591,481),(917592,482),(917593,483),(917594,484),(917595,485),(917596,486),(917597,487),(917598,488),(917599,489),(917600,490),(917601,491),(917602,492),(917603,493),(917604,494),(917605,495),(917606,496),(917607,497),(917608,498),(917609,499),(917610,500),(917611,501),(917612,502),(917613,503),(917614,504),(917615,505),(917616,506),(917617,507),(917618,508),(917619,509),(917620,510),(917621,511),(917622,512),(917623,513)] 92 511 [1,32,33,34,35,36,37,38,39,40,41,42,43,44,45,46,47,48,49,50,51,52,53,54,55,56,57,58,59,60,61,62,63,64,65,66,67,68,69,70,71,72,73,74,75,76,77,78,79,80,81,82,83,84,85,86,87,88,89,90,91,92,93,94,95,96,97,98,99,100,101,102,103,104,105,106,107,108,109,110,111,112,113,114,115,116,117,118,119] 3
noncomputable abbrev wS(b:Bool)(w:World):World:=w.withFollow "special-get-raises" b
noncomputable def gM(w:World)(ann:Option Value):Nat->SharedT->Thread->Option (SharedT×Thread)
 |0,s,t=>some (s,t)
 |n+1,s,t=>match through t with
  |true=>none
  |false=>match PySem.W.Fast.tw6613529449190102663 11 ann t with
   |false=>none
   |true=>match PySem.W.Fast.tw10156331382660048174 a8 pw w s t with
    |some (s',t')=>gM w ann n s' t'
    |none=>none
theorem cu(w:World)(ann:Option Value):∀(n:Nat) (m:Nat) (s s':SharedT) (t t':Thread) (r:SharedT),gM w ann n s t=some (s',t')->qE w ann m s' t'=some r->qE w ann (n+m) s t=some r
 |0,m,s,s',t,t',r,h,k=>by cases h;rw [zero_add];exact k
 |n+1,m,s,s',t,t',r,h,k=>by
  rw [show n+1+m=n+m+1 by lia]
  unfold gM at h
  unfold qE
  cases ht:through t with
  |true=>rw [ht] at h;cases h
  |false=>
   rw [ht] at h
   dsimp only at h⊢
   split at h
   ·cases h
   ·rename_i e
    try rw [e]
    try dsimp only
    split at h
    ·rename_i e'
     try rw [e']
     exact cu w ann n m _ _ _ _ r h k
    ·cases h
noncomputable def Ek:Option (SharedT×Thread)->List Frame
 |some (_,t)=>t.stack
 |none=>[]
noncomputable abbrev cS:Code:=.builtin "set.update.loop" ⟨[.ref 197,.ref 198],[]⟩
noncomputable abbrev pS:Pos:=⟨104,9,104,52⟩
noncomputable abbrev S0(w:World)(os:OsState):SharedT:=⟨Pq w.params,11,{},⟨[]⟩,boot_drawn,boot_toks,os⟩
noncomputable abbrev SC(w:World)(a b:Obj)(k:Nat)(os:OsState):SharedT:=⟨FR w.params a b,199,{},⟨[]⟩,{},k,os⟩
noncomputable abbrev an:Option Value:=some (.ref 6)
noncomputable def H9(w:World)(os:OsState):List Frame:=Ek (gM w an 2915 (S0 w os) (topStub pw))
noncomputable def OQ:Int->Nat->Bool
 |.ofNat a,n=>Nat.beq a n
 |_,_=>false
noncomputable def LT:Int×Value->Nat×Nat->Bool
 |(h,v),(n,t)=>match v with
  |.int i u=>OQ h n&&(OQ i n&&Nat.beq u t)
  |_=>false
noncomputable def Ik{α β:Type}(f:α->β->Bool):List α->List β->Bool
 |[],[]=>true
 |a::l,b::m=>f a b&&Ik f l m
 |_,_=>false
noncomputable def HT{α:Type}:List α->Bool
 |[]=>true
 |_=>false
noncomputable def sQ(m:List (Nat×Nat))(ep mask:Nat)(place:List Nat)(mv:Nat)(o:Obj):Bool:=match o with
 |⟨_,_,.set es n t,_⟩=>Ik LT es.toList m&&(Nat.beq n ep&&(Nat.beq t.mask mask&&(Ik Nat.beq t.place.toList place&&(HT t.dummies.toList&&(Nat.beq t.finger 0&&(Nat.beq t.moves mv&&t.plain))))))
 |_=>false
noncomputable def xY(o:Obj):Bool:=match o with
 |⟨_,_,.set _ _ t,_⟩=>t.led
 |_=>false
theorem zh{i:Int}{n:Nat}(h:OQ i n=true):i=Int.ofNat n:=by
 cases i with
 |ofNat a=>exact congrArg Int.ofNat (eq_of_beq_eq_true h)
 |negSucc a=>cases h
theorem FN{x:Int×Value}{y:Nat×Nat}(h:LT x y=true):x=(Int.ofNat y.1,.int (Int.ofNat y.1) y.2):=by
 obtain⟨a,v⟩:=x
 obtain⟨n,t⟩:=y
 cases v<;>simp only [LT] at h<;>try (cases h;done)
 simp only [Bool.and_eq_true] at h
 obtain⟨h1,h2,h3⟩:=h
 rw [zh h1,zh h2,eq_of_beq_eq_true h3]
theorem nT{α β:Type}{f:α->β->Bool}{g:β->α}(hf:∀a b,f a b=true->a=g b):∀{l:List α} {m:List β},Ik f l m=true->l=m.map g
 |[],[],_=>rfl
 |a::l,b::m,h=>by
  simp only [Ik,Bool.and_eq_true] at h
  rw [hf _ _ h.1,nT hf h.2];rfl
 |[],_::_,h=>by cases h
 |_::_,[],h=>by cases h
theorem px{P:Params}{m:List (Nat×Nat)}{ep mask:Nat}{place:List Nat}{mv:Nat}{o:Obj}(h:sQ m ep mask place mv o=true)(hc:o.cls=.type I3)(hd:o.dict=none)(hs:o.slots=⟨[]⟩)(hl:xY o= !P.followText "set-order"):o=sO P m ep mask place mv:=by
 obtain⟨c,d,dt,sl⟩:=o
 dsimp only at hc hd hs
 subst hc hd hs
 cases dt<;>simp only [sQ] at h<;>try (cases h;done)
 rename_i es n t
 simp only [Bool.and_eq_true] at h
 refine gQ fun Q zQ=>?_
 obtain⟨h1,h2,h3,h4,h5,h6,h7,h8⟩:=h
 obtain⟨mask',place',dummies',finger',led',moves',plain'⟩:=t
 refine zQ ?_
 obtain⟨es⟩:=es
 obtain⟨pl⟩:=place'
 obtain⟨du⟩:=dummies'
 have e1:es=_:=nT (g:=fun x=>(Int.ofNat x.1,.int (Int.ofNat x.1) x.2)) (fun a b=>FN) h1
 have e4:pl=place.map id:=nT (fun a b q=>eq_of_beq_eq_true q) h4
 have e5:du=[]:=by cases du with|nil=>rfl|cons _ _=>cases h5
 have e2:=eq_of_beq_eq_true h2
 have e3:=eq_of_beq_eq_true h3
 have e6:=eq_of_beq_eq_true h6
 have e7:=eq_of_beq_eq_true h7
 dsimp only at e3 e6 e7 h8
 have hl:led'=_:=hl
 rw [List.map_id] at e4
 subst e1 e2 e3 e4 e5 e6 e7 h8 hl
 rfl
abbrev i6:=Option Value
noncomputable def HP(m:List (Nat×Nat))(ep mask:Nat)(place:List Nat)(mv:Nat)(x:SharedT×Thread):BT×Option (Value×Option Addr×Array i6×Bool×Bool)×(Nat×Life×Array GenState×Drawn×Nat×OsState)×(Sem Fin×Code×Pos)×Bool:=
 (x.1.tree.set 197 (fun _=>default),(x.1.tree.get 197).map (fun o=>(o.cls,o.dict,o.slots,sQ m ep mask place mv o,xY o)),(x.1.n,x.1.life,x.1.gens,x.1.drawn,x.1.toks,x.1.os),(x.2.cur,x.2.code,x.2.pos),x.2.stack.isEmpty)
theorem gu:∀{T:BT} {i:Nat} {o:Obj},T.get i=some o->T.set i (fun _=>o)=T
 |.nil,_,_,h=>by cases h
 |.node v l r,i,o,h=>by
  rw [BT.get_node] at h
  rw [BT.set_node]
  by_cases h0:i=0
  ·rw [if_pos h0] at h⊢;cases h;rfl
  ·rw [if_neg h0] at h⊢
   by_cases p:i % 2=1
   ·rw [if_pos p] at h⊢;rw [gu h]
   ·rw [if_neg p] at h⊢;rw [gu h]
theorem gg(f g:Obj->Obj):∀(T:BT) (i:Nat),(T.set i f).set i g=T.set i (fun o=>g (f o))
 |.nil,_=>rfl
 |.node v l r,i=>by
  rw [BT.set_node,BT.set_node]
  by_cases h0:i=0
  ·rw [if_pos h0,if_pos h0,BT.set_node,if_pos h0]
  ·rw [if_neg h0,if_neg h0]
   by_cases p:i % 2=1
   ·rw [if_pos p,if_pos p,BT.set_node,if_neg h0,if_pos p,gg]
   ·rw [if_neg p,if_neg p,BT.set_node,if_neg h0,if_neg p,gg]
theorem tH(P:Params)(o b:Obj):(FR P default b).set 197 (fun _=>o)=FR P o b:=by kernel_rfl
theorem CQ{w:World}{m:List (Nat×Nat)}{ep mask:Nat}{place:List Nat}{mv:Nat}{b:Obj}{k:Nat}{os:OsState}{cur:Sem Fin}{c:Code}{p:Pos}{r:Option (SharedT×Thread)}
  (h:r.map (HP m ep mask place mv)=some (FR w.params default b,some (.type I3,none,⟨[]⟩,true,!w.params.followText "set-order"),(199,{},⟨[]⟩,{},k,os),(cur,c,p),false)):
  ∃f stk,Ek r=f::stk/\r=some (SC w (sO w.params m ep mask place mv) b k os,⟨cur,c,p,f::stk⟩):=by
 refine gQ fun Q zQ=>?_
 obtain⟨⟨⟨T,n,life,gens,drawn,toks,os'⟩,⟨cur',c',p',stack⟩⟩,rfl,e⟩:=Option.map_eq_some_iff.mp h
 simp only [HP,Prod.mk.injEq] at e
 obtain⟨e1,e2,⟨rfl,rfl,rfl,rfl,rfl,rfl⟩,⟨rfl,rfl,rfl⟩,e3⟩:=e
 obtain⟨o,ho,e2⟩:=Option.map_eq_some_iff.mp e2
 simp only [Prod.mk.injEq] at e2
 obtain⟨c1,c2,c3,c4,c5⟩:=e2
 refine zQ ?_
 have eo:=px (P:=w.params) c4 c1 c2 c3 c5
 subst eo
 have eT:T=FR w.params (sO w.params m ep mask place mv) b:=by
  rw [<-tH,<-e1,gg,gu ho]
 subst eT
 cases stack with
 |nil=>cases e3
 |cons f stk=>exact⟨f,stk,rfl,rfl⟩
noncomputable def I6(m:List (Nat×Nat))(ep mask:Nat)(place:List Nat)(mv:Nat)(x:SharedT×Thread):BT×Option (Value×Option Addr×Array i6×Bool×Bool)×(Nat×Life×Array GenState×Drawn×Nat×OsState)×Thread:=
 (x.1.tree.set 197 (fun _=>default),(x.1.tree.get 197).map (fun o=>(o.cls,o.dict,o.slots,sQ m ep mask place mv o,xY o)),(x.1.n,x.1.life,x.1.gens,x.1.drawn,x.1.toks,x.1.os),x.2)
theorem dj{w:World}{m:List (Nat×Nat)}{ep mask:Nat}{place:List Nat}{mv:Nat}{b:Obj}{k:Nat}{os:OsState}{t:Thread}{r:Option (SharedT×Thread)}
  (h:r.map (I6 m ep mask place mv)=some (FR w.params default b,some (.type I3,none,⟨[]⟩,true,!w.params.followText "set-order"),(199,{},⟨[]⟩,{},k,os),t)):
  r=some (SC w (sO w.params m ep mask place mv) b k os,t):=by
 refine gQ fun Q zQ=>?_
 obtain⟨⟨⟨T,n,life,gens,drawn,toks,os'⟩,t'⟩,rfl,e⟩:=Option.map_eq_some_iff.mp h
 simp only [I6,Prod.mk.injEq] at e
 obtain⟨e1,e2,⟨rfl,rfl,rfl,rfl,rfl,rfl⟩,rfl⟩:=e
 obtain⟨o,ho,e2⟩:=Option.map_eq_some_iff.mp e2
 simp only [Prod.mk.injEq] at e2
 obtain⟨c1,c2,c3,c4,c5⟩:=e2
 refine zQ ?_
 have eo:=px (P:=w.params) c4 c1 c2 c3 c5
 subst eo
 have eT:T=FR w.params (sO w.params m ep mask place mv) b:=by
  rw [<-tH,<-e1,gg,gu ho]
 subst eT
 rfl
section
variable(b:Bool)(w₀ w:World)(hw:w=wS b w₀)(os:OsState)
include b w₀ w hw os
theorem O0:∃f stk,H9 w os=f::stk/\gM w an 2915 (S0 w os) (topStub pw)=some (SC w (xW w.params) (zB w.params) 523 os,⟨a8 cS,cS,pS,f::stk⟩):=by
 subst hw
 refine CQ ?_
 cases b
 ·kernel_rfl
 ·kernel_rfl
section
variable(f:Frame)(stk:List Frame)
include f stk
theorem H7:gM w an 162 (SC w (xW w.params) (zB w.params) 523 os) ⟨a8 cS,cS,pS,f::stk⟩=some (SC w (zS w.params) (yW w.params) 531 os,⟨a8 cS,cS,pS,f::stk⟩):=by
 subst hw
 refine dj ?_
 cases b
 ·kernel_rfl
 ·kernel_rfl
theorem It:gM w an 160 (SC w (zS w.params) (yW w.params) 531 os) ⟨a8 cS,cS,pS,f::stk⟩=some (SC w (yj w.params) (xD w.params) 539 os,⟨a8 cS,cS,pS,f::stk⟩):=by
 subst hw
 refine dj ?_
 cases b
 ·kernel_rfl
 ·kernel_rfl
theorem HN:gM w an 162 (SC w (yj w.params) (xD w.params) 539 os) ⟨a8 cS,cS,pS,f::stk⟩=some (SC w (yH w.params) (zo w.params) 547 os,⟨a8 cS,cS,pS,f::stk⟩):=by
 subst hw
 refine dj ?_
 cases b
 ·kernel_rfl
 ·kernel_rfl
theorem Iz:gM w an 160 (SC w (yH w.params) (zo w.params) 547 os) ⟨a8 cS,cS,pS,f::stk⟩=some (SC w (zO w.params) (yI w.params) 555 os,⟨a8 cS,cS,pS,f::stk⟩):=by
 subst hw
 refine dj ?_
 cases b
 ·kernel_rfl
 ·kernel_rfl
theorem I7:gM w an 160 (SC w (zO w.params) (yI w.params) 555 os) ⟨a8 cS,cS,pS,f::stk⟩=some (SC w (yP w.params) (yt w.params) 563 os,⟨a8 cS,cS,pS,f::stk⟩):=by
 subst hw
 refine dj ?_
 cases b
 ·kernel_rfl
 ·kernel_rfl
theorem HY:gM w an 160 (SC w (yP w.params) (yt w.params) 563 os) ⟨a8 cS,cS,pS,f::stk⟩=some (SC w (zX w.params) (xk w.params) 571 os,⟨a8 cS,cS,pS,f::stk⟩):=by
 subst hw
 refine dj ?_
 cases b
 ·kernel_rfl
 ·kernel_rfl
theorem HU:gM w an 160 (SC w (zX w.params) (xk w.params) 571 os) ⟨a8 cS,cS,pS,f::stk⟩=some (SC w (Aa w.params) (yR w.params) 579 os,⟨a8 cS,cS,pS,f::stk⟩):=by
 subst hw
 refine dj ?_
 cases b
 ·kernel_rfl
 ·kernel_rfl
theorem Is:gM w an 160 (SC w (Aa w.params) (yR w.params) 579 os) ⟨a8 cS,cS,pS,f::stk⟩=some (SC w (zL w.params) (xg w.params) 587 os,⟨a8 cS,cS,pS,f::stk⟩):=by
 subst hw
 refine dj ?_
 cases b
 ·kernel_rfl
 ·kernel_rfl
theorem Ia:gM w an 160 (SC w (zL w.params) (xg w.params) 587 os) ⟨a8 cS,cS,pS,f::stk⟩=some (SC w (xP w.params) (xx w.params) 595 os,⟨a8 cS,cS,pS,f::stk⟩):=by
 subst hw
 refine dj ?_
 cases b
 ·kernel_rfl
 ·kernel_rfl
theorem Ib:gM w an 162 (SC w (xP w.params) (xx w.params) 595 os) ⟨a8 cS,cS,pS,f::stk⟩=some (SC w (sC w.params) (sP w.params) 603 os,⟨a8 cS,cS,pS,f::stk⟩):=by
 subst hw
 refine dj ?_
 cases b
 ·kernel_rfl
 ·kernel_rfl
theorem F3:gM w an 160 (SC w (sC w.params) (sP w.params) 603 os) ⟨a8 cS,cS,pS,f::stk⟩=some (SC w (sT w.params) (tN w.params) 611 os,⟨a8 cS,cS,pS,f::stk⟩):=by
 subst hw
 refine dj ?_
 cases b
 ·kernel_rfl
 ·kernel_rfl
theorem Fm:gM w an 160 (SC w (sT w.params) (tN w.params) 611 os) ⟨a8 cS,cS,pS,f::stk⟩=some (SC w (zi w.params) (sB w.params) 619 os,⟨a8 cS,cS,pS,f::stk⟩):=by
 subst hw
 refine dj ?_
 cases b
 ·kernel_rfl
 ·kernel_rfl
end
theorem Ng:qE w an 240 (SC w (zi w.params) (sB w.params) 619 os) ⟨a8 cS,cS,pS,H9 w os⟩=some ⟨Jt w.params,244,{},⟨[]⟩,{},677,os⟩:=by
 subst hw
 cases b
 ·kernel_rfl
 ·kernel_rfl
theorem Pp:qE w an (2915+(162+(160+(162+(160+(160+(160+(160+(160+(160+(162+(160+(160+(240)))))))))))))) (S0 w os) (topStub pw)=some ⟨Jt w.params,244,{},⟨[]⟩,{},677,os⟩:=by
 obtain⟨f,stk,e,h⟩:=O0 b w₀ w hw os
 have c:=Ng b w₀ w hw os
 rw [e] at c
 refine cu _ _ _ _ _ _ _ _ _ h ?_
 refine cu _ _ _ _ _ _ _ _ _ (H7 b w₀ w hw os f stk) ?_
 refine cu _ _ _ _ _ _ _ _ _ (It b w₀ w hw os f stk) ?_
 refine cu _ _ _ _ _ _ _ _ _ (HN b w₀ w hw os f stk) ?_
 refine cu _ _ _ _ _ _ _ _ _ (Iz b w₀ w hw os f stk) ?_
 refine cu _ _ _ _ _ _ _ _ _ (I7 b w₀ w hw os f stk) ?_
 refine cu _ _ _ _ _ _ _ _ _ (HY b w₀ w hw os f stk) ?_
 refine cu _ _ _ _ _ _ _ _ _ (HU b w₀ w hw os f stk) ?_
 refine cu _ _ _ _ _ _ _ _ _ (Is b w₀ w hw os f stk) ?_
 refine cu _ _ _ _ _ _ _ _ _ (Ia b w₀ w hw os f stk) ?_
 refine cu _ _ _ _ _ _ _ _ _ (Ib b w₀ w hw os f stk) ?_
 refine cu _ _ _ _ _ _ _ _ _ (F3 b w₀ w hw os f stk) ?_
 refine cu _ _ _ _ _ _ _ _ _ (Fm b w₀ w hw os f stk) ?_
 exact c
end
noncomputable abbrev qv:Program:=view pw [17]
noncomputable def lo:List Str:=["_wall","NL","EMPTYSTRING","_ValueFormatter","_Accumulator","rgb_to_hsv","c9_set","in_table_c9","_law_lines","_law_points","_law_hue","_law_steps","_law_none_below"]
noncomputable abbrev RU(w:World)(os:OsState):Shared:=⟨dA w.params, #[],{},677,os⟩
theorem Ie(w:World):staticsOk (importedModules pw.main.body) (boot_heap w.params) (dA w.params)=true:=by kernel_rfl
theorem HZ(w:World):namesBound pw (dA w.params)=true:=by kernel_rfl
theorem I4(w:World):laidKept (boot_heap w.params) (dA w.params)=true:=by kernel_rfl
theorem Iu(w:World)(os:OsState):openSeen qv lo (importedModules pw.main.body) (fun _=>true) true (RU w os)=openGood qv lo:=by kernel_rfl
section
open PyProof.Rows PySem.Calls PySem.Spec
theorem IQ(w:World)(os:OsState):topRun treeTable pw w 11 (some (.ref 6)) (2915+(162+(160+(162+(160+(160+(160+(160+(160+(160+(162+(160+(160+240))))))))))))) ⟨boot_heap w.params, #[],boot_drawn,boot_toks,os⟩ (topStub pw)=some ⟨dA w.params, #[],{},677,os⟩:=by
 have h:=mz _ _ _ _ _ _ (Pp (w.params.followText "special-get-raises") w w (World.withFollow_self w "special-get-raises").symm os)
 have e0:SharedT.abs (S0 w os)=⟨boot_heap w.params, #[],boot_drawn,boot_toks,os⟩:=by
  unfold SharedT.abs;rw [OL]
 have e1:SharedT.abs ⟨Jt w.params,244,{},⟨[]⟩,{},677,os⟩=⟨dA w.params, #[],{},677,os⟩:=by
  unfold SharedT.abs;rw [OT]
 rw [e0,e1] at h
 exact h
theorem rt:opening pw=plainProg pw.main.scope.names:=by rfl
theorem left:LeftO pw qv lo (fun _=>true) (fun s=>(s.heap,s.toks)) (fun w=>(dA w.params,677)) 6000:=
 LeftO.of_pieces (boot_open rt (by rfl) (fun s=>by rfl)) Ig IQ (by rfl) fun w=>by
  funext os
  rw [Ie,HZ,I4,Iu]
  rfl
end
section
structure St where
 L:List Nat
 m0:Nat
 n:Nat
 k:Nat
 T:BT
 tb:Nat
 ti:Nat
 gb:Nat
 gl:List GenState
 fz:List (Nat×Obj)
noncomputable def bm:List Nat->Nat->Nat->Nat
 |[],n,i=>n+i
 |a::_,_,0=>a
 |_::L,n,i+1=>bm L n i
inductive Ev where
 |fin (e:End)
 |again (c:Code)
abbrev jf:=Ev->List Nat->St->Prop
abbrev wC:=Ctx->Pos->Sem Fin->List Frame->List Nat->St->jf->Prop
abbrev bL:=Ctx->Pos->Code->St->(Result->St->Prop)->Prop
abbrev bD:=Ctx->Code->St->Prop×Sem Fin
structure XV where
 den:Code->Sem Fin
 prog:Program
 w:World
 kt:KT
 mm:Nat
 ro:Nat
 sm:Nat->bL
 rw:Nat->Value
 al:Nat->bD
 ob:Nat->Obj
 fz:List (Nat×Obj)
def fB(n:Nat):Prop:=n=n+1
theorem bn{n:Nat}(h:fB n):False:=by unfold fB at h;lia
def J8(ih:wC)(Γ:Ctx)(p:Pos)(h:Option Value)(g:Bool)(l:List Value)(k:Result->Sem Fin)(K:jf):jf:=fun e hs st=>match e with
 |.again _=>fB 2
 |.fin e=>match e with
  |.ret r=>ih Γ p (k r) [] hs st K
  |.susp v g₀ l₀ k₀ c₀ p₀ fs₀=>K (.fin (.susp v g₀ l₀ k₀ c₀ p₀ (fs₀++[.ret k h g l Γ.code p []]))) hs st
def Pv(ih:wC)(Γ:Ctx)(p:Pos)(v:Value)(k:Result->Sem Fin)(K:jf):jf:=fun e hs st=>match e with
 |.again _=>fB 2
 |.fin e=>match e with
  |.ret r=>r=.ok (.ret v)/\ih Γ p (k (.ok (.ret v))) [] hs st K
  |.susp .. =>fB 21
def SB(ih:wC)(Γ:Ctx)(p:Pos)(k:Result->Sem Fin)(K:jf):jf:=fun e hs st=>match e with
 |.again _=>fB 2
 |.fin e=>match e with
  |.ret r=>ih Γ p (k r) [] hs st K
  |.susp .. =>fB 23
def MK(K:jf):jf:=fun e hs st=>match e with
 |.again _=>fB 2
 |.fin e=>K (.fin e) hs st
def Qi(ih:wC)(Γ:Ctx)(f:Frame)(fs:List Frame)(K:jf):jf:=fun e hs st=>match e with
 |.again _=>fB 2
 |.fin e=>match e with
  |.ret r=>match f with
   |.ret k _ _ _ c₁ p₁ _=>ih (Γ.goto c₁) p₁ (k r) fs hs st (MK K)
   |.gen .. =>fB 1
  |.susp v g₀ l₀ k₀ c₀ p₀ fs₀=>match splitAtGen (f::fs) with
   |none=>K (.fin (.susp v g₀ l₀ k₀ c₀ p₀ (fs₀++f::fs))) hs st
   |some _=>fB 3
def Ko(ih:wC)(Γ:Ctx)(p:Pos)(g j:Nat)(k:GenResult->Sem Fin)(K:jf):jf:=fun e hs st=>match e with
 |.again _=>fB 2
 |.fin e=>match e.quiet with
  |true=>match hs with
   |[]=>fB 5
   |_::hs=>g=Nat.add st.gb j/\ih Γ p (k e.result) [] hs {st with gl:=st.gl.set j e.genState} K
  |false=>fB 4
def lM(hs:List Nat)(F:Nat->List Nat->Prop):Prop:=match hs with
 |[]=>fB 5
 |h::hs=>F h hs
def Di(hs:List Nat)(F:Nat->List Nat->Prop):Prop:=lM hs fun h hs=>F (h-500) hs
def Ka(V:XV)(a:Addr)(st:St)(h:Nat)(hs:List Nat)(F:Obj->List Nat->Prop):Prop:=match h with
 |0=>match V.kt.get a with
  |some o=>F o hs
  |none=>fB 8
 |i+1=>match Nat.ble 5000 i with
  |false=>match st.T.get i with
   |some o=>a=bm st.L st.n i/\F o hs
   |none=>fB 9
  |true=>lM hs fun h hs=>match h with
   |0=>fB 8
   |j+1=>match st.T.get j with
    |some o=>a=bm st.L st.n j/\o=V.ob (i-5000)/\F (V.ob (i-5000)) hs
    |none=>fB 9
def Mu(K:jf):jf:=fun e hs st=>match e with
 |.again _=>fB 2
 |.fin e=>match e with
  |.ret r=>K (.fin (.ret r)) hs st
  |.susp .. =>fB 22
def OI(V:XV)(ih:wC)(Γ:Ctx)(p:Pos)(c':Code)(hs:List Nat)(st:St)(K:jf):Prop:=match hs with
 |[]=>ih (Γ.goto c') p (V.den c') [] hs st K
 |h::hs'=>match Nat.ble 3000 h with
  |false=>ih (Γ.goto c') p (V.den c') [] hs st K
  |true=>match Nat.beq h 3000 with
   |true=>K (.again c') hs' st
   |false=>match Nat.ble 4000 h&&Nat.blt h 5000 with
    |true=>(V.al (h-4000) (Γ.goto c') c' st).1/\ih (Γ.goto c') p (V.al (h-4000) (Γ.goto c') c' st).2 [] hs' st (Mu K)
    |false=>match Nat.beq h 3001 with
     |true=>ih (Γ.goto c') p (V.den c') [] hs' st K
     |false=>match Nat.ble 7000 h with
      |true=>V.sm (h-7000) (Γ.goto c') p c' st fun r st=>K (.fin (.ret r)) hs' st
      |false=>ih (Γ.goto c') p (V.den c') [] hs st K
def OJ(V:XV)(ih:wC)(Γ:Ctx)(p:Pos)(c:Code)(h:Option Value)(g:Bool)(l:List Value)(k:Result->Sem Fin)(hs:List Nat)(st:St)(K:jf):Prop:=match hs with
 |[]=>ih (Γ.enter c h p) p (V.den c) [] hs st (J8 ih Γ p h g l k K)
 |x::hs'=>match Nat.ble 1000 x&&Nat.blt x 3000 with
  |false=>match Nat.ble 6000 x&&Nat.blt x 7000 with
   |true=>(V.al (x-6000) (Γ.enter c h p) c st).1/\ih (Γ.enter c h p) p (V.al (x-6000) (Γ.enter c h p) c st).2 [] hs' st (SB ih Γ p k K)
   |false=>match Nat.beq x 3002 with
    |true=>ih (Γ.enter c h p) p (V.den c) [] hs' st (J8 ih Γ p h g l k K)
    |false=>ih (Γ.enter c h p) p (V.den c) [] hs st (J8 ih Γ p h g l k K)
  |true=>match Nat.ble 2000 x with
   |false=>V.sm (x-1000) (Γ.enter c h p) p c st fun r st=>ih Γ p (k r) [] hs' st K
   |true=>ih (Γ.enter c h p) p (V.den c) [] hs' st (Pv ih Γ p (V.rw (x-2000)) k K)
def gw(V:XV)(ih:wC)(Γ:Ctx)(p:Pos)(t:Sem Fin)(hs:List Nat)(st:St)(K:jf):Prop:=match t with
 |.pure fin=>match fin with
  |.done f=>K (.fin (.ret (.ok f))) hs st
  |.again c'=>match c'.quiet with
   |false=>fB 6
   |true=>OI V ih Γ p c' hs st K
 |.raise e=>K (.fin (.ret (.error e))) hs st
 |.rule _ k=>ih Γ p (k ()) [] hs st K
 |.at p' k=>ih Γ p' (k ()) [] hs st K
 |.point _ k=>ih Γ p (k ()) [] hs st K
 |.ask k=>ih Γ p (k ⟨V.prog,V.w.params⟩) [] hs st K
 |.load a _ k=>lM hs fun h hs=>Ka V a st h hs fun o hs=>ih Γ p (k o) [] hs st K
 |.loadIfAlive a k=>lM hs fun h hs=>Ka V a st h hs fun o hs=>ih Γ p (k (some o)) [] hs st K
 |.alloc o k=>match o.isFreed with
  |true=>fB 10
  |false=>match((st.T.ins (Nat.add st.m0 st.k) o).get (Nat.add st.m0 st.k)).isSome with
   |true=>ih Γ p (k (Nat.add st.n st.k)) [] hs {st with k:=Nat.succ st.k,T:=st.T.ins (Nat.add st.m0 st.k) o} K
   |false=>fB 11
 |.update a _ f k=>lM hs fun h hs=>match h with
  |0=>fB 12
  |i+1=>match st.T.get i with
   |some o=>match(f o).isFreed with
    |true=>fB 13
    |false=>match Nat.blt i V.mm||Nat.ble V.ro i with
     |true=>a=bm st.L st.n i/\ih Γ p (k ()) [] hs {st with T:=st.T.set i f} K
     |false=>fB 14
   |none=>fB 9
 |.fresh k=>ih Γ p (k (Nat.add st.tb st.ti)) [] hs {st with ti:=Nat.succ st.ti} K
 |.handled own k=>ih Γ p (k (match own with|true=>Γ.own|false=>Γ.handled)) [] hs st K
 |.stack k=>ih Γ p (k ((Γ.code,p)::Γ.below)) [] hs st K
 |.call c h g l k=>OJ V ih Γ p c h g l k hs st K
 |.newGen c' k=>ih Γ p (k (Nat.add st.gb st.gl.length)) [] hs {st with gl:=st.gl++[.fresh c']} K
 |.genState g k=>Di hs fun j hs=>match st.gl[j]? with
  |some x=>g=Nat.add st.gb j/\ih Γ p (k x.seen) [] hs st K
  |none=>fB 16
 |.resume g r _ k=>Di hs fun j hs=>match st.gl[j]? with
  |some x=>g=Nat.add st.gb j/\(match x with
   |.fresh c₀=>match r with
    |.send v=>match v with
     |.none=>ih (Γ.wake c₀ p) p (V.den c₀) [] hs {st with gl:=st.gl.set j .running} (Ko ih Γ p g j k K)
     |_=>fB 18
    |.throw _=>fB 18
   |.suspended k₀ _ c₀ p₀ fs₀ _=>ih (Γ.wake c₀ p) p₀ (k₀ r) fs₀ hs {st with gl:=st.gl.set j .running} (Ko ih Γ p g j k K)
   |.running=>fB 19
   |.finished=>ih Γ p (k .finished) [] hs st K)
  |none=>fB 16
 |.yield v g l k=>K (.fin (.susp v g l k Γ.code p [])) hs st
 |.thread k=>ih Γ p (k 0) [] hs st K
 |.unsupported _=>fB 30
 |.finish _=>fB 31
 |.register .. =>fB 32
 |.choose .. =>fB 33
 |.os .. =>fB 34
 |.fork .. =>fB 35
 |.await .. =>fB 36
def DW(V:XV)(ih:wC):wC:=fun Γ p t fs hs st K=>match fs with
 |[]=>gw V ih Γ p t hs st K
 |f::fs=>ih (Γ.over (f::fs)) p t [] hs st (Qi ih Γ f fs K)
def ch(V:XV):Nat->wC
 |0=>fun _ _ _ _ _ _ _=>fB 0
 |n+1=>DW V (ch V n)
structure fX(V:XV)(h0:Heap)(d:Drawn)(os:OsState)(st:St)(s:Shared):Prop where
 len:st.L.length=st.m0
 size:s.heap.objs.size=st.n+st.k
 own:∀i o,st.T.get i=some o->i<st.m0+st.k/\s.heap.get? (bm st.L st.n i)=some o
 low:∀a∈st.L,a<st.n
 inj:∀i j,i<st.m0+st.k->j<st.m0+st.k->bm st.L st.n i=bm st.L st.n j->i=j
 kt:∀a o,V.kt.get a=some o->s.heap.get? a=some o
 off:∀i,i<st.m0+st.k->V.kt.get (bm st.L st.n i)=none
 toks:s.toks=st.tb+st.ti
 gsize:s.gens.size=st.gb+st.gl.length
 gnew:∀j x,st.gl[j]? =some x->s.gens[st.gb+j]? =some x
 gold:∀j x,j<st.gb->s.gens[j]? =some x->x=.finished
 mro:V.mm<=V.ro/\V.ro<=st.m0
 new:∀i,V.ro<=i->i<st.m0+st.k->h0.objs.size<=bm st.L st.n i
 keep:∀b o,h0.get? b=some o->(∀i,i<V.mm->bm st.L st.n i≠b)->s.heap.get? b=some o
 drawn:s.drawn=d
 os:s.os=os
 h0n:h0.objs.size<=st.n
 fz:∀x∈V.fz,h0.get? x.1=some x.2/\∀i,i<V.mm->bm st.L st.n i≠x.1
 dz:∀x∈st.fz,s.heap.get? x.1=some x.2/\(∀i,i<st.m0+st.k->bm st.L st.n i≠x.1)/\h0.objs.size<=x.1
theorem ra:∀{L:List Nat} {n i:Nat},i<L.length->bm L n i∈L
 |_::_,_,0,_=>mem_cons_self ..
 |_::L,n,i+1,h=>mem_cons_of_mem _ (ra (by simpa using h))
theorem lU:∀{L:List Nat} {n i:Nat},L.length<=i->bm L n i=n+(i-L.length)
 |[],n,i,_=>by simp [bm]
 |_::L,n,0,h=>by simp at h
 |_::L,n,i+1,h=>by
  have:L.length<=i:=by simpa using h
  show bm L n i=_
  rw [lU this];simp
def dB(M:Model)(Γ:Ctx)(p:Pos)(t:Sem Fin)(fs:List Frame)(s:Shared)(ev:Ev)(s':Shared):Prop:=match ev with
 |.fin e=>Runs M Γ p t fs s e s'
 |.again c=>fs=[]/\c.quiet=true/\∃p',∀e s'',Runs M (Γ.goto c) p' (M.den c) [] s' e s''->Runs M Γ p t [] s e s''
def bX(V:XV)(M:Model)(S:bL):Prop:=∀h0 d os Γ p c st K s,S Γ p c st K->Γ.code=c->fX V h0 d os st s->∃r st' s',Runs M Γ p (M.den c) [] s (.ret r) s'/\fX V h0 d os st' s'/\K r st'
def bE(V:XV)(M:Model)(A:bD):Prop:=∀h0 d os Γ c st s p r s',(A Γ c st).1->Γ.code=c->fX V h0 d os st s->Runs M Γ p (A Γ c st).2 [] s (.ret r) s'->Runs M Γ p (M.den c) [] s (.ret r) s'
structure XV.Ok(V:XV)(M:Model):Prop where
 den:V.den=M.den
 prog:V.prog=M.prog
 w:V.w=M.w
 sm:∀i,bX V M (V.sm i)
 al:∀i,bE V M (V.al i)
section
variable{V:XV}{h0:Heap}{d:Drawn}{os:OsState}{st:St}{s:Shared}
section
variable(R:fX V h0 d os st s)
include R
theorem fX.toks':fX V h0 d os {st with ti:=Nat.succ st.ti} {s with toks:=s.toks+1}:=
 ⟨R.len,R.size,R.own,R.low,R.inj,R.kt,R.off,by show s.toks+1=st.tb+(st.ti+1);rw [R.toks];lia,R.gsize,R.gnew,R.gold,R.mro,R.new,R.keep,R.drawn,R.os,R.h0n,R.fz,R.dz⟩
theorem Jk{a:Addr}{o:Obj}(e:V.kt.get a=some o):a<st.n+st.k:=R.size▸Heap.lt_size (R.kt a o e)
theorem fX.alloc{o:Obj}(hf:o.isFreed=false)(hg:((st.T.ins (st.m0+st.k) o).get (st.m0+st.k)).isSome=true):
  fX V h0 d os {st with k:=Nat.succ st.k,T:=st.T.ins (st.m0+st.k) o} {s with heap:=s.heap.push o}:=by
 have hadr:bm st.L st.n (st.m0+st.k)=st.n+st.k:=by rw [lU (by rw [R.len];lia),R.len];congr 1;lia
 refine⟨R.len,by show(s.heap.push o).objs.size=_;rw [Heap.size_push,R.size];rfl,?_,R.low,?_,fun a o' e=>Heap.get?_push_of_some _ (R.kt a o' e),?_,R.toks,R.gsize,R.gnew,R.gold,R.mro,?_,fun b o' e q=>Heap.get?_push_of_some _ (R.keep b o' e q),R.drawn,R.os,R.h0n,R.fz,fun x hx=>⟨Heap.get?_push_of_some _ (R.dz x hx).1,fun i hi=>?_,(R.dz x hx).2.2⟩⟩
 ·intro i o' e
  have e':(st.T.ins (st.m0+st.k) o).get i=some o':=e
  rw [BT.get_ins o st.T _ hg] at e'
  by_cases hi:i=st.m0+st.k
  ·subst hi
   rw [if_pos rfl] at e'
   cases e'
   refine⟨by show st.m0+st.k<st.m0+(st.k+1);lia,?_⟩
   show(s.heap.push o).get? (bm st.L st.n (st.m0+st.k))=some o
   rw [hadr,<-R.size]
   exact Heap.get?_push_size _ hf
  ·rw [if_neg hi] at e'
   have z:=R.own i o' e'
   exact⟨by show i<st.m0+(st.k+1);lia,Heap.get?_push_of_some _ z.2⟩
 ·intro i j hi hj e
  have hi':i<st.m0+(st.k+1):=hi
  have hj':j<st.m0+(st.k+1):=hj
  have e':bm st.L st.n i=bm st.L st.n j:=e
  have key:∀x,x<st.m0+st.k->bm st.L st.n x≠st.n+st.k:=by
   intro x hx
   by_cases hl:x<st.L.length
   ·have:=R.low _ (ra (n:=st.n) hl);lia
   ·rw [lU (by lia)];rw [R.len] at hl⊢;lia
  by_cases h1:i<st.m0+st.k
  ·by_cases h2:j<st.m0+st.k
   ·exact R.inj i j h1 h2 e'
   ·have:j=st.m0+st.k:=by lia
    subst this
    rw [hadr] at e'
    exact absurd e' (key i h1)
  ·have:i=st.m0+st.k:=by lia
   subst this
   by_cases h2:j<st.m0+st.k
   ·rw [hadr] at e'
    exact absurd e'.symm (key j h2)
   ·lia
 ·intro i hi
  have hi':i<st.m0+(st.k+1):=hi
  by_cases h1:i<st.m0+st.k
  ·exact R.off i h1
  ·have:i=st.m0+st.k:=by lia
   subst this
   show V.kt.get (bm st.L st.n (st.m0+st.k))=none
   rw [hadr]
   cases q:V.kt.get (st.n+st.k) with
   |none=>rfl
   |some o'=>exact absurd (Jk R q) (Nat.lt_irrefl _)
 ·intro i h1 hi
  have hi':i<st.m0+(st.k+1):=hi
  by_cases h2:i<st.m0+st.k
  ·exact R.new i h1 h2
  ·have:i=st.m0+st.k:=by lia
   subst this
   show h0.objs.size<=bm st.L st.n (st.m0+st.k)
   rw [hadr]
   exact Nat.le_trans R.h0n (le_add_right ..)
 ·have hi':i<st.m0+(st.k+1):=hi
  by_cases h1:i<st.m0+st.k
  ·exact(R.dz x hx).2.1 i h1
  ·have:i=st.m0+st.k:=by lia
   subst this
   show bm st.L st.n (st.m0+st.k)≠x.1
   rw [hadr]
   have:=Heap.lt_size (R.dz x hx).1
   rw [R.size] at this
   exact fun q=>Nat.lt_irrefl _ (q▸this)
theorem fX.update{i:Nat}{f:Obj->Obj}{o:Obj}(e:st.T.get i=some o)(hf:(f o).isFreed=false)(hi:(Nat.blt i V.mm||Nat.ble V.ro i)=true):
  fX V h0 d os {st with T:=st.T.set i f} {s with heap:=s.heap.update (bm st.L st.n i) f}:=by
 have z:=R.own _ _ e
 have hs:Heap.SameBut (bm st.L st.n i) s.heap (s.heap.update (bm st.L st.n i) f):=Heap.SameBut.update ..
 refine⟨R.len,by show(s.heap.update _ f).objs.size=_;rw [hs.1,R.size],?_,R.low,R.inj,?_,R.off,R.toks,R.gsize,R.gnew,R.gold,R.mro,R.new,?_,R.drawn,R.os,R.h0n,R.fz,fun x hx=>⟨(hs.2 x.1 fun q=>(R.dz x hx).2.1 i z.1 q.symm).trans (R.dz x hx).1,(R.dz x hx).2⟩⟩
 ·intro j o' e'
  have e':(st.T.set i f).get j=some o':=e'
  rw [BT.get_set] at e'
  by_cases hj:j=i
  ·subst hj
   rw [if_pos rfl,e] at e'
   cases e'
   refine⟨z.1,?_⟩
   show(s.heap.update (bm st.L st.n j) f).get? (bm st.L st.n j)=_
   first|exact Heap.get?_update_self f z.2 hf|exact Heap.get?_update_self _ z.2 hf
  ·rw [if_neg hj] at e'
   have y:=R.own j o' e'
   exact⟨y.1,(hs.2 _ fun q=>hj (R.inj _ _ y.1 z.1 q)).trans y.2⟩
 ·intro a o' e'
  refine(hs.2 a fun q=>?_).trans (R.kt a o' e')
  have:=R.off i z.1
  rw [<-q,e'] at this
  cases this
 ·intro b o' e' q
  refine(hs.2 b fun w=>?_).trans (R.keep b o' e' q)
  rw [Bool.or_eq_true] at hi
  rcases hi with hi|hi
  ·exact q i (le_of_ble_eq_true hi) w.symm
  ·have h1:=R.new i (le_of_ble_eq_true hi) z.1
   have h2:b<h0.objs.size:=Heap.lt_size e'
   rw [w] at h2
   exact absurd h2 (Nat.not_lt.mpr h1)
theorem fX.newGen(c:Code):fX V h0 d os {st with gl:=st.gl++[.fresh c]} {s with gens:=s.gens.push (.fresh c)}:=by
 refine⟨R.len,R.size,R.own,R.low,R.inj,R.kt,R.off,R.toks,?_,?_,?_,R.mro,R.new,R.keep,R.drawn,R.os,R.h0n,R.fz,R.dz⟩
 ·show(s.gens.push _).size=st.gb+(st.gl++[_]).length
  rw [Array.size_push,R.gsize,List.length_append];simp;lia
 ·intro j x e
  have e:(st.gl++[.fresh c])[j]? =some x:=e
  show(s.gens.push (.fresh c))[st.gb+j]? =some x
  rw [getElem?_push,R.gsize]
  by_cases hj:j<st.gl.length
  ·rw [getElem?_append_left hj] at e
   rw [if_neg (by lia)]
   exact R.gnew j x e
  ·rw [getElem?_append_right (by lia)] at e
   have:j=st.gl.length:=by
    have:=(List.getElem?_eq_some_iff.mp e).1
    simp at this;lia
   subst this
   simp at e
   rw [if_pos rfl,e]
 ·intro j x h e
  have e:(s.gens.push (.fresh c))[j]? =some x:=e
  have h:j<st.gb:=h
  rw [getElem?_push,R.gsize,if_neg (by lia)] at e
  exact R.gold j x h e
theorem fX.setGen{j:Nat}(x:GenState):fX V h0 d os {st with gl:=st.gl.set j x} (s.setGen (st.gb+j) x):=by
 refine⟨R.len,R.size,R.own,R.low,R.inj,R.kt,R.off,R.toks,?_,?_,?_,R.mro,R.new,R.keep,R.drawn,R.os,R.h0n,R.fz,R.dz⟩
 ·show(s.gens.setIfInBounds _ _).size=st.gb+(st.gl.set j x).length
  rw [Array.size_setIfInBounds,R.gsize,List.length_set]
 ·intro i y e
  have e:(st.gl.set j x)[i]? =some y:=e
  show(s.gens.setIfInBounds (st.gb+j) x)[st.gb+i]? =some y
  rw [getElem?_setIfInBounds]
  by_cases hij:j=i
  ·subst hij
   have hl:j<st.gl.length:=by
    have:=(List.getElem?_eq_some_iff.mp e).1
    simpa using this
   rw [List.getElem?_set_self hl] at e
   rw [if_pos rfl,if_pos (by rw [R.gsize];lia)];exact e
  ·rw [List.getElem?_set_ne hij] at e
   rw [if_neg (by lia)]
   exact R.gnew i y e
 ·intro i y h e
  have e:(s.gens.setIfInBounds (st.gb+j) x)[i]? =some y:=e
  have h:i<st.gb:=h
  rw [getElem?_setIfInBounds,if_neg (by lia)] at e
  exact R.gold i y h e
theorem fX.gen{j:Nat}{x:GenState}(e:st.gl[j]? =some x):s.gens[st.gb+j]? =some x:=R.gnew j x e
theorem pp{a:Addr}{h:Nat}{hs:List Nat}{F:Obj->List Nat->Prop}(H:Ka V a st h hs F):∃o hs',s.heap.get? a=some o/\F o hs':=by
 unfold Ka at H
 split at H
 ·split at H
  ·rename_i o e;exact⟨o,hs,R.kt _ _ e,H⟩
  ·exact(bn H).elim
 ·split at H
  ·split at H
   ·rename_i o e;obtain⟨rfl,H⟩:=H;exact⟨o,hs,(R.own _ _ e).2,H⟩
   ·exact(bn H).elim
  ·unfold lM at H
   split at H
   ·exact(bn H).elim
   ·split at H
    ·exact(bn H).elim
    ·split at H
     ·rename_i o e;obtain⟨rfl,rfl,H⟩:=H;exact⟨_,_,(R.own _ _ e).2,H⟩
     ·exact(bn H).elim
end
def jP(V:XV)(M:Model)(h0:Heap)(d:Drawn)(os:OsState)(Γ:Ctx)(p:Pos)(t:Sem Fin)(fs:List Frame)(s:Shared)(K:jf):Prop:=
 ∃ev hs st s',dB M Γ p t fs s ev s'/\fX V h0 d os st s'/\K ev hs st
theorem jP.step{V:XV}{M:Model}{h0:Heap}{d:Drawn}{os:OsState}{Γ:Ctx}{p p':Pos}{t t':Sem Fin}{s s₁:Shared}{K:jf}(G:jP V M h0 d os Γ p' t' [] s₁ K)
  (h:∀e s',Runs M Γ p' t' [] s₁ e s'->Runs M Γ p t [] s e s'):jP V M h0 d os Γ p t [] s K:=by
 refine gQ fun Q zQ=>?_
 obtain⟨ev,hs,st,s',r,R,k⟩:=G
 refine zQ ?_
 refine⟨ev,hs,st,s',?_,R,k⟩
 cases ev with
 |fin e=>exact h e s' r
 |again c=>
  obtain⟨a,b,q,f⟩:=r
  exact⟨a,b,q,fun e s'' x=>h e s'' (f e s'' x)⟩
end
section
variable{V:XV}{M:Model}(O:V.Ok M){h0:Heap}{d:Drawn}{os:OsState}(ih:wC)
 (IH:∀Γ p t fs hs st K s,ih Γ p t fs hs st K->fX V h0 d os st s->jP V M h0 d os Γ p t fs s K)
include O IH
theorem iV{Γ:Ctx}{p:Pos}{c:Code}{h:Option Value}{g:Bool}{l:List Value}{k:Result->Sem Fin}{hs:List Nat}{st:St}{K:jf}{s:Shared}
  (H:ih (Γ.enter c h p) p (M.den c) [] hs st (J8 ih Γ p h g l k K)) (R:fX V h0 d os st s):jP V M h0 d os Γ p (.call c h g l k) [] s K:=by
 refine gQ fun Q zQ=>?_
 obtain⟨ev,hs₁,st₁,s₁,r,R₁,k₁⟩:=IH _ _ _ _ _ _ _ s H R
 refine zQ ?_
 cases ev with
 |again=>exact(bn k₁).elim
 |fin e=>
  cases e with
  |ret x=>exact(IH _ _ _ _ _ _ _ s₁ k₁ R₁).step (fun e s' y=>Runs.call r y)
  |susp v g₀ l₀ k₀ c₀ p₀ fs₀=>exact⟨.fin _,_,_,_,Runs.callSusp r,R₁,k₁⟩
theorem pm{Γ:Ctx}{p:Pos}{c:Code}{h:Option Value}{g:Bool}{l:List Value}{k:Result->Sem Fin}{hs:List Nat}{st:St}{K:jf}{s:Shared}{v:Value}
  (H:ih (Γ.enter c h p) p (M.den c) [] hs st (Pv ih Γ p v k K)) (R:fX V h0 d os st s):jP V M h0 d os Γ p (.call c h g l k) [] s K:=by
 refine gQ fun Q zQ=>?_
 obtain⟨ev,hs₁,st₁,s₁,r,R₁,k₁⟩:=IH _ _ _ _ _ _ _ s H R
 refine zQ ?_
 cases ev with
 |again=>exact(bn k₁).elim
 |fin e=>
  cases e with
  |ret x=>
   obtain⟨rfl,k₁⟩:=k₁
   exact(IH _ _ _ _ _ _ _ s₁ k₁ R₁).step (fun e s' y=>Runs.call r y)
  |susp v g₀ l₀ k₀ c₀ p₀ fs₀=>exact(bn k₁).elim
theorem mU{Γ:Ctx}{p:Pos}{c₀:Code}{p₀:Pos}{t₀:Sem Fin}{fs₀:List Frame}{j:Nat}{g:Nat}{r:Resume}{l:List Value}{k:GenResult->Sem Fin}{hs:List Nat}{st:St}{K:jf}{s:Shared}
  (H:ih (Γ.wake c₀ p) p₀ t₀ fs₀ hs {st with gl:=st.gl.set j .running} (Ko ih Γ p g j k K)) (R:fX V h0 d os st s) (hg:g=st.gb+j)
  (F:∀e₁ s₁ e s',Runs M (Γ.wake c₀ p) p₀ t₀ fs₀ (s.setGen g .running) e₁ s₁->e₁.quiet=true->Runs M Γ p (k e₁.result) [] (s₁.setGen g e₁.genState) e s'->Runs M Γ p (.resume g r l k) [] s e s'):
  jP V M h0 d os Γ p (.resume g r l k) [] s K:=by
 have R':=R.setGen (j:=j) .running
 rw [<-hg] at R'
 refine gQ fun Q zQ=>?_
 obtain⟨ev,hs₁,st₁,s₁,r₁,R₁,k₁⟩:=IH _ _ _ _ _ _ _ _ H R'
 refine zQ ?_
 cases ev with
 |again=>exact(bn k₁).elim
 |fin e=>
  simp only [Ko] at k₁
  cases q:e.quiet with
  |false=>rw [q] at k₁;exact(bn k₁).elim
  |true=>
   rw [q] at k₁
   dsimp only at k₁
   split at k₁
   ·exact(bn k₁).elim
   obtain⟨hg₁,k₁⟩:=k₁
   have R₂:=R₁.setGen (j:=j) e.genState
   have hg₁:g=st₁.gb+j:=hg₁
   rw [<-hg₁] at R₂
   exact(IH _ _ _ _ _ _ _ _ k₁ R₂).step (fun e' s' y=>F e s₁ e' s' r₁ q y)
theorem pj{Γ:Ctx}{p:Pos}{c':Code}{hs:List Nat}{st:St}{K:jf}{s:Shared}(q:c'.quiet=true)(H:OI V ih Γ p c' hs st K)(R:fX V h0 d os st s):jP V M h0 d os Γ p (.pure (.again c')) [] s K:=by
 have go:∀hs,ih (Γ.goto c') p (V.den c') [] hs st K->jP V M h0 d os Γ p (.pure (.again c')) [] s K:=by
  intro hs H
  rw [O.den] at H
  obtain⟨ev,hs₁,st₁,s₁,r,R₁,k₁⟩:=IH _ _ _ _ _ _ _ s H R
  refine⟨ev,hs₁,st₁,s₁,?_,R₁,k₁⟩
  cases ev with
  |fin e=>exact Runs.again q r
  |again c=>
   obtain⟨a,b,p',f⟩:=r
   exact⟨rfl,b,p',fun e s'' x=>Runs.again q (f e s'' x)⟩
 unfold OI at H
 split at H
 ·exact go _ H
 ·split at H
  ·exact go _ H
  ·split at H
   ·exact⟨.again c',_,st,s,⟨rfl,q,p,fun e s'' x=>Runs.again q x⟩,R,H⟩
   ·split at H
    ·obtain⟨hc,H⟩:=H
     obtain⟨ev,hs₁,st₁,s₁,r,R₁,k₁⟩:=IH _ _ _ _ _ _ _ s H R
     cases ev with
     |again c=>exact(bn k₁).elim
     |fin e=>
      cases e with
      |ret x=>refine⟨_,hs₁,st₁,s₁,?_,R₁,k₁⟩;exact Runs.again q (O.al _ h0 d os (Γ.goto c') c' st s p _ _ hc rfl R r)
      |susp=>exact(bn k₁).elim
    ·split at H
     ·exact go _ H
     ·split at H
      ·obtain⟨r,st',s',y,R',k'⟩:=O.sm _ h0 d os _ p c' st _ s H rfl R
       exact⟨.fin (.ret r),_,st',s',Runs.again q y,R',k'⟩
      ·exact go _ H
theorem xu{Γ:Ctx}{p:Pos}{c:Code}{h:Option Value}{g:Bool}{l:List Value}{k:Result->Sem Fin}{hs:List Nat}{st:St}{K:jf}{s:Shared}
  (H:OJ V ih Γ p c h g l k hs st K) (R:fX V h0 d os st s):jP V M h0 d os Γ p (.call c h g l k) [] s K:=by
 unfold OJ at H
 rw [O.den] at H
 split at H
 ·exact iV O ih IH H R
 ·split at H
  ·split at H
   ·obtain⟨hc,H⟩:=H
    obtain⟨ev,hs₁,st₁,s₁,r,R₁,k₁⟩:=IH _ _ _ _ _ _ _ s H R
    cases ev with
    |again=>exact(bn k₁).elim
    |fin e=>
     cases e with
     |ret x=>exact(IH _ _ _ _ _ _ _ s₁ k₁ R₁).step (fun e s' y=>Runs.call (O.al _ h0 d os (Γ.enter c h p) c st s p _ _ hc rfl R r) y)
     |susp v g₀ l₀ k₀ c₀ p₀ fs₀=>exact(bn k₁).elim
   ·split at H
    ·exact iV O ih IH H R
    ·exact iV O ih IH H R
  ·split at H
   ·obtain⟨r,st',s',y,R',k'⟩:=O.sm _ h0 d os _ p c st _ s H rfl R
    exact(IH _ _ _ _ _ _ _ s' k' R').step (fun e s'' x=>Runs.call y x)
   ·exact pm O ih IH H R
theorem rY{Γ:Ctx}{p:Pos}{t:Sem Fin}{hs:List Nat}{st:St}{K:jf}{s:Shared}(H:gw V ih Γ p t hs st K)(R:fX V h0 d os st s):jP V M h0 d os Γ p t [] s K:=by
 cases t with
 |pure fin=>
  cases fin with
  |done f=>exact⟨.fin (.ret (.ok f)),_,st,s,Runs.done,R,H⟩
  |again c'=>
   simp only [gw] at H
   cases q:c'.quiet with
   |false=>rw [q] at H;exact(bn H).elim
   |true=>rw [q] at H;exact pj O ih IH q H R
 |raise e=>exact⟨.fin (.ret (.error e)),_,st,s,Runs.raise,R,H⟩
 |rule tag k=>exact(IH _ _ _ _ _ _ _ s H R).step (fun e s' y=>.rule y)
 |«at» p' k=>exact(IH _ _ _ _ _ _ _ s H R).step (fun e s' y=>.at y)
 |point l k=>exact(IH _ _ _ _ _ _ _ s H R).step (fun e s' y=>.point y)
 |ask k=>
  simp only [gw] at H
  rw [O.prog,O.w] at H
  exact(IH _ _ _ _ _ _ _ s H R).step (fun e s' y=>.ask y)
 |load a q k=>
  simp only [gw] at H
  unfold lM at H
  split at H
  ·exact(bn H).elim
  ·obtain⟨o,hs',ho,H⟩:=pp R H
   exact(IH _ _ _ _ _ _ _ s H R).step (fun e s' y=>.load ho y)
 |loadIfAlive a k=>
  simp only [gw] at H
  unfold lM at H
  split at H
  ·exact(bn H).elim
  ·obtain⟨o,hs',ho,H⟩:=pp R H
   exact(IH _ _ _ _ _ _ _ s H R).step (fun e s' y=>.loadIfAlive (by rw [ho];exact y))
 |alloc o k=>
  simp only [gw] at H
  split at H
  ·exact(bn H).elim
  ·rename_i hf
   split at H
   ·rename_i hg
    have R':=R.alloc hf hg
    have ea:s.heap.objs.size=Nat.add st.n st.k:=R.size
    rw [<-ea] at H
    exact(IH _ _ _ _ _ _ _ _ H R').step (fun e s' y=>.alloc y)
   ·exact(bn H).elim
 |update a q f k=>
  simp only [gw] at H
  unfold lM at H
  split at H
  ·exact(bn H).elim
  ·split at H
   ·exact(bn H).elim
   ·split at H
    ·rename_i o e
     split at H
     ·exact(bn H).elim
     ·rename_i hf
      split at H
      ·rename_i hi
       obtain⟨rfl,H⟩:=H
       have R':=R.update e hf hi
       exact(IH _ _ _ _ _ _ _ _ H R').step (fun e' s' y=>.update (by rw [(R.own _ _ e).2];rfl) y)
      ·exact(bn H).elim
    ·exact(bn H).elim
 |fresh k=>
  have e:s.toks=Nat.add st.tb st.ti:=R.toks
  simp only [gw] at H
  rw [<-e] at H
  exact(IH _ _ _ _ _ _ _ _ H R.toks').step (fun e s' y=>.fresh y)
 |handled own k=>
  refine(IH _ _ _ _ _ _ _ s H R).step (fun e s' y=>.handled ?_)
  cases own<;>exact y
 |stack k=>exact(IH _ _ _ _ _ _ _ s H R).step (fun e s' y=>.stack y)
 |call c h g l k=>exact xu O ih IH H R
 |newGen c' k=>
  have e:s.gens.size=Nat.add st.gb st.gl.length:=R.gsize
  simp only [gw] at H
  rw [<-e] at H
  exact(IH _ _ _ _ _ _ _ _ H (R.newGen c')).step (fun e s' y=>.newGen y)
 |genState g k=>
  simp only [gw] at H
  unfold Di lM at H
  split at H
  ·exact(bn H).elim
  ·rename_i hd tl
   revert H
   generalize hd-500=j
   intro H
   split at H
   ·rename_i x e
    obtain⟨rfl,H⟩:=H
    exact(IH _ _ _ _ _ _ _ s H R).step (fun e' s' y=>.genState (R.gen e) y)
   ·exact(bn H).elim
 |resume g r l k=>
  simp only [gw] at H
  unfold Di lM at H
  split at H
  ·exact(bn H).elim
  ·rename_i hd tl
   revert H
   generalize hd-500=j
   intro H
   split at H
   ·rename_i x e
    obtain⟨hg,H⟩:=H
    have hg:g=st.gb+_:=hg
    have eg:=R.gen e
    rw [<-hg] at eg
    split at H
    ·split at H
     ·split at H
      ·rw [O.den] at H
       exact mU O ih IH H R hg (fun e₁ s₁ e s' y q z=>.resumeFresh eg y q z)
      ·exact(bn H).elim
     ·exact(bn H).elim
    ·exact mU O ih IH H R hg (fun e₁ s₁ e s' y q z=>.resumeSuspended eg y q z)
    ·exact(bn H).elim
    ·exact(IH _ _ _ _ _ _ _ s H R).step (fun e s' y=>.resumeFinished eg y)
   ·exact(bn H).elim
 |«yield» v g l k=>exact⟨.fin _,_,st,s,Runs.yield,R,H⟩
 |thread k=>exact(IH _ _ _ _ _ _ _ s H R).step (fun e s' y=>.thread y)
 |unsupported=>exact(bn H).elim
 |finish=>exact(bn H).elim
 |register=>exact(bn H).elim
 |choose=>exact(bn H).elim
 |os=>exact(bn H).elim
 |fork=>exact(bn H).elim
 |await=>exact(bn H).elim
theorem pQ(Γ:Ctx)(p:Pos)(t:Sem Fin)(fs:List Frame)(hs:List Nat)(st:St)(K:jf)(s:Shared)(H:DW V ih Γ p t fs hs st K)(R:fX V h0 d os st s):jP V M h0 d os Γ p t fs s K:=by
 cases fs with
 |nil=>exact rY O ih IH H R
 |cons f fs=>
  obtain⟨ev,hs₁,st₁,s₁,r,R₁,k₁⟩:=IH _ _ _ _ _ _ _ s H R
  cases ev with
  |again=>exact(bn k₁).elim
  |fin e=>
   cases e with
   |ret x=>
    cases f with
    |gen=>exact(bn k₁).elim
    |ret k h g l c₁ p₁ kp=>
     obtain⟨ev,hs₂,st₂,s₂,r₂,R₂,k₂⟩:=IH _ _ _ _ _ _ _ s₁ k₁ R₁
     cases ev with
     |fin e=>exact⟨.fin e,_,_,_,Runs.segRet r r₂,R₂,k₂⟩
     |again c=>exact(bn k₂).elim
   |susp v g₀ l₀ k₀ c₀ p₀ fs₀=>
    simp only [Qi] at k₁
    split at k₁
    ·rename_i hn
     exact⟨.fin _,_,_,_,Runs.segSuspOut hn r,R₁,k₁⟩
    ·exact(bn k₁).elim
end
theorem gY{V:XV}{M:Model}(O:V.Ok M){h0:Heap}{d:Drawn}{os:OsState}:∀N Γ p t fs hs st K s,ch V N Γ p t fs hs st K->fX V h0 d os st s->jP V M h0 d os Γ p t fs s K
 |0,_,_,_,_,_,_,_,_,H,_=>(bn H).elim
 |N+1,Γ,p,t,fs,hs,st,K,s,H,R=>pQ O (ch V N) (gY O N) Γ p t fs hs st K s H R
end
noncomputable def eD(P:Params):KT:=(KT.node (some (o0 P)) (KT.node (some (o1 P)) (KT.node (some (o3 P)) (KT.node (some (o7 P)) (KT.node (some (JC P)) (KT.node (some (KU P)) (KT.node (some (JL P)) (KT.node (some (By P)) .nil .nil) (KT.node (some (Ds P)) .nil .nil)) (KT.node (some (J4 P)) (KT.node (some (Ca P)) .nil .nil) (KT.node (some (Gj P)) .nil .nil))) (KT.node (some (Ku P)) (KT.node (some (KA P)) (KT.node (some (AY P)) .nil .nil) (KT.node (some (GP P)) .nil .nil)) (KT.node (some (Bz P)) (KT.node (some (Bk P)) .nil .nil) (KT.node (some (GE P)) .nil .nil)))) (KT.node (some (Ke P)) (KT.node (some (KZ P)) (KT.node (some (Kt P)) (KT.node (some (BJ P)) .nil .nil) (KT.node (some (G5 P)) .nil .nil)) (KT.node (some (Dt P)) (KT.node (some (CL P)) .nil .nil) (KT.node (some (BX P)) .nil .nil))) (KT.node (some (KK P)) (KT.node (some (Ju P)) (KT.node (some (Dj P)) .nil .nil) (KT.node (some (Fi P)) .nil .nil)) (KT.node (some (CJ P)) (KT.node (some (BQ P)) .nil .nil) KT.nil)))) (KT.node (some (Lt P)) (KT.node (some (Lm P)) (KT.node (some (Js P)) (KT.node (some (Lg P)) (KT.node (some (CK P)) .nil .nil) (KT.node (some (BN P)) .nil .nil)) (KT.node (some (JB P)) (KT.node (some (BU P)) .nil .nil) (KT.node (some (FU P)) .nil .nil))) (KT.node (some (La P)) (KT.node (some (KI P)) (KT.node none .nil .nil) (KT.node (some (Fq P)) .nil .nil)) (KT.node (some (AV P)) (KT.node (some (AI P)) .nil .nil) (KT.node (some (Cx P)) .nil .nil)))) (KT.node (some (Jp P)) (KT.node (some (JW P)) (KT.node (some (KY P)) (KT.node (some (DC P)) .nil .nil) (KT.node (some (GD P)) .nil .nil)) (KT.node (some (BF P)) (KT.node (some (Cm P)) .nil .nil) (KT.node (some (F1 P)) .nil .nil))) (KT.node (some (K6 P)) (KT.node (some (KS P)) (KT.node (some (A2 P)) .nil .nil) (KT.node (some (Cg P)) .nil .nil)) (KT.node (some (A9 P)) (KT.node (some (A5 P)) .nil .nil) KT.nil))))) (KT.node (some (o5 P)) (KT.node (some (o9 P)) (KT.node (some (KV P)) (KT.node (some (Jr P)) (KT.node (some (J6 P)) (KT.node (some (Bw P)) .nil .nil) (KT.node (some (A8 P)) .nil .nil)) (KT.node (some (KG P)) (KT.node (some (AF P)) .nil .nil) (KT.node (some (Fo P)) .nil .nil))) (KT.node (some (JY P)) (KT.node (some (Lu P)) (KT.node (some (C0 P)) .nil .nil) (KT.node (some (Fg P)) .nil .nil)) (KT.node (some (DB P)) (KT.node (some (Bl P)) .nil .nil) (KT.node (some (F8 P)) .nil .nil)))) (KT.node (some (Jx P)) (KT.node (some (Lp P)) (KT.node (some (K0 P)) (KT.node (some (AJ P)) .nil .nil) (KT.node (some (GZ P)) .nil .nil)) (KT.node (some (Bq P)) (KT.node (some (Bf P)) .nil .nil) (KT.node (some (F0 P)) .nil .nil))) (KT.node (some (KO P)) (KT.node (some (Lo P)) (KT.node (some (Dd P)) .nil .nil) (KT.node (some (Gw P)) .nil .nil)) (KT.node (some (AL P)) (KT.node (some (Cp P)) .nil .nil) KT.nil)))) (KT.node (some (KB P)) (KT.node (some (JH P)) (KT.node (some (Kg P)) (KT.node (some (JJ P)) (KT.node (some (CB P)) .nil .nil) (KT.node (some (zi P)) .nil .nil)) (KT.node (some (AT P)) (KT.node (some (AZ P)) .nil .nil) (KT.node (some (GQ P)) .nil .nil))) (KT.node (some (J2 P)) (KT.node (some (KL P)) (KT.node (some (AC P)) .nil .nil) (KT.node (some (Ha P)) .nil .nil)) (KT.node (some (A4 P)) (KT.node (some (Bi P)) .nil .nil) KT.nil))) (KT.node (some (JX P)) (KT.node (some (Jq P)) (KT.node (some (KN P)) (KT.node (some (Bj P)) .nil .nil) (KT.node (some (Fs P)) .nil .nil)) (KT.node (some (AB P)) (KT.node (some (Bx P)) .nil .nil) (KT.node (some (Gm P)) .nil .nil))) (KT.node (some (Kq P)) (KT.node (some (KX P)) (KT.node (some (CN P)) .nil .nil) (KT.node (some (GR P)) .nil .nil)) (KT.node (some (Cw P)) (KT.node (some (Bn P)) .nil .nil) KT.nil)))))) (KT.node (some (o2 P)) (KT.node (some (o4 P)) (KT.node (some (o8 P)) (KT.node (some (JE P)) (KT.node (some (Lw P)) (KT.node (some (Jn P)) (KT.node (some (Bb P)) .nil .nil) (KT.node (some (Ax P)) .nil .nil)) (KT.node (some (Km P)) (KT.node (some (Bp P)) .nil .nil) (KT.node (some (Hg P)) .nil .nil))) (KT.node (some (Kl P)) (KT.node (some (Ky P)) (KT.node (some (CP P)) .nil .nil) (KT.node (some (He P)) .nil .nil)) (KT.node (some (C1 P)) (KT.node (some (AR P)) .nil .nil) (KT.node (some (FY P)) .nil .nil)))) (KT.node (some (Lr P)) (KT.node (some (Ld P)) (KT.node (some (KH P)) (KT.node (some (Dw P)) .nil .nil) (KT.node (some (FZ P)) .nil .nil)) (KT.node (some (Cc P)) (KT.node (some (Cs P)) .nil .nil) (KT.node (some (EO P)) .nil .nil))) (KT.node (some (Lc P)) (KT.node (some (Kv P)) (KT.node (some (Df P)) .nil .nil) (KT.node (some (GU P)) .nil .nil)) (KT.node (some (Az P)) (KT.node (some (BH P)) .nil .nil) KT.nil)))) (KT.node (some (NJ P)) (KT.node (some (J7 P)) (KT.node (some (Kk P)) (KT.node (some (K8 P)) (KT.node (some (CD P)) .nil .nil) (KT.node (some (AG P)) .nil .nil)) (KT.node (some (CE P)) (KT.node (some (Db P)) .nil .nil) (KT.node (some (GG P)) .nil .nil))) (KT.node (some (Jw P)) (KT.node (some (Lv P)) (KT.node (some (DJ P)) .nil .nil) (KT.node (some (Gi P)) .nil .nil)) (KT.node (some (CC P)) (KT.node (some (BM P)) .nil .nil) KT.nil))) (KT.node (some (Ll P)) (KT.node (some (JT P)) (KT.node (some (Ki P)) (KT.node none .nil .nil) (KT.node (some (FI P)) .nil .nil)) (KT.node (some (B9 P)) (KT.node (some (AX P)) .nil .nil) (KT.node (some (F6 P)) .nil .nil))) (KT.node (some (K5 P)) (KT.node (some (KQ P)) (KT.node (some (Cj P)) .nil .nil) (KT.node (some (FW P)) .nil .nil)) (KT.node (some (BZ P)) (KT.node (some (CT P)) .nil .nil) KT.nil))))) (KT.node (some (o6 P)) (KT.node (some (JU P)) (KT.node (some (J0 P)) (KT.node (some (JV P)) (KT.node (some (JM P)) (KT.node (some (B8 P)) .nil .nil) (KT.node (some (BA P)) .nil .nil)) (KT.node (some (Ln P)) (KT.node (some (Ct P)) .nil .nil) (KT.node (some (FO P)) .nil .nil))) (KT.node (some (KR P)) (KT.node (some (Jv P)) (KT.node (some (Bo P)) .nil .nil) (KT.node (some (GL P)) .nil .nil)) (KT.node (some (Dc P)) (KT.node (some (CV P)) .nil .nil) (KT.node (some (F7 P)) .nil .nil)))) (KT.node (some (Ls P)) (KT.node (some (Jo P)) (KT.node (some (Li P)) (KT.node (some (Bh P)) .nil .nil) (KT.node (some (EM P)) .nil .nil)) (KT.node (some (Bg P)) (KT.node (some (AO P)) .nil .nil) (KT.node (some (Fj P)) .nil .nil))) (KT.node (some (Kz P)) (KT.node (some (Lh P)) (KT.node (some (Cn P)) .nil .nil) (KT.node (some (GY P)) .nil .nil)) (KT.node (some (CA P)) (KT.node (some (DF P)) .nil .nil) KT.nil)))) (KT.node (some (JK P)) (KT.node (some (JG P)) (KT.node (some (Kh P)) (KT.node (some (J3 P)) (KT.node (some (CH P)) .nil .nil) (KT.node (some (EN P)) .nil .nil)) (KT.node (some (Bv P)) (KT.node (some (Cb P)) .nil .nil) (KT.node (some (Ff P)) .nil .nil))) (KT.node (some (Kd P)) (KT.node (some (Kn P)) (KT.node (some (Cl P)) .nil .nil) (KT.node (some (B1 P)) .nil .nil)) (KT.node (some (BB P)) (KT.node (some (DG P)) .nil .nil) KT.nil))) (KT.node (some (J5 P)) (KT.node (some (KD P)) (KT.node (some (JF P)) (KT.node (some (AN P)) .nil .nil) (KT.node (some (G8 P)) .nil .nil)) (KT.node (some (CR P)) (KT.node (some (Cf P)) .nil .nil) (KT.node (some (BP P)) .nil .nil))) (KT.node (some (Kp P)) (KT.node (some (JA P)) (KT.node (some (BY P)) .nil .nil) (KT.node (some (FX P)) .nil .nil)) (KT.node (some (AE P)) (KT.node (some (C7 P)) .nil .nil) KT.nil)))))))
noncomputable def PF:Option Obj->Nat
 |some _=>1
 |none=>0
noncomputable def Qc:Nat->Nat
 |0=>0
 |n+1=>2*(n+1)+1
noncomputable def gz:KT->Nat
 |.nil=>0
 |.node v l r=>Nat.max (PF v) (Nat.max (2*gz l) (Qc (gz r)))
theorem jQ:∀(t:KT) (i:Nat) (o:Obj),t.get i=some o->i<gz t
 |.nil,_,_,e=>by cases e
 |.node v l r,i,o,e=>by
  rw [KT.get_node] at e
  have h1:PF v<=gz (.node v l r):=Nat.le_max_left ..
  have h2:2*gz l<=gz (.node v l r):=Nat.le_trans (Nat.le_max_left ..) (Nat.le_max_right ..)
  have h3:Qc (gz r)<=gz (.node v l r):=Nat.le_trans (Nat.le_max_right ..) (Nat.le_max_right ..)
  by_cases h0:i=0
  ·rw [if_pos h0] at e
   subst e
   have:1<=gz (.node (some o) l r):=h1
   lia
  ·rw [if_neg h0] at e
   by_cases p:i % 2=1
   ·rw [if_pos p] at e
    have:=jQ l _ _ e
    lia
   ·rw [if_neg p] at e
    have z:=jQ r _ _ e
    revert h3
    cases q:gz r with
    |zero=>lia
    |succ n=>intro h3;have:2*(n+1)+1<=gz (.node v l r):=h3;lia
theorem Cr(P:Params):gz (eD P)=244:=by kernel_rfl
noncomputable def Je(h:Heap):Nat->Nat->Nat->KT
 |0,_,_=>.nil
 |n+1,s,b=>match h.get? b with
  |none=>.nil
  |some o=>.node (if(b==140||b==147)=true then none else some o) (Je h n (2*s) (s+b)) (Je h n (2*s) (2*s+b))
theorem rN(h:Heap):∀n s b,KT.Holds h s b (Je h n s b)
 |0,_,_=>trivial
 |n+1,s,b=>by
  unfold Je
  split
  ·trivial
  ·rename_i o e
   refine⟨fun x hx=>?_,rN h n _ _,rN h n _ _⟩
   split at hx
   ·cases hx
   ·exact e.trans hx
theorem un(P:Params):KT.Holds (dA P) 1 0 (eD P):=by
 have e:Je (dA P) 9 1 0=eD P:=by kernel_rfl
 exact e▸rN _ _ _ _
theorem tV{P:Params}{a:Nat}{o:Obj}(e:(eD P).get a=some o):a<244/\a≠140/\a≠147/\(dA P).get? a=some o:=by
 have h:=jQ _ _ _ e
 rw [Cr] at h
 have g:=(un P).get e
 rw [Nat.one_mul,Nat.add_zero] at g
 refine⟨h,?_,?_,g⟩
 ·rintro rfl;cases(show(none:Option Obj)=some o from e)
 ·rintro rfl;cases(show(none:Option Obj)=some o from e)
noncomputable def yZ:Nat->List Obj->BT->BT
 |_,[],t=>t
 |k,o::l,t=>yZ (k+1) l (t.ins k o)
noncomputable def Jj(l:List Obj):BT:=yZ 0 l .nil
theorem lG(o:Obj):∀(t:BT) (k:Nat),(∀i,(t.get i).isSome=true↔i<k)->((t.ins k o).get k).isSome=true
 |.nil,k,h=>by
  have:k=0:=by
   cases k with
   |zero=>rfl
   |succ k=>have:=(h 0).mpr (by lia);simp [BT.get] at this
  subst this;rfl
 |.node v l r,k,h=>by
  have h0:0<k:=(h 0).mp rfl
  rw [BT.ins_node,if_neg (by lia)]
  by_cases p:k % 2=1
  ·rw [if_pos p,BT.get_node,if_neg (by lia),if_pos p]
   refine lG o l (k/2) fun i=>?_
   have z:=h (2*i+1)
   rw [BT.get_node,if_neg (by lia),if_pos (by lia),show(2*i+1)/2=i by lia] at z
   rw [z];lia
  ·rw [if_neg p,BT.get_node,if_neg (by lia),if_neg p]
   refine lG o r (k/2-1) fun i=>?_
   have z:=h (2*i+2)
   rw [BT.get_node,if_neg (by lia),if_neg (by lia),show(2*i+2)/2-1=i by lia] at z
   rw [z];lia
theorem mN:∀(l:List Obj) (k:Nat) (t:BT),(∀i,(t.get i).isSome=true↔i<k)->∀i o,(yZ k l t).get i=some o->(i<k/\t.get i=some o)\/(k<=i/\l[i-k]? =some o)
 |[],k,t,h,i,o,e=>.inl ⟨(h i).mp (by rw [show t.get i=some o from e];rfl),e⟩
 |x::l,k,t,h,i,o,e=>by
  have hi:=lG x t k h
  have h':∀i,((t.ins k x).get i).isSome=true↔i<k+1:=by
   intro i
   rw [BT.get_ins x t k hi]
   by_cases q:i=k
   ·subst q;simp
   ·rw [if_neg q,h i];omega
  rcases mN l (k+1) (t.ins k x) h' i o e with⟨a,b⟩|⟨a,b⟩
  ·rw [BT.get_ins x t k hi] at b
   by_cases q:i=k
   ·subst q
    rw [if_pos rfl] at b
    exact .inr ⟨Nat.le_refl _,by rw [Nat.sub_self];exact b⟩
   ·rw [if_neg q] at b
    exact .inl ⟨by omega,b⟩
  ·refine .inr ⟨by omega,?_⟩
   rw [show i-k=(i-(k+1))+1 by omega]
   exact b
theorem zt{l:List Obj}{i:Nat}{o:Obj}(e:(Jj l).get i=some o):l[i]? =some o:=by
 rcases mN l 0 .nil (fun i=>by simp [BT.get]) i o e with⟨a,_⟩|⟨_,b⟩
 ·lia
 ·exact b
noncomputable abbrev W2(w:World)(b1 b2:Bool):World:=(w.withFollow "special-get-raises" b1).withFollow "comprehension-iter-twice" b2
structure WW where
 w:World
 b1:Bool
 b2:Bool
noncomputable abbrev Vw(W:WW):World:=W2 W.w W.b1 W.b2
noncomputable abbrev pW(W:WW):Params:=(Vw W).params
abbrev df:=Nat×Obj
abbrev ae:=List df
def cG:ae->Heap->Prop
 |[],_=>True
 |x::E,h=>h.get? x.1=some x.2/\cG E h
theorem cG.get:∀{E:ae} {h:Heap},cG E h->∀{i:Nat} {x:Nat×Obj},E[i]? =some x->h.get? x.1=some x.2
 |[],_,_,i,_,e=>by simp at e
 |y::E,h,H,0,x,e=>by simp at e;subst e;exact H.1
 |y::E,h,H,i+1,x,e=>cG.get H.2 (i:=i) (by simpa using e)
structure cL(P:Params)(s:Shared):Prop where
 base:∀a o,(eD P).get a=some o->s.heap.get? a=some o
 gens:∀(j:Nat) (x:GenState),s.gens[j]? =some x->x=.finished
 size:245<=s.heap.objs.size
 toks:677<=s.toks
noncomputable abbrev qR(E:ae)(n tb gb:Nat):St:=⟨E.map (·.1),E.length,n,0,Jj (E.map (·.2)),tb,0,gb,[],[]⟩
def ES(a:Nat):Prop:=244<=a\/a=140\/a=147
theorem jc{P:Params}{a:Nat}(h:ES a):(eD P).get a=none:=by
 cases q:(eD P).get a with
 |none=>rfl
 |some o=>
  have z:=tV q
  rcases h with h|h|h<;>lia
theorem g4:∀{E:ae} {n i:Nat} {x:Nat×Obj},E[i]? =some x->bm (E.map (·.1)) n i=x.1
 |[],_,i,_,e=>by simp at e
 |y::E,n,0,x,e=>by simp at e;subst e;rfl
 |y::E,n,i+1,x,e=>g4 (E:=E) (n:=n) (i:=i) (by simpa using e)
theorem zG{V:XV}{P:Params}{E:ae}{n tb gb:Nat}{s:Shared}(hk:V.kt=eD P)(hm:V.mm=E.length)(hr:V.ro=E.length)(hR:cL P s)(hH:cG E s.heap)(nd:(E.map (·.1)).Nodup)
  (lo:∀a∈E.map (·.1),(eD P).get a=none) (hn:s.heap.objs.size=n) (ht:s.toks=tb) (hg:s.gens.size=gb) (hf:∀x∈V.fz,s.heap.get? x.1=some x.2/\x.1∉E.map (·.1)):fX V s.heap s.drawn s.os (qR E n tb gb) s:=by
 have low:∀a∈E.map (·.1),a<n:=by
  intro a ha
  obtain⟨x,hx,rfl⟩:=List.mem_map.mp ha
  obtain⟨i,hi⟩:=List.mem_iff_getElem?.mp hx
  rw [<-hn];exact Heap.lt_size (hH.get hi)
 have aa:∀i,i<E.length->∃x,E[i]? =some x:=fun i hi=>⟨_,List.getElem?_eq_getElem hi⟩
 refine⟨by simp,by simpa using hn,?_,low,?_,fun a o e=>hR.base a o (by rw [hk] at e;exact e),?_,by simpa using ht,by simpa using hg,by intro j x e;simp at e,?_,?_,?_,fun b o e _=>e,rfl,rfl,?_,?_,fun x hx=>nomatch hx⟩
 ·intro i o e
  have z:=zt e
  rw [getElem?_map] at z
  obtain⟨x,hx,rfl⟩:=Option.map_eq_some_iff.mp z
  have hi:=(List.getElem?_eq_some_iff.mp hx).1
  refine⟨by simpa using hi,?_⟩
  show s.heap.get? (bm (E.map (·.1)) n i)=_
  rw [g4 hx];exact hH.get hx
 ·intro i j hi hj e
  obtain⟨x,hx⟩:=aa i (by simpa using hi)
  obtain⟨y,hy⟩:=aa j (by simpa using hj)
  have e:bm (E.map (·.1)) n i=bm (E.map (·.1)) n j:=e
  rw [g4 hx,g4 hy] at e
  have hx':(E.map (·.1))[i]? =some x.1:=by rw [getElem?_map,hx];rfl
  have hy':(E.map (·.1))[j]? =some x.1:=by rw [getElem?_map,hy,e];rfl
  exact(getElem?_inj (by simpa using hi) nd).mp (hx'.trans hy'.symm)
 ·intro i hi
  obtain⟨x,hx⟩:=aa i (by simpa using hi)
  show V.kt.get (bm (E.map (·.1)) n i)=none
  rw [g4 hx,hk]
  exact lo x.1 (List.mem_map.mpr ⟨x,mem_of_getElem? hx,rfl⟩)
 ·intro j x _ e;exact hR.gens j x e
 ·rw [hm,hr];exact⟨Nat.le_refl _,Nat.le_refl _⟩
 ·intro i h1 hi
  rw [hr] at h1
  simp at hi;lia
 ·rw [<-hn];exact Nat.le_refl _
 ·intro x hx
  refine⟨(hf x hx).1,fun i hi q=>(hf x hx).2 ?_⟩
  rw [hm] at hi
  obtain⟨y,hy⟩:=aa i hi
  have q:bm (E.map (·.1)) n i=x.1:=q
  rw [g4 hy] at q
  exact List.mem_map.mpr ⟨y,mem_of_getElem? hy,q⟩
def ad(L:List Nat)(n gb:Nat):List Nat->Prop->Prop
 |[],R=>R
 |h::hs,R=>match h with
  |0=>ad L n gb hs R
  |i+1=>match Nat.ble 500 (i+1) with
   |true=>Nat.add gb (i+1-500)=Nat.add gb (i+1-500)/\ad L n gb hs R
   |false=>bm L n i=bm L n i/\ad L n gb hs R
theorem ag{L:List Nat}{n gb:Nat}{R:Prop}(r:R):∀hs,ad L n gb hs R
 |[]=>r
 |0::hs=>ag r hs
 |(i+1)::hs=>by
  show(match Nat.ble 500 (i+1) with|true=>_/\ad L n gb hs R|false=>_/\ad L n gb hs R)
  split
  ·exact⟨rfl,ag r hs⟩
  ·exact⟨rfl,ag r hs⟩
noncomputable def ma:GenState->Bool
 |.finished=>true
 |_=>false
section
structure PK where
 ld:Env->Str->Sem Value
 ity:Value->Sem Bool
 cl:Value->List Value->Sem Value
 fd:Value->Sem FuncData
 fld:Value->Nat->Sem Value
 sup:Env->Pos->Expr->Str->Pos->Pos->List Expr->List Keyword->Value->Sem Value
 ex:List Stmt->Env->Sem Flow
 lv:Env->Value->Sem Unit
 dv:Expr->Pos->Value->Sem Flow
 sw:Expr->Option Expr->Nat->Env->Sem Bool
 ia:Env->Bool
noncomputable def D7:PK:=⟨loadName,isType,fun f l=>call f l,funcData,field,fun env p1 o name apos pos args kws ov=>methodCall o name apos pos env ov (args.length+kws.length) (backTo pos (starEach args env)) (backToKw pos (keywordEach kws env)),
 execs,leaving,dropValue,swapsWith,interactive⟩
noncomputable def Mr:PK:=⟨Fast.tw8468629109055619292,Fast.tw10380811246957099773,fun f l=>Fast.tw11478286150595567475 f l,Fast.tw16755525298939948312,Fast.tw6609576154772507232,
 fun env p1 o name apos pos args kws ov=>Fast.tw13401596951702201221 o name apos pos env ov (args.length+kws.length) (Fast.tw4897270859577272712 pos (Fast.tw13897175071876407860 args env)) (Fast.tw621762911399731506 pos (Fast.tw11621922129505618389 kws env)),
 Fast.tw12563942051412417395,Fast.tw9442747609961115081,Fast.tw12372662630863984472,Fast.tw17223243974762974889,Fast.tw15112477048112897374⟩
theorem IR:Mr=D7:=by
 unfold Mr D7
 simp only [<-Fast.te8468629109055619292,<-Fast.te10380811246957099773,<-Fast.te11478286150595567475,<-Fast.te16755525298939948312,<-Fast.te6609576154772507232,<-Fast.te13401596951702201221,<-Fast.te4897270859577272712,<-Fast.te13897175071876407860,
  <-Fast.te621762911399731506,<-Fast.te11621922129505618389,<-Fast.te12563942051412417395,<-Fast.te9442747609961115081,<-Fast.te12372662630863984472,<-Fast.te17223243974762974889,<-Fast.te15112477048112897374]
section
variable(k:PK)
noncomputable def Eg(env:Env)(p1:Pos)(x:Str):Sem Value:=do
 rule "super.attribute-form"
 standAt p1
 let g<-k.ld env "super"
 let cls<-k.ld env "__class__"
 let self<-k.ld env x
 let t<-k.ity cls
 if g==.type "super"&&t then k.cl g [cls,self] else unsupported ""
noncomputable def tG(env:Env)(p1:Pos)(x:Str)(pr:Program)(file:Value):Sem Value:=match file with
 |.str file _=>if pr.main.file==file&& !(pr.main.scope.names.lookup ("super":Str)).isSome then Eg k env p1 x else unsupported ""
 |_=>unsupported ""
noncomputable def oM(env:Env)(p1:Pos):Sem Value:=match env.func,env.code with
 |some f,.ref cc=>do
  let fd<-k.fd (.ref f)
  match(fd.params.posonlyargs++fd.params.args).head? with
  |none=>unsupported ""
  |some ar=>do
   let a<-ask
   let file<-k.fld (.ref cc) 2
   tG k env p1 ar.arg a.program file
 |_,_=>unsupported ""
noncomputable def sY(env:Env)(p1:Pos)(o:Expr)(name:Str)(apos pos:Pos)(args:List Expr)(kws:List Keyword):Sem Value:=do
 let ov<-oM k env p1
 standAt apos.atName
 k.sup env p1 o name apos pos args kws ov
noncomputable def xH{α:Type}(e:Expr)(d:α)(f:Expr->List Expr->List Keyword->Pos->α):α:=match e with|.Call g a k p=>f g a k p|_=>d
theorem qG{α:Type}{P:α->Prop}{e:Expr}{d:α}{f:Expr->List Expr->List Keyword->Pos->α}(hd:P d)(h:∀g a k p,e=.Call g a k p->P (f g a k p)):P (xH e d f):=by
 cases e<;>first|exact hd|exact h _ _ _ _ rfl
noncomputable def EB{α:Type}(e:Expr)(d:α)(f:Expr->Str->Pos->α):α:=match e with|.Attribute g n p=>f g n p|_=>d
theorem xv{α:Type}{P:α->Prop}{e:Expr}{d:α}{f:Expr->Str->Pos->α}(hd:P d)(h:∀g n p,e=.Attribute g n p->P (f g n p)):P (EB e d f):=by
 cases e<;>first|exact hd|exact h _ _ _ rfl
noncomputable def DM{α:Type}(e:Expr)(d:α)(f:Str->Pos->α):α:=match e with|.Name n p=>f n p|_=>d
theorem zb{α:Type}{P:α->Prop}{e:Expr}{d:α}{f:Str->Pos->α}(hd:P d)(h:∀n p,e=.Name n p->P (f n p)):P (DM e d f):=by
 cases e<;>first|exact hd|exact h _ _ rfl
noncomputable def wE{α β:Type}(l:List β)(d x:α):α:=match l with|[]=>x|_=>d
theorem D6{α β:Type}{P:α->Prop}{l:List β}{d x:α}(hd:P d)(h:l=[]->P x):P (wE l d x):=by
 cases l with
 |nil=>exact h rfl
 |cons=>exact hd
noncomputable def Gd{α:Type}(e:Expr)(d:α)(f:Str->Pos->Pos->Str->Pos->List Expr->List Keyword->Pos->α):α:=
 xH e d fun g as ks pos=>EB g d fun h name apos=>xH h d fun n al kl p1=>DM n d fun id p0=>wE al d (wE kl d (f id p0 p1 name apos as ks pos))
theorem DA{α:Type}{P:α->Prop}{e:Expr}{d:α}{f:Str->Pos->Pos->Str->Pos->List Expr->List Keyword->Pos->α}(hd:P d)(h:∀id p0 p1 name apos as ks pos,e=.Call (.Attribute (.Call (.Name id p0) [] [] p1) name apos) as ks pos->P (f id p0 p1 name apos as ks pos)):P (Gd e d f):=
 qG hd fun _ as ks pos e1=>xv hd fun _ name apos e2=>qG hd fun _ _ _ p1 e3=>zb hd fun id p0 e4=>D6 hd fun e5=>D6 hd fun e6=>h id p0 p1 name apos as ks pos (by rw [e1,e2,e3,e4,e5,e6])
noncomputable def PD{α:Type}(s:Stmt)(d:α)(f g:Expr->Pos->α):α:=match s with|.Return (some e) p=>f e p|.Expr e p=>g e p|_=>d
theorem GA{α:Type}{P:α->Prop}{s:Stmt}{d:α}{f g:Expr->Pos->α}(hd:P d)(h:∀e p,s=.Return (some e) p->P (f e p))(k:∀e p,s=.Expr e p->P (g e p)):P (PD s d f g):=by
 cases s<;>first|exact hd|exact k _ _ rfl|(rename_i v p;cases v<;>first|exact hd|exact h _ _ rfl)
noncomputable def oF(st:Stmt)(env:Env):Option (Sem Flow):=PD st none
 (fun e rpos=>Gd e none fun id p0 p1 name apos args kws pos=>bif id==("super":Str)&& !(name==("__class__":Str)) then
   some (do standAt rpos;return .ret (<-sY k env p1 (.Call (.Name id p0) [] [] p1) name apos pos args kws)) else none)
 fun e epos=>Gd e none fun id p0 p1 name apos args kws pos=>bif id==("super":Str)&& !(name==("__class__":Str)) then
   some (do
    standAt epos
    if k.ia env then unsupported ""
    else if<-k.sw e none epos.line env then unsupported ""
    else k.dv e epos (<-sY k env p1 (.Call (.Name id p0) [] [] p1) name apos pos args kws)) else none
noncomputable def kV:List Stmt->Env->Sem Flow
 |[],_=>pure .next
 |s::rest,env=>do
  match<-(oF k s env).getD (k.ex [s] env) with
  |.next=>kV rest env
  |f=>pure f
noncomputable def sR(body:List Stmt)(env:Env):Sem Fin:=do
 point
 match<-(kV k body env).onRaise (k.lv env) with
 |.ret v=>ret v
 |_=>ret .none
end
abbrev Le{α:Type}(M:Model)(Γ:Ctx)(t t':Sem α):Prop:=∀(Q:α->Pos->Shared->Prop) (E:Value->Pos->Shared->Prop) p s,Sem.wp M Γ t' Q E p s->Sem.wp M Γ t Q E p s
theorem Le.bind{α β:Type}{M:Model}{Γ:Ctx}{t t':Sem α}{f f':α->Sem β}(h:Le M Γ t t')(k:∀a,Le M Γ (f a) (f' a)):Le M Γ (t>>=f) (t'>>=f'):=by
 intro Q E p s H
 rw [Sem.wp_bind'] at H⊢
 exact h _ _ _ _ (Sem.wp_mono M Γ t' (fun a p s x=>k a _ _ _ _ x) (fun _ _ _ x=>x) p s H)
theorem Le.rfl'{α:Type}{M:Model}{Γ:Ctx}(t:Sem α):Le M Γ t t:=fun _ _ _ _ h=>h
theorem Le.onRaise{α:Type}{M:Model}{Γ:Ctx}{t t':Sem α}{f:Value->Sem Unit}(h:Le M Γ t t'):Le M Γ (t.onRaise f) (t'.onRaise f):=by
 intro Q E p s H
 rw [Sem.wp_onRaise] at H⊢
 exact h _ _ _ _ H
theorem Dy{M:Model}{body:List Stmt}{env:Env}{h ow:Option Value}{bl:List (Code×Pos)}{pa:Option Value}:Le M ⟨.func body env,h,ow,bl,pa⟩ comprehensionsAround (pure []):=by
 intro Q E p s H
 unfold comprehensionsAround callersCodes
 simp only [Sem.wp_bind',bind_assoc]
 show Sem.wp M _ (if(some env.frame !=some env.frame)=true then _ else _) _ _ _ _
 rw [if_neg (by simp)]
 exact H
abbrev nV:=Code×Pos
theorem kK{M:Model}{body:List Stmt}{env:Env}{hd ow:Option Value}{bl:List nV}{pa:Option Value}{p0 p1:Pos}{attr:Str}{whole:Sem Value}
  (hks:env.kindOf "super"=some .globalImplicit) (hkc:env.kindOf "__class__"=some .free) (hat:(attr==("__class__":Str))=false):
  Le M ⟨.func body env,hd,ow,bl,pa⟩ (attributeBase (.Call (.Name "super" p0) [] [] p1) attr env whole) (oM D7 env p1):=by
 intro Q E p s H
 unfold oM at H
 split at H
 ·rename_i f cc hfu hco
  unfold attributeBase
  simp only [bne_self_eq_false,hat,hks,hkc,hfu,hco,Bool.or_self,Bool.false_eq_true,if_false,Option.isSome_some,if_true,pure_bind]
  refine Le.bind (Le.rfl' _) (fun fd=>?_) Q E p s H
  cases(fd.params.posonlyargs++fd.params.args).head? with
  |none=>exact fun _ _ _ _ h=>h.elim
  |some ar=>
   refine Le.bind (Le.rfl' _) (fun a=>?_)
   refine Le.bind (Le.rfl' _) (fun file=>?_)
   unfold tG
   cases file with
   |str file tk=>
    dsimp only
    by_cases c:(a.program.main.file==file&& !(a.program.main.scope.names.lookup ("super":Str)).isSome)=true
    ·rw [if_pos c]
     obtain⟨c1,c2⟩:=Bool.and_eq_true_iff.mp c
     have c2:(List.lookup (Str.ofString "super") a.program.main.scope.names).isSome=false:=by
      simpa using c2
     simp only [c1,c2,if_true,Bool.false_eq_true,if_false]
     unfold Eg
     refine Le.bind (Le.rfl' _) (fun _=>Le.bind (Le.rfl' _) (fun _=>Le.bind (Le.rfl' _) (fun g=>Le.bind (Le.rfl' _) (fun cls=>?_))))
     refine fun Q E p s H=>?_
     rw [Sem.wp_bind']
     refine Dy _ _ _ _ ?_
     show Sem.wp M _ (loadName env ar.arg>>=_) _ _ _ _
     refine Le.bind (Le.rfl' _) (fun self=>Le.bind (Le.rfl' _) (fun t=>?_)) Q E p s H
     by_cases q:(g==.type "super"&&t)=true
     ·rw [if_pos q,if_pos q];exact Le.rfl' _
     ·rw [if_neg q,if_neg q];exact fun _ _ _ _ (h:False)=>h.elim
    ·rw [if_neg c];exact fun _ _ _ _ h=>h.elim
   |_=>exact fun _ _ _ _ (h:False)=>h.elim
 ·exact H.elim
theorem Ij{α:Type}{a b:Bool}{x y:α}{P:Prop}(e:(bif a&& !b then some x else none)=some y)(h:a=true->b=false->x=y->P):P:=by
 cases a<;>cases b<;>first|cases e;done|exact h rfl rfl (Option.some.inj e)
theorem qX{M:Model}{body:List Stmt}{env:Env}{hd ow:Option Value}{bl:List nV}{pa:Option Value}{st:Stmt}{t:Sem Flow}
  (hks:env.kindOf "super"=some .globalImplicit) (hkc:env.kindOf "__class__"=some .free) (e:oF D7 st env=some t):Le M ⟨.func body env,hd,ow,bl,pa⟩ (exec st env) t:=by
 revert e
 refine GA (P:=fun y=>y=some t->_) (fun e=>nomatch e) (fun x rpos hs=>?_) (fun x rpos hs=>?_)<;>subst hs<;>refine DA (P:=fun y=>y=some t->_) (fun e=>nomatch e) fun id p0 p1 name apos args kws pos hx e=>Ij e fun c1 c2 et=>?_
 ·have c1:=eq_of_beq c1
  subst c1 et hx
  show Le _ _ (do standAt rpos;return Flow.ret (<-(do let ov<-attributeBase (.Call (.Name "super" p0) [] [] p1) name env (eval (.Call (.Name "super" p0) [] [] p1) env);standAt apos.atName;D7.sup env p1 (.Call (.Name "super" p0) [] [] p1) name apos pos args kws ov))) _
  refine Le.bind (Le.rfl' _) fun _=>Le.bind ?_ fun _=>Le.rfl' _
  exact Le.bind (kK hks hkc c2) fun _=>Le.rfl' _
 ·have c1:=eq_of_beq c1
  subst c1 et hx
  show Le _ _ (do
   standAt rpos
   if interactive env then printExpr (eval (.Call (.Attribute (.Call (.Name "super" p0) [] [] p1) name apos) args kws pos) env)
   else if<-swapsWith (.Call (.Attribute (.Call (.Name "super" p0) [] [] p1) name apos) args kws pos) none rpos.line env then do evalThenUse (.Call (.Attribute (.Call (.Name "super" p0) [] [] p1) name apos) args kws pos) env fun _=>point;pure .next
   else do dropValue (.Call (.Attribute (.Call (.Name "super" p0) [] [] p1) name apos) args kws pos) rpos (<-eval (.Call (.Attribute (.Call (.Name "super" p0) [] [] p1) name apos) args kws pos) env)) _
  refine Le.bind (Le.rfl' _) fun _=>?_
  show Le _ _ _ (if interactive env then _ else _)
  by_cases hi:interactive env=true
  ·rw [if_pos hi,if_pos hi];exact fun _ _ _ _ (h:False)=>h.elim
  ·rw [if_neg hi,if_neg hi]
   refine Le.bind (Le.rfl' _) fun b=>?_
   cases b with
   |true=>exact fun _ _ _ _ (h:False)=>h.elim
   |false=>
    show Le _ _ (_>>=_) (_>>=_)
    refine Le.bind ?_ fun _=>Le.rfl' _
    exact Le.bind (kK hks hkc c2) fun _=>Le.rfl' _
theorem gN{M:Model}{body:List Stmt}{env:Env}{hd ow:Option Value}{bl:List nV}{pa:Option Value}
  (hks:env.kindOf "super"=some .globalImplicit) (hkc:env.kindOf "__class__"=some .free):∀l,Le M ⟨.func body env,hd,ow,bl,pa⟩ (execs l env) (kV D7 l env)
 |[]=>Le.rfl' _
 |s::rest=>by
  show Le _ _ (exec s env>>=_) (_>>=_)
  cases e:oF D7 s env with
  |some t=>
   refine Le.bind (qX hks hkc e) fun f=>?_
   cases f with
   |next=>exact gN hks hkc rest
   |_=>exact Le.rfl' _
  |none=>
   show Le _ _ _ (execs [s] env>>=_)
   intro Q E p s' H
   rw [Sem.wp_bind'] at H⊢
   have H:Sem.wp M _ (exec s env>>=_) _ _ _ _:=H
   rw [Sem.wp_bind'] at H
   refine Sem.wp_mono M _ _ (fun f p₁ s₁ h₁=>?_) (fun _ _ _ h=>h) _ _ H
   cases f with
   |next=>exact gN hks hkc rest _ _ _ _ h₁
   |_=>exact h₁
theorem rZ{M:Model}{body:List Stmt}{env:Env}{hd ow:Option Value}{bl:List (Code×Pos)}{pa:Option Value}
  (hks:env.kindOf "super"=some .globalImplicit) (hkc:env.kindOf "__class__"=some .free):Le M ⟨.func body env,hd,ow,bl,pa⟩ (denote table (.func body env)) (sR D7 body env):=by
 show Le _ _ (do point;match<-(execs body env).onRaise (leaving env) with|.ret v=>ret v|_=>ret .none) _
 refine Le.bind (Le.rfl' _) fun _=>Le.bind (Le.onRaise (gN hks hkc body)) fun _=>Le.rfl' _
noncomputable def dS:bD:=fun _ c _=>match c with
 |.func body env=>(env.kindOf "super"=some .globalImplicit/\env.kindOf "__class__"=some .free,sR Mr body env)
 |_=>(False,unsupported "")
theorem cD{V:XV}{pr:Program}{w:World}:bE V (model pr w) dS:=by
 intro h0 d os Γ c st s p r s' hc hΓ R H
 unfold dS at hc H
 split at hc
 ·rename_i body env
  obtain⟨h1,h2⟩:=hc
  rw [IR] at H
  dsimp only at H
  obtain⟨c',hd,ow,bl,pa⟩:=Γ
  have hΓ:c'=.func body env:=hΓ
  subst hΓ
  have z:=(Sem.wp_iff_runs (model pr w) _ _ (fun r' s''=>r'=r/\s''=s') p s).mpr ⟨r,s',H,rfl,rfl⟩
  obtain⟨r',s'',y,rfl,rfl⟩:=(Sem.wp_iff_runs (model pr w) _ _ (fun r' s''=>r'=r/\s''=s') p s).mp (rZ h1 h2 _ _ _ _ z)
  exact y
 ·exact hc.elim
end
noncomputable def r4(Γ:Ctx):Around:={handled:=Γ.handled,depth:=frameCount Γ.below+Γ.code.weight,frames:=none,guards:=none,units:=unitsOf Γ.below}
theorem nN(Γ:Ctx)(hu:Γ.code.cUnits=1):Γ.In (r4 Γ).in1:=
 ⟨rfl,Nat.le_refl _,(fun l h=>by cases h),(fun g h=>by cases h),by show Γ.code.cUnits+unitsOf Γ.below<=unitsOf Γ.below+1;lia⟩
theorem kD(Γ:Ctx)(c:Code):(Γ.goto c).Below (r4 Γ):=
 ⟨rfl,le_add_right ..,(fun l h=>by cases h),(fun g h=>by cases h),Nat.le_refl _⟩
theorem bu{pr:Program}{w:World}{t:Sem Fin}{S:Spec}(g:Meets t S){Γ:Ctx}(hu:Γ.code.cUnits=1){p:Pos}{s s':Shared}{r:Result}
  (hS:S (r4 Γ) (fun r' s''=>r'=r/\s''=s') s):Runs (model pr w) Γ p t [] s (.ret r) s':=by
 have h:=g pr w (r4 Γ) _ s hS Γ p (nN Γ hu)
 have z:Sem.wp (model pr w) Γ t (Sem.finPost (model pr w) Γ fun r' s''=>r'=r/\s''=s') (fun e _ s''=>.error e=r/\s''=s') p s:=by
  refine Sem.wp_mono _ _ _ (fun fin p' s₁ h'=>?_) (fun _ _ _ h'=>h') p s h
  cases fin with
  |done f=>exact h'
  |again c'=>exact⟨h'.1,h'.2 (Γ.goto c') p' rfl (kD Γ c')⟩
 obtain⟨r',s'',y,rfl,rfl⟩:=(Sem.wp_iff_runs _ _ _ _ _ _).mp z
 exact y
theorem bh{pr:Program}{w:World}{id:String}{args:Args}{b:Builtin}(hb:entryFor table id=some b):(model pr w).den (.builtin id args)=b args:=by
 show(match entryFor table id with|some b=>b args|none=>_)=_
 rw [hb]
theorem fP{M:Model}{Γ:Ctx}{p:Pos}{v:Value}{s s':Shared}{r:Result}(h:Runs M Γ p (ret v) [] s (.ret r) s'):r=.ok (.ret v)/\s'=s:=by
 have z:=(Sem.wp_iff_runs M Γ _ (fun r' s''=>r'=r/\s''=s') p s).mpr ⟨r,s',h,rfl,rfl⟩
 exact⟨z.1.symm,z.2.symm⟩
noncomputable def jm{α:Type}:Option α->Bool
 |some _=>true
 |none=>false
noncomputable def ke:List Nat->List Nat->Bool
 |[],[]=>true
 |a::l,b::l'=>Nat.beq a b&&ke l l'
 |_,_=>false
theorem pV:∀{l l':List Nat},ke l l'=decide (l=l')
 |[],[]=>by simp [ke]
 |[],_::_=>by simp [ke]
 |_::_,[]=>by simp [ke]
 |a::l,b::l'=>by
  show(Nat.beq a b&&ke l l')=_
  rw [pV,BT.beq_eq];simp
noncomputable def FJ(a b:Str):Bool:=ke a.1.toList b.1.toList
noncomputable abbrev nO:Prop×Sem Fin:=(False,unsupported "")
def AS(M:Model)(Γ:Ctx)(c:Code)(p:Pos)(s:Shared)(r:Result)(s':Shared)(x:Prop×Sem Fin):Prop:=x.1->Runs M Γ p x.2 [] s (.ret r) s'->Runs M Γ p (M.den c) [] s (.ret r) s'
theorem fW{M:Model}{Γ:Ctx}{c:Code}{p:Pos}{s:Shared}{r:Result}{s':Shared}:AS M Γ c p s r s' nO:=fun h _=>h.elim
theorem dQ{V:XV}{M:Model}{A:bD}(h:∀{h0 d os Γ c st s p r s'},Γ.code=c->fX V h0 d os st s->AS M Γ c p s r s' (A Γ c st)):bE V M A:=fun _ _ _ _ _ _ _ _ _ _ hc g R H=>h g R hc H
noncomputable def wO{α β:Type}(o:Option β)(d:α)(f:β->α):α:=match o with|some b=>f b|none=>d
theorem fA{α β:Type}{P:α->Prop}{o:Option β}{d:α}{f:β->α}(hd:P d)(h:∀b,P (f b)):P (wO o d f):=by
 cases o with
 |none=>exact hd
 |some b=>exact h b
noncomputable def wA{α:Type}(o:Option Obj)(d:α)(f:Value->Option Addr->Array Value->Nat->Array (Option Value)->α):α:=match o with|some ⟨a,b,.seq l n,s⟩=>f a b l n s|_=>d
theorem e8{α:Type}{P:α->Prop}{o:Option Obj}{d:α}{f:Value->Option Addr->Array Value->Nat->Array (Option Value)->α}(hd:P d)(h:∀a b l n s,o=some ⟨a,b,.seq l n,s⟩->P (f a b l n s)):P (wA o d f):=by
 rcases o with _|⟨a,b,x,s⟩
 ·exact hd
 ·cases x<;>first|exact hd|exact h _ _ _ _ _ rfl
noncomputable def wF{α:Type}(o:Option Obj)(d:α)(f:List Value->α):α:=match o with|some ⟨_,_,.fields ⟨l⟩,_⟩=>f l|_=>d
theorem zu{α:Type}{P:α->Prop}{o:Option Obj}{d:α}{f:List Value->α}(hd:P d)(h:∀l a b s,o=some ⟨a,b,.fields ⟨l⟩,s⟩->P (f l)):P (wF o d f):=by
 rcases o with _|⟨a,b,x,s⟩
 ·exact hd
 ·cases x<;>first|exact hd|exact h _ _ _ _ rfl
noncomputable def w2{α:Type}(l:List Value)(d:α)(f:Value->Value->α):α:=match l with|[a,b]=>f a b|_=>d
theorem qk{α:Type}{P:α->Prop}{l:List Value}{d:α}{f:Value->Value->α}(hd:P d)(h:∀a b,l=[a,b]->P (f a b)):P (w2 l d f):=by
 rcases l with _|⟨a,_|⟨b,_|_⟩⟩<;>first|exact hd|exact h _ _ rfl
noncomputable def w3{α:Type}(l:List Value)(d:α)(f:Value->Value->Value->α):α:=match l with|[a,b,c]=>f a b c|_=>d
theorem DL{α:Type}{P:α->Prop}{l:List Value}{d:α}{f:Value->Value->Value->α}(hd:P d)(h:∀a b c,l=[a,b,c]->P (f a b c)):P (w3 l d f):=by
 rcases l with _|⟨a,_|⟨b,_|⟨c,_|_⟩⟩⟩<;>first|exact hd|exact h _ _ _ rfl
noncomputable def wi{α:Type}(v:Value)(d:α)(f:Int->α):α:=match v with|.int a _=>f a|_=>d
theorem kb{α:Type}{P:α->Prop}{v:Value}{d:α}{f:Int->α}(hd:P d)(h:∀a t,v=.int a t->P (f a)):P (wi v d f):=by
 cases v<;>first|exact hd|exact h _ _ rfl
noncomputable def ws{α:Type}(v:Value)(d:α)(f:Str->α):α:=match v with|.str a _=>f a|_=>d
theorem sD{α:Type}{P:α->Prop}{v:Value}{d:α}{f:Str->α}(hd:P d)(h:∀a t,v=.str a t->P (f a)):P (ws v d f):=by
 cases v<;>first|exact hd|exact h _ _ rfl
noncomputable def wr{α:Type}(v:Value)(d:α)(f:Addr->α):α:=match v with|.ref a=>f a|_=>d
theorem Jd{α:Type}{P:α->Prop}{v:Value}{d:α}{f:Addr->α}(hd:P d)(h:∀a,v=.ref a->P (f a)):P (wr v d f):=by
 cases v<;>first|exact hd|exact h _ rfl
noncomputable def OK{α:Type}(o:Option Obj)(d:α)(f:Value->Value->Value->Value->α):α:=match o with|some ⟨a,_,.fields ⟨l⟩,_⟩=>w3 l d (f a)|_=>d
theorem yE{α:Type}{P:α->Prop}{o:Option Obj}{d:α}{f:Value->Value->Value->Value->α}(hd:P d)(h:∀a x y z b s,o=some ⟨a,b,.fields ⟨[x,y,z]⟩,s⟩->P (f a x y z)):P (OK o d f):=by
 rcases o with _|⟨a,b,x,s⟩
 ·exact hd
 ·cases x<;>first|exact hd|exact DL hd fun x y z e=>h a x y z b s (by rw [<-e])
noncomputable def M6{α:Type}(o:Option Obj)(d:α)(f:UInt64->Tok->α):α:=match o with|some ⟨_,_,.cell (some (.float a t)),_⟩=>f a t|_=>d
theorem Gg{α:Type}{P:α->Prop}{o:Option Obj}{d:α}{f:UInt64->Tok->α}(hd:P d)(h:∀a t,P (f a t)):P (M6 o d f):=by
 unfold M6
 split
 ·exact h _ _
 ·exact hd
noncomputable def NE{α:Type}(o:Option Obj)(d:α)(f:Value->Str->Str->α):α:=wA o d fun a _ l _ _=>w2 l.toList d fun x y=>ws x d fun u=>ws y d fun v=>f a u v
theorem yK{α:Type}{P:α->Prop}{o:Option Obj}{d:α}{f:Value->Str->Str->α}(hd:P d)(h:∀a b u t v r n s,o=some ⟨a,b,.seq ⟨[.str u t,.str v r]⟩ n,s⟩->P (f a u v)):P (NE o d f):=
 e8 hd fun a b l n s e=>qk hd fun _ _ e1=>sD hd fun u t e2=>sD hd fun v r e3=>h a b u t v r n s (by
  rw [e,<-e2,<-e3,<-e1])
noncomputable def MC{α:Type}(o:Option Obj)(d:α)(f:Value->Int->Int->α):α:=wA o d fun a _ l _ _=>w2 l.toList d fun x y=>wi x d fun u=>wi y d fun v=>f a u v
theorem xL{α:Type}{P:α->Prop}{o:Option Obj}{d:α}{f:Value->Int->Int->α}(hd:P d)(h:∀a b u t v r n s,o=some ⟨a,b,.seq ⟨[.int u t,.int v r]⟩ n,s⟩->P (f a u v)):P (MC o d f):=
 e8 hd fun a b l n s e=>qk hd fun _ _ e1=>kb hd fun u t e2=>kb hd fun v r e3=>h a b u t v r n s (by
  rw [e,<-e2,<-e3,<-e1])
noncomputable def NO{α:Type}(o:Option Obj)(d:α)(f:Addr->Int->α):α:=wF o d fun l=>w2 l d fun x y=>wr x d fun u=>wi y d fun v=>f u v
theorem zM{α:Type}{P:α->Prop}{o:Option Obj}{d:α}{f:Addr->Int->α}(hd:P d)(h:∀a b u v r s,o=some ⟨a,b,.fields ⟨[.ref u,.int v r]⟩,s⟩->P (f u v)):P (NO o d f):=
 zu hd fun _ a b s e=>qk hd fun _ _ e1=>Jd hd fun u e2=>kb hd fun v r e3=>h a b u v r s (by
  rw [e,e1,e2,e3])
noncomputable def AA(c:Code):Option (Int×Tok):=match c with|.builtin _ ⟨[_,.int k t],_⟩=>some (k,t)|_=>none
noncomputable def DO(c:Code):Option (Int×Tok×Value):=match c with|.builtin _ ⟨[_,.int k t,v],_⟩=>some (k,t,v)|_=>none
noncomputable def Mz(c:Code):Option Value:=match c with|.builtin _ ⟨[_,v],_⟩=>some v|_=>none
noncomputable def C8(c:Code):Option (Str×Tok):=match c with|.builtin _ ⟨.str x t::_,_⟩=>some (x,t)|_=>none
noncomputable def IU(c:Code):Option (Str×Tok):=match c with|.builtin _ ⟨[_,.str x t],_⟩=>some (x,t)|_=>none
noncomputable def fK(i j:Nat):bD:=fun Γ c st=>NE (st.T.get i) nO fun cl a b=>NE (st.T.get j) nO fun cl' a' b'=>
  (c=.builtin "tuple.__ne__" ⟨[.ref (bm st.L st.n i),.ref (bm st.L st.n j)],[]⟩/\cl=.type "tuple"/\cl'=.type "tuple",ret (.bool (!(FJ a a'&&FJ b b'))))
theorem tE(a b:Str):FJ a b=(a==b):=by
 obtain⟨⟨l⟩⟩:=a
 obtain⟨⟨l'⟩⟩:=b
 show ke l l'=_
 rw [pV]
 by_cases h:l=l'
 ·subst h;simp
 ·rw [decide_eq_false h]
  symm
  rw [beq_eq_false_iff_ne]
  intro q
  exact h (by injection q with q;injection q)
theorem i9{V:XV}{h0 d os st s}(R:fX V h0 d os st s){i:Nat}{o:Obj}(e:st.T.get i=some o):s.heap.get? (bm st.L st.n i)=some o:=(R.own _ _ e).2
theorem ek{V:XV}{pr:Program}{w:World}{i j:Nat}:bE V (model pr w) (fK i j):=by
 refine dQ fun hΓ R=>yK fW fun cl dd a t b u n sl e1=>yK fW fun cl' dd' a' t' b' u' n' sl' e2=>?_
 rintro⟨rfl,rfl,rfl⟩ H
 obtain⟨rfl,rfl⟩:=fP H
 rw [bh PySem.F.entry_tuple_ne]
 refine bu (PySem.SeqAt.tuple_neAt _ _ _ _ _ _ _ _ _ _ (fun k=>if k=0 then a==a' else b==b')) (by rw [hΓ];rfl) ⟨i9 R e1,i9 R e2,fun k h1 h2=>?_,?_,rfl⟩
 ·rcases k with _|_|k
  ·exact(PyProof.Rows.eqGives_str a a' t t').at _ _
  ·exact(PyProof.Rows.eqGives_str b b' u u').at _ _
  ·exact absurd (Nat.lt_of_succ_lt_succ (Nat.lt_of_succ_lt_succ h1)) (Nat.not_lt_zero _)
 ·rw [tE,tE]
  simp [range_succ]
structure PL where
 pi:Value->Sem Value
 lh:Value->Sem Bool
 tc:Value->Sem Unit
noncomputable def Ph:PL:=⟨pyIter,Builtin.List.listLengthHint,Builtin.List.listTouch⟩
noncomputable def Pf:PL:=⟨Fast.tw8711993805878244202,Fast.tw15112759502256325868,Fast.tw922294955767894045⟩
theorem H0:Pf=Ph:=by
 unfold Pf Ph
 simp only [<-Fast.te8711993805878244202,<-Fast.te15112759502256325868,<-Fast.te922294955767894045]
noncomputable def pR(k:PL)(self it:Value):Sem Fin:=do
 let iter<-k.pi it
 let room<-holding [iter] (k.lh it)
 match room with
 |true=>do
  rule "list.extend.makes-room"
  k.tc self
  again (.builtin "list.extend.loop" ⟨[self,iter,self],[]⟩)
 |false=>unsupported ""
theorem nR:(Value.type "generator"==Value.type "list")=false:=by decide+kernel
theorem mg:(Value.type "generator"==Value.type "tuple")=false:=by decide+kernel
theorem BV{M:Model}{Γ:Ctx}{a b:Addr}{o:Obj}{s:Shared}(hab:a≠b)(hb:s.heap.get? b=some o)(hc:o.cls=.type "generator"){Q E p}(H:Sem.wp M Γ (pR Ph (.ref a) (.ref b)) Q E p s):
  Sem.wp M Γ (Builtin.«list.__iadd__» ⟨[.ref a,.ref b],[]⟩) Q E p s:=by
 show Sem.wp M Γ (Builtin.List.listExtendWith (.ref a) (.ref b) (.ref a)) Q E p s
 unfold Builtin.List.listExtendWith
 have hs:Builtin.List.listSameRef (.ref a) (.ref b)=false:=by
  show(a==b)=false
  simpa using hab
 simp only [Sem.wp_bind',typeOf,hs,Bool.false_or]
 rw [Sem.wp_loadPart_of M Γ _ p s _ hb]
 show Sem.wp M Γ (if(o.cls==.type "list"||o.cls==.type "tuple")=true then _ else _) _ _ _ _
 rw [hc,nR,mg]
 simp only [Bool.or_self,Bool.false_eq_true,if_false]
 refine Le.bind (Le.rfl' _) (fun iter=>Le.bind (Le.rfl' _) (fun room=>?_)) Q E p s H
 cases room with
 |false=>exact fun _ _ _ _ (h:False)=>h.elim
 |true=>exact Le.bind (Le.rfl' _) fun _=>Le.bind (Le.rfl' _) fun _=>Le.rfl' _
noncomputable def ee(i j:Nat):bD:=fun Γ c st=>match st.T.get i,st.T.get j with
 |some _,some ⟨cl,_,_,_⟩=>(c=.builtin "list.__iadd__" ⟨[.ref (bm st.L st.n i),.ref (bm st.L st.n j)],[]⟩/\cl=.type "generator"/\Nat.beq i j=false,pR Pf (.ref (bm st.L st.n i)) (.ref (bm st.L st.n j)))
 |_,_=>(False,unsupported "")
theorem ib{M:Model}{Γ:Ctx}{t t':Sem Fin}{p s r s'}(h:∀Q E,Sem.wp M Γ t' Q E p s->Sem.wp M Γ t Q E p s)(H:Runs M Γ p t' [] s (.ret r) s'):Runs M Γ p t [] s (.ret r) s':=by
 have z:=(Sem.wp_iff_runs M Γ _ (fun r' s''=>r'=r/\s''=s') p s).mpr ⟨r,s',H,rfl,rfl⟩
 obtain⟨r',s'',y,rfl,rfl⟩:=(Sem.wp_iff_runs M Γ _ (fun r' s''=>r'=r/\s''=s') p s).mp (h _ _ z)
 exact y
theorem zm{V:XV}{h0 d os st s}(R:fX V h0 d os st s){i j:Nat}{o o':Obj}(e:st.T.get i=some o)(e':st.T.get j=some o')(h:Nat.beq i j=false):bm st.L st.n i≠bm st.L st.n j:=by
 intro q
 have z:=R.inj i j (R.own _ _ e).1 (R.own _ _ e').1 q
 subst z
 rw [Nat.beq_refl] at h;cases h
theorem cZ{V:XV}{pr:Program}{w:World}{i j:Nat}:bE V (model pr w) (ee i j):=by
 intro h0 d os Γ c st s p r s' hc hΓ R H
 unfold ee at hc H
 split at hc
 ·rename_i o1 cl dd da sl e1 e2
  obtain⟨rfl,rfl,hij⟩:=hc
  simp only [e1,e2] at H
  rw [H0] at H
  rw [bh PySem.F.entry_list_iadd]
  exact ib (fun Q E h=>BV (zm R e1 e2 hij) (i9 R e2) rfl h) H
 ·exact hc.elim
structure PN where
 sf:Value->Nat->Value->Sem Unit
 ne:Value->List Value->Sem Value
 rn:Value->Sem Fin
noncomputable def HI:PN:=⟨setField,fun t l=>newExc t l,fun v=>raiseNew v⟩
noncomputable def HE:PN:=⟨Fast.tw17858455048448223758,fun t l=>Fast.tw11364817496384490316 t l,fun v=>Fast.tw17609497360097468838 v⟩
theorem sn:HE=HI:=by
 unfold HE HI
 simp only [<-Fast.te17858455048448223758,<-Fast.te11364817496384490316,<-Fast.te17609497360097468838]
noncomputable def qA(k:PN)(it:Value)(i:Int)(v:Value):Sem Fin:=do
 k.sf it 1 (rawInt (i+1))
 ret v
noncomputable def ky(k:PN)(it:Value):Sem Fin:=do
 k.sf it 0 .none
 k.rn (<-k.ne (.type "StopIteration") [])
theorem ej{M:Model}{Γ:Ctx}{a:Addr}{o:Obj}{s:Shared}{vs}{i:Nat}{x:Value}(ho:s.heap.get? a=some o)(hd:o.data=.fields vs)(hi:vs[i]? =some x){Q E p}(H:Q x p s):
  Sem.wp M Γ (field (.ref a) i) Q E p s:=by
 unfold field fieldsOf
 simp only [Sem.wp_bind']
 rw [Sem.wp_load_of M Γ _ p s ho]
 simp only [hd]
 show Sem.wp M Γ (match vs[i]? with|some x=>pure x|none=>unsupported "internal:no-such-field") _ _ _ _
 rw [hi]
 exact H
theorem jW{M:Model}{Γ:Ctx}{a:Addr}{o:Obj}{s:Shared}{vs n}(ho:s.heap.get? a=some o)(hd:o.data=.seq vs n){Q E p}(H:Q (some vs) p s):
  Sem.wp M Γ (seqItems? (.ref a)) Q E p s:=by
 unfold seqItems?
 simp only [Sem.wp_bind']
 rw [Sem.wp_load_of M Γ _ p s ho]
 simp only [hd]
 exact H
theorem B0{M:Model}{Γ:Ctx}{a l:Addr}{o ol:Obj}{s:Shared}{i:Int}{tk:Tok}{items n}{v:Value}(ho:s.heap.get? a=some o)(hd:o.data=.fields #[.ref l,.int i tk])(hl:s.heap.get? l=some ol)
  (hdl:ol.data=.seq items n) (hx:items[i.toNat]? =some v) {Q E p} (H:Sem.wp M Γ (qA HI (.ref a) i v) Q E p s):Sem.wp M Γ (Builtin.«list_iterator.__next__» ⟨[.ref a],[]⟩) Q E p s:=by
 show Sem.wp M Γ (field (.ref a) 0>>=_) _ _ _ _
 rw [Sem.wp_bind']
 refine ej ho hd (x:=.ref l) rfl ?_
 show Sem.wp M Γ (if(Value.ref l==Value.none)=true then _ else _) _ _ _ _
 rw [if_neg (show¬((Value.ref l==Value.none)=true) from Bool.false_ne_true)]
 show Sem.wp M Γ (field (.ref a) 1>>=_) _ _ _ _
 rw [Sem.wp_bind']
 refine ej ho hd (x:=.int i tk) rfl ?_
 show Sem.wp M Γ (seqItems? (.ref l)>>=_) _ _ _ _
 rw [Sem.wp_bind']
 refine jW hl hdl ?_
 simp only [hx]
 exact H
theorem Gt{M:Model}{Γ:Ctx}{a l:Addr}{o ol:Obj}{s:Shared}{i:Int}{tk:Tok}{items n}(ho:s.heap.get? a=some o)(hd:o.data=.fields #[.ref l,.int i tk])(hl:s.heap.get? l=some ol)
  (hdl:ol.data=.seq items n) (hx:items[i.toNat]? =none) {Q E p} (H:Sem.wp M Γ (ky HI (.ref a)) Q E p s):Sem.wp M Γ (Builtin.«list_iterator.__next__» ⟨[.ref a],[]⟩) Q E p s:=by
 show Sem.wp M Γ (field (.ref a) 0>>=_) _ _ _ _
 rw [Sem.wp_bind']
 refine ej ho hd (x:=.ref l) rfl ?_
 show Sem.wp M Γ (if(Value.ref l==Value.none)=true then _ else _) _ _ _ _
 rw [if_neg (show¬((Value.ref l==Value.none)=true) from Bool.false_ne_true)]
 show Sem.wp M Γ (field (.ref a) 1>>=_) _ _ _ _
 rw [Sem.wp_bind']
 refine ej ho hd (x:=.int i tk) rfl ?_
 show Sem.wp M Γ (seqItems? (.ref l)>>=_) _ _ _ _
 rw [Sem.wp_bind']
 refine jW hl hdl ?_
 simp only [hx]
 exact H
noncomputable def bF(i j:Nat)(v:Value):bD:=fun Γ c st=>NO (st.T.get i) nO fun l x=>wA (st.T.get j) nO fun _ _ items _ _=>
  (c=.builtin "list_iterator.__next__" ⟨[.ref (bm st.L st.n i)],[]⟩/\l=bm st.L st.n j/\items[x.toNat]? =some v,qA HE (.ref (bm st.L st.n i)) x v)
noncomputable def zK(i j:Nat):bD:=fun Γ c st=>NO (st.T.get i) nO fun l x=>wA (st.T.get j) nO fun _ _ items _ _=>
  (c=.builtin "list_iterator.__next__" ⟨[.ref (bm st.L st.n i)],[]⟩/\l=bm st.L st.n j/\items[x.toNat]? =none,ky HE (.ref (bm st.L st.n i)))
theorem bi{V:XV}{pr:Program}{w:World}{i j:Nat}{v:Value}:bE V (model pr w) (bF i j v):=by
 refine dQ fun hΓ R=>zM fW fun cl dd l x tk sl e1=>e8 fW fun cl' dd' items n sl' e2=>?_
 rintro⟨rfl,rfl,hx⟩ H
 rw [sn] at H
 rw [bh PySem.entry_listiter_next]
 exact ib (fun Q E h=>B0 (i9 R e1) rfl (i9 R e2) rfl hx h) H
theorem ce{V:XV}{pr:Program}{w:World}{i j:Nat}:bE V (model pr w) (zK i j):=by
 refine dQ fun hΓ R=>zM fW fun cl dd l x tk sl e1=>e8 fW fun cl' dd' items n sl' e2=>?_
 rintro⟨rfl,rfl,hx⟩ H
 rw [sn] at H
 rw [bh PySem.entry_listiter_next]
 exact ib (fun Q E h=>Gt (i9 R e1) rfl (i9 R e2) rfl hx h) H
structure PS where
 sub:Value->Sem (Option Int)
 ty:Value->Sem Value
 sp:Value->Sem (Value×Value×Value)
 la:Value->String->Sem (Array Value)
 li:Value->Sem (Array Value)
 si:Value->Value->Value->Nat->Sem (Int×Int×Int)
 up:Value->(Array Value->Array Value)->Sem Unit
 lg:List Value->Sem Unit
 de:DecidableEq Value
noncomputable def NS:PS:=⟨Builtin.List.listSubscript?,typeOf,Builtin.List.listSliceParts,Builtin.List.listAllItems,Builtin.List.listItems,sliceIndices,Builtin.List.listUpdate,fun l=>letGo l,instDecidableEqValue⟩
noncomputable def NB:PS:=⟨Fast.tw8809883150852718426,Fast.tw14684505520029207082,Fast.tw10804002551933667111,Fast.tw10123112551380213103,Fast.tw10557518346328741659,Fast.tw3967640627792924556,Fast.tw2060155186595164805,fun l=>Fast.tw3461954006293484611 l,Fast.tw7966671052430208091⟩
theorem IW:NB=NS:=by
 unfold NB NS
 simp only [<-Fast.te8809883150852718426,<-Fast.te14684505520029207082,<-Fast.te10804002551933667111,<-Fast.te10123112551380213103,<-Fast.te10557518346328741659,<-Fast.te3967640627792924556,<-Fast.te2060155186595164805,<-Fast.te3461954006293484611,<-Fast.te7966671052430208091]
noncomputable def so(k:PS)(self i v:Value):Sem Fin:=do
 let q<-k.sub i
 match q with
 |some _=>unsupported ""
 |none=>do
  let t<-k.ty i
  if @decide (t=.type "slice") (k.de _ _) then do
   let q<-k.sp i
   let new<-k.la v "must assign iterable to extended slice"
   let xs<-k.li self
   let z<-k.si q.1 q.2.1 q.2.2 xs.size
   if z.2.2==1 then do
    rule "list.__setitem__.slice"
    if Builtin.List.listTooLong (xs.size+new.size) then unsupported ""
    else do
     k.up self fun ys=>ys.extract 0 z.1.toNat++new++ys.extract (max z.1 z.2.1).toNat ys.size
     k.lg (xs.extract z.1.toNat (max z.1 z.2.1).toNat).toList.reverse
     ret .none
   else unsupported ""
  else unsupported ""
theorem GN{M:Model}{Γ:Ctx}{a b c:Addr}(hab:a≠c):Le M Γ (Builtin.«list.__setitem__» ⟨[.ref a,.ref b,.ref c],[]⟩) (so NS (.ref a) (.ref b) (.ref c)):=by
 have hs:Builtin.List.listSameRef (.ref a) (.ref c)=false:=by
  show(a==c)=false
  simpa using hab
 show Le M Γ (Builtin.List.listSubscript? (.ref b)>>=_) _
 refine Le.bind (Le.rfl' _) fun q=>?_
 cases q with
 |some _=>exact fun _ _ _ _ (h:False)=>h.elim
 |none=>
  show Le M Γ (typeOf (.ref b)>>=_) (typeOf (.ref b)>>=_)
  refine Le.bind (Le.rfl' _) fun t=>?_
  by_cases ht:t=.type "slice"
  ·subst ht
   show Le M Γ (Builtin.List.listSliceParts (.ref b)>>=_) (Builtin.List.listSliceParts (.ref b)>>=_)
   refine Le.bind (Le.rfl' _) fun q=>?_
   obtain⟨lo,hi,st⟩:=q
   dsimp only
   rw [hs]
   refine Le.bind (Le.rfl' _) fun new=>Le.bind (Le.rfl' _) fun xs=>Le.bind (Le.rfl' _) fun z=>?_
   obtain⟨z1,z2,z3⟩:=z
   dsimp only
   by_cases h3:(z3==1)=true
   ·rw [if_pos h3,if_pos h3]
    refine Le.bind (Le.rfl' _) fun _=>?_
    by_cases h4:Builtin.List.listTooLong (xs.size+new.size)=true
    ·rw [if_pos h4,if_pos h4];exact fun _ _ _ _ (h:False)=>h.elim
    ·rw [if_neg h4,if_neg h4]
     exact Le.rfl' _
   ·rw [if_neg h3]
    intro Q E p s H
    rw [if_neg h3] at H
    exact H.elim
  ·intro Q E p s H
   have H:Sem.wp M Γ (if decide (t=.type "slice")=true then _ else unsupported "") Q E p s:=H
   rw [if_neg (by simpa using ht)] at H
   exact H.elim
noncomputable def iy(i j l:Nat):bD:=fun Γ c st=>match st.T.get i,st.T.get l with
 |some _,some _=>(c=.builtin "list.__setitem__" ⟨[.ref (bm st.L st.n i),.ref (bm st.L st.n j),.ref (bm st.L st.n l)],[]⟩/\Nat.beq i l=false,so NB (.ref (bm st.L st.n i)) (.ref (bm st.L st.n j)) (.ref (bm st.L st.n l)))
 |_,_=>(False,unsupported "")
theorem fF{V:XV}{pr:Program}{w:World}{i j l:Nat}:bE V (model pr w) (iy i j l):=by
 intro h0 d os Γ c st s p r s' hc hΓ R H
 unfold iy at hc H
 split at hc
 ·rename_i o1 o2 e1 e2
  obtain⟨rfl,hij⟩:=hc
  simp only [e1,e2] at H
  rw [IW] at H
  rw [bh PySem.entry_list_setitem]
  exact ib (fun Q E h=>GN (zm R e1 e2 hij) _ _ _ _ h) H
 ·exact hc.elim
noncomputable abbrev A(x:Nat):Nat:=Nat.add x 245
noncomputable abbrev TK(x:Nat):Nat:=Nat.add x 677
abbrev Hn(s:Shared)(n:Nat):Prop:=s.heap.objs.size=A n
abbrev Ht(s:Shared)(t:Nat):Prop:=s.toks=TK t
noncomputable def xT(o:Obj):FuncData:=match o.data with
 |.func f=>f
 |_=>default
noncomputable def be(fd:FuncData):List Stmt:=match fd.body with
 |.stmts b=>b
 |_=>[]
noncomputable def fH(l:List Stmt)(i:Nat):Stmt:=match l with
 |[]=>.Pass default
 |s::l=>match i with
  |0=>s
  |i+1=>fH l i
noncomputable def bk:Stmt->List Stmt
 |.For _ _ b _ _=>b
 |.While _ b _ _=>b
 |.If _ b _ _=>b
 |_=>[]
noncomputable def gm(s:Stmt)(it:Addr)(env:Env):Code:=match s with
 |.For t _ b o _=>.forLoop t (.ref it) b o env
 |.While t b o _=>.whileLoop t b o env
 |_=>.builtin "" {}
noncomputable def zn(fd:FuncData)(L a:Addr):Env:={callEnv fd L a with frame:=some L}
noncomputable def gA(fd:FuncData)(L a:Addr):Code:=.func (be fd) (zn fd L a)
noncomputable def nW(P:Params):FuncData:=xT (B1 P)
noncomputable def gK(P:Params):FuncData:=xT (Cg P)
noncomputable def dG(P:Params):FuncData:=xT (Cx P)
noncomputable def ei(P:Params)(L it:Addr):Code:=gm (fH (be (nW P)) 1) it (zn (nW P) L 214)
structure FA where mk::(p2 p3 p4 p5 p6:Pos) (te1 te2:Expr) (i1 i2:Value) (bo1 bo2 e1 e2:List Stmt) (n1 n2 n3 n4:Env) (f1 f2:List Stmt)
noncomputable abbrev Y7:=(.builtin "claim.caller" {}:Code)
noncomputable abbrev eO(P:Params)(L:Addr)(p1:Pos)(vA:FA):List nV:=
 [(gA (nW P) L 214,p1),(.forLoop vA.te1 vA.i1 vA.bo1 vA.e1 vA.n1,vA.p2),(.func vA.f1 vA.n2,vA.p3),(.forLoop vA.te2 vA.i2 vA.bo2 vA.e2 vA.n3,vA.p4),(.func vA.f2 vA.n4,vA.p5),(Y7,vA.p6)]
noncomputable def iv(P:Params):FuncData:=xT (BP P)
noncomputable def ak(P:Params):FuncData:=xT (BX P)
noncomputable def gD(P:Params)(L it:Addr):Code:=gm (fH (be (iv P)) 1) it (zn (iv P) L 238)
noncomputable def im(P:Params)(L it:Addr):Code:=gm (fH (bk (fH (be (iv P)) 1)) 0) it (zn (iv P) L 238)
noncomputable def nZ:List (Str×NameKind)->List Addr->List (Str×Addr)->List (Str×Addr)
 |[],_,acc=>acc
 |(n,k)::l,as,acc=>match k,as with
  |.cell,a::as=>nZ l as ((n,a)::acc)
  |_,as=>nZ l as acc
noncomputable def bg(fd:FuncData)(L a:Addr)(cs:List Addr):Env:={zn fd L a with cells:=nZ fd.scope.names cs []}
noncomputable def gU(fd:FuncData)(L a:Addr)(cs:List Addr):Code:=.func (be fd) (bg fd L a cs)
noncomputable def iY:Expr->Scope
 |.ListComp _ _ sc _=>sc
 |.GeneratorExp _ _ sc _=>sc
 |_=>default
noncomputable def ng(sc:Scope)(outer:Env):List (Str×Addr):=sc.names.foldl (fun cs x=>match x.2 with
 |.free=>(x.1,(outer.cells.lookup x.1).getD 0)::cs
 |_=>cs) []
noncomputable def lk(e:Expr)(outer:Env)(L:Addr):Env:=
 {scope:={iY e with names:=(iY e).names.map fun x=>if x.2==.free&&outer.scope.kind==.function&&outer.kindOf x.1==some .cell then(x.1,.cell) else x},locals:=L,globals:=outer.globals,cells:=ng (iY e) outer,qual:=outer.qual,func:=none,code:=outer.code,frame:=outer.frame,builtins:=outer.builtins}
noncomputable def mH:Stmt->Expr
 |.Assign _ v _=>v
 |_=>.Constant .none 0 default
noncomputable def El(P:Params)(i:Nat):Stmt:=fH (bk (fH (be (ak P)) 2)) i
noncomputable def jI(P:Params):Expr:=mH (El P 1)
noncomputable def dq(P:Params)(outer:Env)(L it acc:Addr):Code:=.compLoop (jI P) 0 (.ref it) (.ref acc) (lk (jI P) outer L)
noncomputable def CU:Expr->Expr
 |.ListComp e _ _ _=>e
 |e=>e
noncomputable def za:Expr->List Comprehension
 |.ListComp _ g _ _=>g
 |_=>[]
noncomputable def Fl:Expr->Pos
 |.ListComp _ _ _ p=>p
 |_=>default
noncomputable def ay:Code->Code
 |.compLoop e d it acc env=>.compStart e d it acc env
 |c=>c
noncomputable def nf:Expr->Expr
 |.Call _ (a::_) _ _=>a
 |e=>e
noncomputable def IN(P:Params):Expr:=nf (mH (El P 3))
noncomputable def eK(P:Params)(outer:Env)(L it acc:Addr):Code:=.compLoop (IN P) 0 (.ref it) (.ref acc) (lk (IN P) outer L)
noncomputable def kH:Stmt->Expr
 |.While t _ _ _=>t
 |_=>.Constant .none 0 default
noncomputable def kF:Stmt->List Stmt
 |.While _ _ o _=>o
 |_=>[]
noncomputable def fh(P:Params)(env:Env):Code:=.whileLoop (kH (fH (be (ak P)) 2)) (bk (fH (be (ak P)) 2)) (kF (fH (be (ak P)) 2)) env
theorem dw{pr:Program}{w:World}{id:String}{args:Args}{b:Builtin}{Γ:Ctx}{p:Pos}{s s':Shared}{v:Value}(hb:entryFor table id=some b)(hu:Γ.code.cUnits=1)
  (h:wpAny (model pr w) (r4 Γ).in1 (b args) (fun fin s''=>fin=.done (.ret v)/\s''=s') (fun _ _=>False) s):
  Runs (model pr w) Γ p ((model pr w).den (.builtin id args)) [] s (.ret (.ok (.ret v))) s':=by
 have z:=h Γ p (nN Γ hu)
 rw [bh hb]
 have y:Sem.wp (model pr w) Γ (b args) (Sem.finPost (model pr w) Γ fun r' s''=>r'=.ok (.ret v)/\s''=s') (fun e _ s''=>(Except.error e:Result)=.ok (.ret v)/\s''=s') p s:=by
  refine Sem.wp_mono _ _ _ (fun fin p' s₁ h'=>?_) (fun _ _ _ h'=>h'.elim) p s z
  obtain⟨rfl,rfl⟩:=h'
  exact⟨rfl,rfl⟩
 obtain⟨r',s'',y',e1,e2⟩:=(Sem.wp_iff_runs (model pr w) Γ (b args) (fun r' s''=>r'=.ok (.ret v)/\s''=s') p s).mp y
 subst e1 e2
 exact y'
theorem cK{M:Model}{Γ:Ctx}{t:Sem Fin}{p s r s'}(H:Runs M Γ p t [] s (.ret r) s'):Sem.wp M Γ t (Sem.finPost M Γ fun r' s''=>r'=r/\s''=s') (fun e _ s''=>(Except.error e:Result)=r/\s''=s') p s:=
 (Sem.wp_iff_runs M Γ _ (fun r' s''=>r'=r/\s''=s') p s).mpr ⟨r,s',H,rfl,rfl⟩
noncomputable def gR(i m:Nat):bD:=fun Γ c st=>match st.T.get i with
 |some ⟨cl,_,.seq items _,_⟩=>(c=.builtin "len" ⟨[.ref (bm st.L st.n i)],[]⟩/\cl=.type "list"/\items.size=Nat.succ m/\Nat.blt (Nat.succ m) 1000=true,.fresh fun _=>.fresh fun t=>ret (.int (Int.ofNat (Nat.succ m)) t))
 |_=>(False,unsupported "")
theorem hV{V:XV}{pr:Program}{w:World}{i m:Nat}:bE V (model pr w) (gR i m):=by
 intro h0 d os Γ c st s p r s' hc hΓ R H
 unfold gR at hc H
 split at hc
 ·rename_i cl dd items n sl e1
  obtain⟨rfl,rfl,hm,hb⟩:=hc
  simp only [e1] at H
  obtain⟨rfl,rfl⟩:=cK H
  have ha:=i9 R e1
  have hb:Nat.succ m<1000:=le_of_ble_eq_true hb
  refine dw PySem.entry_len (by rw [hΓ];rfl) ?_
  refine wpAny_mono (wpAny_len_body_list (items:=items) (Q:=fun r' s''=>r'=.int (Int.ofNat (Nat.succ m)) (s.toks+1)/\s''={s with toks:=s.toks+1+1}) ⟨_,ha,rfl,_,rfl⟩ (by rw [hm];lia) ⟨by rw [hm];rfl,rfl⟩) (fun fin s'' h=>?_) (fun _ _ h=>h)
  obtain⟨r',rfl,rfl,rfl⟩:=h
  exact⟨rfl,rfl⟩
 ·exact hc.elim
def bN(k:Int):Prop:=Builtin.List.listFitsIndex k=true
theorem bV{k:Nat}(h:k<=1000):bN (Int.ofNat k):=fitsIndex_of (natCast_nonneg k) (by have:(Int.ofNat k:Int)=(k:Int):=rfl;lia)
noncomputable def cn(i:Nat)(v:Value):bD:=fun Γ c st=>wA (st.T.get i) nO fun _ _ items _ _=>wO (AA c) nO fun b=>(c=.builtin "list.__getitem__" ⟨[.ref (bm st.L st.n i),.int b.1 b.2],[]⟩/\bN b.1/\(seqIndex? b.1 items.size).bind (fun j=>items[j]?)=some v,ret v)
theorem qh{k:Int}{n j:Nat}(h:seqIndex? k n=some j):j<n:=by
 unfold seqIndex? at h
 split at h<;>simp_all<;>omega
theorem jg{m n j:Nat}(h:seqIndex? (Int.ofNat m) n=some j):m=j:=by
 unfold seqIndex? at h
 simp only [show¬(Int.ofNat m<0) from by simp,if_false] at h
 split at h
 ·cases h;rfl
 ·cases h
noncomputable abbrev bY a b:=(.int a b:Value)
theorem rB{pr:Program}{w:World}{A:Around}{s:Shared}{a:Addr}{o:Obj}{items n}{k:Int}{t:Tok}{v:Value}{j:Nat}(ho:s.heap.get? a=some o)(hd:o.data=.seq items n)
  (hf:Builtin.List.listFitsIndex k=true) (hj:seqIndex? k items.size=some j) (hx:items[j]? =some v):
  wpAny (model pr w) A (Builtin.«list.__getitem__» ⟨[.ref a,.int k t],[]⟩) (fun fin s''=>fin=.done (.ret v)/\s''=s) (fun _ _=>False) s:=by
 show wpAny _ _ (Builtin.List.listSubscript? (bY k t)>>=_) _ _ s
 refine wpAny_bind (wpAny_listSubscript_int hf ?_)
 cases k with
 |ofNat m=>
  have hm:m=j:=jg hj
  subst hm
  show wpAny _ _ ((seqItemAt a m>>=fun r=>pure (r.map (m,·)))>>=_) _ _ s
  refine wpAny_bind (wpAny_bind (wpAny_seqItemAt ho hd (wpAny_pure ?_)))
  rw [hx]
  first
   |exact wpAny_bind (wpAny_pure (wpAny_pure ⟨rfl,rfl⟩))
   |exact wpAny_pure ⟨rfl,rfl⟩
 |negSucc m=>
  show wpAny _ _ ((Builtin.List.listItems (.ref a)>>=fun xs=>pure ((seqIndex? (Int.negSucc m) xs.size).bind fun i=>xs[i]?.map (i,·)))>>=_) _ _ s
  refine wpAny_bind (wpAny_bind ?_)
  show wpAny _ _ (seqItems? (.ref a)>>=_) _ _ s
  refine wpAny_bind (wpAny_seqItems ho hd (wpAny_pure (wpAny_pure ?_)))
  rw [hj]
  simp only [bind_some,hx,map_some]
  first
   |exact wpAny_bind (wpAny_pure (wpAny_pure ⟨rfl,rfl⟩))
   |exact wpAny_pure ⟨rfl,rfl⟩
theorem vn{pr:Program}{w:World}{A:Around}{s:Shared}{a:Addr}{o:Obj}{items n}{k:Int}{t:Tok}{x v:Value}{j:Nat}(ho:s.heap.get? a=some o)(hd:o.data=.seq items n)
  (hf:Builtin.List.listFitsIndex k=true) (hj:seqIndex? k items.size=some j) (hx:items[j]? =some x):
  wpAny (model pr w) A (Builtin.«list.__setitem__» ⟨[.ref a,.int k t,v],[]⟩) (fun fin s''=>fin=.done (.ret .none)/\s''={s with heap:=s.heap.update a (Obj.mapSeq (·.setIfInBounds j v))}) (fun _ _=>False) s:=by
 show wpAny _ _ (Builtin.List.listSubscript? (bY k t)>>=_) _ _ s
 refine wpAny_bind (wpAny_listSubscript_int hf ?_)
 cases k with
 |ofNat m=>
  have hm:m=j:=jg hj
  subst hm
  show wpAny _ _ ((seqItemAt a m>>=fun r=>pure (r.map (m,·)))>>=_) _ _ s
  refine wpAny_bind (wpAny_bind (wpAny_seqItemAt ho hd (wpAny_pure ?_)))
  rw [hx]
  first
   |exact wpAny_bind (wpAny_bind (wpAny_setSeqItemAt ho hd (wpAny_pure (wpAny_pure ⟨rfl,rfl⟩))))
   |exact wpAny_bind (wpAny_setSeqItemAt ho hd (wpAny_bind (wpAny_pure (wpAny_pure ⟨rfl,rfl⟩))))
   |exact wpAny_bind (wpAny_setSeqItemAt ho hd (wpAny_pure ⟨rfl,rfl⟩))
 |negSucc m=>
  show wpAny _ _ ((Builtin.List.listItems (.ref a)>>=fun xs=>pure ((seqIndex? (Int.negSucc m) xs.size).bind fun i=>xs[i]?.map (i,·)))>>=_) _ _ s
  refine wpAny_bind (wpAny_bind ?_)
  show wpAny _ _ (seqItems? (.ref a)>>=_) _ _ s
  refine wpAny_bind (wpAny_seqItems ho hd (wpAny_pure (wpAny_pure ?_)))
  rw [hj]
  simp only [bind_some,hx,map_some]
  first
   |exact wpAny_bind (wpAny_bind (wpAny_setSeqItemAt ho hd (wpAny_pure (wpAny_pure ⟨rfl,rfl⟩))))
   |exact wpAny_bind (wpAny_setSeqItemAt ho hd (wpAny_bind (wpAny_pure (wpAny_pure ⟨rfl,rfl⟩))))
   |exact wpAny_bind (wpAny_setSeqItemAt ho hd (wpAny_pure ⟨rfl,rfl⟩))
theorem bA{V:XV}{pr:Program}{w:World}{i:Nat}{v:Value}:bE V (model pr w) (cn i v):=by
 refine dQ fun hΓ R=>e8 fW fun cl dd items n sl e1=>fA fW fun b=>?_
 rintro⟨rfl,hf,hx⟩ H
 obtain⟨rfl,rfl⟩:=fP H
 obtain⟨j,hj,hx⟩:=Option.bind_eq_some_iff.mp hx
 exact dw PySem.entry_list_getitem (by rw [hΓ];rfl) (rB (i9 R e1) rfl hf hj hx)
noncomputable def op(i j:Nat):bD:=fun Γ c st=>wA (st.T.get i) nO fun _ _ items _ _=>wO (DO c) nO fun b=>(c=.builtin "list.__setitem__" ⟨[.ref (bm st.L st.n i),.int b.1 b.2.1,b.2.2],[]⟩/\bN b.1/\seqIndex? b.1 items.size=some j,.update (bm st.L st.n i) none (Obj.mapSeq (·.setIfInBounds j b.2.2)) fun _=>ret .none)
theorem lJ{V:XV}{pr:Program}{w:World}{i j:Nat}:bE V (model pr w) (op i j):=by
 refine dQ fun hΓ R=>e8 fW fun cl dd items n sl e1=>fA fW fun b=>?_
 rintro⟨rfl,hf,hj⟩ H
 have H:=cK H
 simp only [Sem.wp] at H
 obtain⟨_,rfl,rfl⟩:=H
 exact dw PySem.entry_list_setitem (by rw [hΓ];rfl) (vn (x:=_) (i9 R e1) rfl hf hj (Array.getElem?_eq_getElem (qh hj)))
noncomputable def Nq:Made->Sem Fin
 |.val v=>ret v
 |.int i=>.fresh fun t=>ret (.int i t)
 |.str x=>.fresh fun t=>ret (.str x t)
 |.float b=>.fresh fun t=>ret (.float b t)
 |_=>unsupported ""
def JQ:Made->Prop
 |.str x=>x.length<=sizeLine
 |_=>True
def vL:List (Nat×Option Obj)->Heap->Prop
 |[],_=>True
 |x::E,h=>h.get? x.1=x.2/\vL E h
abbrev wX:=Nat×Option Obj
noncomputable def av(c:Code)(l:List wX)(m:Made):Prop:=
 ∃id args b,c=.builtin id args/\c.cUnits=1/\entryFor table id=some b/\JQ m/\GivesAt (fun s=>vL l s.heap) (b args) m
theorem av.mk{id:String}{args:Args}{b:Builtin}{l}{m:Made}(e:entryFor table id=some b)(g:Gives (b args) m)(h:JQ m)(u:(Code.builtin id args).cUnits=1:=by rfl):av (.builtin id args) l m:=
 ⟨id,args,b,rfl,u,e,h,g.at⟩
theorem av.at{id:String}{args:Args}{b:Builtin}{l}{m:Made}(e:entryFor table id=some b)(g:GivesAt (fun s=>vL l s.heap) (b args) m)(h:JQ m)(u:(Code.builtin id args).cUnits=1:=by rfl):av (.builtin id args) l m:=
 ⟨id,args,b,rfl,u,e,h,g⟩
noncomputable def gf(is:List Nat)(m:Made):bD:=fun Γ c st=>(av c (is.map fun i=>(bm st.L st.n i,st.T.get i)) m/\(is.all fun i=>jm (st.T.get i))=true,Nq m)
theorem nu{V:XV}{h0 d os st s}(R:fX V h0 d os st s):∀is:List Nat,(is.all fun i=>jm (st.T.get i))=true->vL (is.map fun i=>(bm st.L st.n i,st.T.get i)) s.heap
 |[],_=>trivial
 |i::is,h=>by
  simp only [List.all_cons,Bool.and_eq_true] at h
  refine⟨?_,nu R is h.2⟩
  show s.heap.get? (bm st.L st.n i)=st.T.get i
  cases e:st.T.get i with
  |none=>rw [e] at h;cases h.1
  |some o=>exact i9 R e
theorem w9{M:Model}{Γ:Ctx}{p s r s'}:∀m:Made,JQ m->Runs M Γ p (Nq m) [] s (.ret r) s'->m.post (fun v s''=>(Except.ok (.ret v):Result)=r/\s''=s') s
 |.val v,_,H=>by obtain⟨rfl,rfl⟩:=cK H;exact⟨rfl,rfl⟩
 |.int v,_,H=>by obtain⟨rfl,rfl⟩:=cK H;exact⟨rfl,rfl⟩
 |.str v,ok,H=>by obtain⟨rfl,rfl⟩:=cK H;exact⟨ok,rfl,rfl⟩
 |.float v,_,H=>by obtain⟨rfl,rfl⟩:=cK H;exact⟨rfl,rfl⟩
 |.bytes _,_,H=>(cK H:False).elim
 |.either _ _,_,H=>(cK H:False).elim
theorem au{V:XV}{pr:Program}{w:World}{is:List Nat}{m:Made}:bE V (model pr w) (gf is m):=by
 intro h0 d os Γ c st s p r s' hc hΓ R H
 refine gQ fun Q zQ=>?_
 obtain⟨⟨id,args,b,rfl,hu,hb,hm,g⟩,hall⟩:=hc
 refine zQ ?_
 have H:Runs (model pr w) Γ p (Nq m) [] s (.ret r) s':=H
 have hp:=w9 m hm H
 have z:=g pr w (r4 Γ) (fun r' s''=>r'=r/\s''=s') s (nu R is hall) hp Γ p (nN Γ (by rw [hΓ];exact hu))
 rw [bh hb]
 have y:Sem.wp (model pr w) Γ (b args) (Sem.finPost (model pr w) Γ fun r' s''=>r'=r/\s''=s') (fun e _ s''=>(Except.error e:Result)=r/\s''=s') p s:=by
  refine Sem.wp_mono _ _ _ (fun fin p' s₁ h'=>?_) (fun _ _ _ h'=>h') p s z
  cases fin with
  |done f=>exact h'
  |again c'=>exact⟨h'.1,h'.2 (Γ.goto c') p' rfl (kD Γ c')⟩
 obtain⟨r',s'',y',e1,e2⟩:=(Sem.wp_iff_runs (model pr w) Γ (b args) (fun r' s''=>r'=r/\s''=s') p s).mp y
 subst e1 e2
 exact y'
theorem oS{x y:Str}{t u:Tok}{l}(hx:x.length≠0)(hy:y.length≠0)(h:x.length+y.length<=1000):av (.builtin "str.__add__" ⟨[.str x t,.str y u],[]⟩) l (.str (x++y)):=by
 have g:=gives_str_add x y t u
 rw [if_neg (by simpa using hx),if_neg (by simpa using hy)] at g
 refine av.mk PySem.F.entry_str_add g ?_
 show(x++y).length<=sizeLine
 rw [Str.length_append]
 have:sizeLine=16777216:=by rfl
 lia
abbrev jw a:=model pw a
noncomputable def mo(w:World)(c:Code)(l:List wX)(t:Sem Fin):Prop:=
 ∀Γ p s r s',Γ.code=c->vL l s.heap->Runs (jw w) Γ p t [] s (.ret r) s'->Runs (jw w) Γ p ((jw w).den c) [] s (.ret r) s'
noncomputable def Bt(w:World)(is:List Nat)(t:Sem Fin):bD:=fun Γ c st=>(mo w c (is.map fun i=>(bm st.L st.n i,st.T.get i)) t/\(is.all fun i=>jm (st.T.get i))=true,t)
theorem nS{V:XV}{w:World}{is:List Nat}{t:Sem Fin}:bE V (model pw w) (Bt w is t):=by
 intro h0 d os Γ c st s p r s' hc hΓ R H
 exact hc.1 Γ p s r s' hΓ (nu R is hc.2) H
theorem mo.meets{w:World}{id:String}{args:Args}{b:Builtin}{l}{t:Sem Fin}{S:Spec}(hb:entryFor table id=some b)(g:Meets (b args) S)
  (h:∀Γ p s r s',vL l s.heap->Runs (model pw w) Γ p t [] s (.ret r) s'->S (r4 Γ) (fun r' s''=>r'=r/\s''=s') s) (hu:(Code.builtin id args).cUnits=1:=by rfl):mo w (.builtin id args) l t:=by
 intro Γ p s r s' hΓ hl H
 rw [bh hb]
 exact bu g (by rw [hΓ];exact hu) (h Γ p s r s' hl H)
theorem pT{M:Model}{Γ:Ctx}{p s r s'}{a:Addr}{f:Obj->Obj}{v:Value}(H:Runs M Γ p (.update a none f fun _=>ret v) [] s (.ret r) s'):r=.ok (.ret v)/\s'={s with heap:=s.heap.update a f}:=by
 have H:=cK H
 simp only [Sem.wp] at H
 obtain⟨_,e1,e2⟩:=H
 exact⟨e1.symm,e2.symm⟩
theorem fq{w:World}{a:Addr}{items:Array Value}{n:Nat}{v:Value}(h:items.size<=1000):
  mo w (.builtin "list.append" ⟨[.ref a,v],[]⟩) [(a,some ⟨.type "list",none,.seq items n,⟨[]⟩⟩)] (.update a none (Obj.mapSeq (·.push v)) fun _=>ret .none):=
 mo.meets PySem.entry_list_append (PySem.AutoListH.list_append_list_val_0 a items n v (by rw [sizeLine_eq];lia)) fun Γ p s r s' hl H=>by
  obtain⟨rfl,rfl⟩:=pT H
  exact⟨hl.1,rfl,rfl⟩
open PySem.AutoSeq1 in
theorem rM(l:Addr)(items:Array Value)(n:Nat)(b:Addr)(items2:Array Value)(n2:Nat)(hs0:¬(!items.isEmpty&&Builtin.List.listTooLong (items.size+items2.size))=true)(hs1:items.size<=sizeLine)(hs2:items.size+items2.size<=sizeLine+1):
  Meets (Builtin.«list.__iadd__» ⟨[.ref l,.ref b],[]⟩) (fun _ R s=>s.heap.get? l=some {cls:=.type "list",dict:=none,data:=.seq items n,slots:= #[]}/\s.heap.get? b=some {cls:=.type "tuple",dict:=none,data:=.seq items2 n2,slots:= #[]}/\R (.ok (.ret (Value.ref l))) {s with heap:=s.heap.update l (Obj.mapSeq fun x=>x++items2),toks:=s.toks}):=
 .of_wp fun prog w A R s h=>by
  obtain⟨hp,g,d,tk,os⟩:=s;obtain⟨hl,hb,h⟩:=h;have f1:=idx_int;have f2:=sub_tuple_tuple;have f3:=sub_list_list;have f4:=sub_tuple_list;have f5:=sub_list_tuple;
  have hz':(items++items2).size<=sizeLine+1:=by rw [size_append];exact hs2
  wp_walk using (wpAny_updateSeq hl rfl (hz:=hs1) (_hz':=hz')),wpAny_loadPart' hl,wpAny_loadPart' hb;exact⟨_,rfl,h⟩
theorem re{w:World}{a b:Addr}{items items2:Array Value}{n n2:Nat}(h:items.size+items2.size<=1000):
  mo w (.builtin "list.__iadd__" ⟨[.ref a,.ref b],[]⟩) [(a,some ⟨.type "list",none,.seq items n,⟨[]⟩⟩),(b,some ⟨.type "tuple",none,.seq items2 n2,⟨[]⟩⟩)] (.update a none (Obj.mapSeq (·++items2)) fun _=>ret (.ref a)):=
 mo.meets PySem.F.entry_list_iadd (rM a items n b items2 n2 (by
  have:Builtin.List.listTooLong (items.size+items2.size)=false:=by
   unfold Builtin.List.listTooLong;simp [sizeLine_eq];lia
  rw [this];simp) (by rw [sizeLine_eq];lia) (by rw [sizeLine_eq];lia)) fun Γ p s r s' hl H=>by
  obtain⟨rfl,rfl⟩:=pT H
  exact⟨hl.1,hl.2.1,rfl,rfl⟩
noncomputable def lI(i j:Nat):bD:=fun Γ c st=>match st.T.get i,st.T.get j with
 |some ⟨cl,dd,.seq items n,sl⟩,some ⟨cl',dd',.seq items2 n2,sl'⟩=>
  (c=.builtin "list.__iadd__" ⟨[.ref (bm st.L st.n i),.ref (bm st.L st.n j)],[]⟩/\(cl=.type "list"/\dd=none/\sl=⟨[]⟩)/\(cl'=.type "tuple"/\dd'=none/\sl'=⟨[]⟩)/\Nat.ble (Nat.add items.size items2.size) 1000=true,
   .update (bm st.L st.n i) none (Obj.mapSeq (·++items2)) fun _=>ret (.ref (bm st.L st.n i)))
 |_,_=>(False,unsupported "")
theorem pM{V:XV}{w:World}{i j:Nat}:bE V (model pw w) (lI i j):=by
 intro h0 d os Γ c st s p r s' hc hΓ R H
 unfold lI at hc H
 split at hc
 ·rename_i cl dd items n sl cl' dd' items2 n2 sl' e1 e2
  obtain⟨rfl,⟨rfl,rfl,rfl⟩,⟨rfl,rfl,rfl⟩,hb⟩:=hc
  simp only [e1,e2] at H
  exact re (w:=w) (le_of_ble_eq_true hb) Γ p s r s' hΓ ⟨i9 R e1,i9 R e2,trivial⟩ H
 ·exact hc.elim
noncomputable def b9(i:Nat):bD:=fun Γ c st=>wA (st.T.get i) nO fun cl dd items _ sl=>wO (Mz c) nO fun v=>
  (c=.builtin "list.append" ⟨[.ref (bm st.L st.n i),v],[]⟩/\(cl=.type "list"/\dd=none/\sl=⟨[]⟩)/\items.size<=1000,.update (bm st.L st.n i) none (Obj.mapSeq (·.push v)) fun _=>ret .none)
theorem bx{V:XV}{w:World}{i:Nat}:bE V (model pw w) (b9 i):=by
 refine dQ fun hΓ R=>e8 fW fun cl dd items n sl e1=>fA fW fun v=>?_
 rintro⟨rfl,⟨rfl,rfl,rfl⟩,hb⟩ H
 exact fq (w:=w) hb _ _ _ _ _ hΓ ⟨i9 R e1,trivial⟩ H
abbrev Pw:=Ev->Nat->Nat->List wX->Prop
def kZ(is:List Nat)(Z:Ev->Nat->Nat->Bool->List wX->Prop):jf:=fun ev _ st=>Z ev (Nat.add st.n st.k) (Nat.add st.tb st.ti) (st.gl.all ma) (is.map fun i=>(bm st.L st.n i,st.T.get i))
noncomputable def ax(E:ae):List wX:=E.map fun x=>(x.1,some x.2)
def f8:List (Nat×Option Obj)->Heap->Prop
 |[],_=>True
 |x::E,h=>(match x.2 with|some o=>h.get? x.1=some o|none=>True)/\f8 E h
theorem ai:∀{E:ae} {h:Heap},f8 (ax E) h->cG E h
 |[],_,_=>trivial
 |_::_,_,H=>⟨H.1,ai H.2⟩
noncomputable def rK{α:Type}(d:α):List α->Nat->α
 |[],_=>d
 |a::_,0=>a
 |_::l,n+1=>rK d l n
noncomputable def fk(w':World)(m:Nat)(al:List bD)(rw:List Value)(sm:List bL)(ob:List Obj)(fz:List df):XV:=
 {den:=a8,prog:=pw,w:=w',kt:=eD w'.params,mm:=m,ro:=m,sm:=fun i=>rK (fun _ _ _ _ _=>False) sm i,rw:=fun i=>rK .none rw i,al:=fun i=>rK (fun _ _ _=>(False,unsupported "")) al i,ob:=fun i=>rK ⟨.none,none,.plain, #[]⟩ ob i,fz:=fz}
noncomputable abbrev ec(w':World)(m:Nat)(al:List bD)(rw:List Value)(sm:List bL)(ob:List Obj):XV:=fk w' m al rw sm ob []
def ew(M:Model):List bD->Prop
 |[]=>True
 |a::l=>(∀V,bE V M a)/\ew M l
def fM(V:XV)(M:Model):List bL->Prop
 |[]=>True
 |a::l=>bX V M a/\fM V M l
theorem ew.at{M:Model}:∀{l:List bD},ew M l->∀i V,bE V M (rK (fun _ _ _=>(False,unsupported "")) l i)
 |[],_,_,_=>fun _ _ _ _ _ _ _ _ _ _ hc=>(hc:False).elim
 |_::_,H,0,V=>H.1 V
 |_::_,H,i+1,V=>ew.at H.2 i V
theorem fM.at{V:XV}{M:Model}:∀{l:List bL},fM V M l->∀i,bX V M (rK (fun _ _ _ _ _=>False) l i)
 |[],_,_=>fun _ _ _ _ _ _ _ _ _ hc=>(hc:False).elim
 |_::_,H,0=>H.1
 |_::_,H,i+1=>fM.at H.2 i
theorem rr{w':World}{m:Nat}{al:List bD}{rw:List Value}{sm:List bL}{ob:List Obj}{fz:List (Nat×Obj)}(ha:ew (model pw w') al)(hs:fM (fk w' m al rw sm ob fz) (model pw w') sm):(fk w' m al rw sm ob fz).Ok (model pw w'):=
 ⟨sF.symm,rfl,rfl,fun i=>hs.at i,fun i=>ha.at i _⟩
structure af(E:ae)(s s':Shared):Prop where
 keep:∀b o,s.heap.get? b=some o->b∉E.map (·.1)->s'.heap.get? b=some o
 drawn:s'.drawn=s.drawn
 os:s'.os=s.os
 size:s.heap.objs.size<=s'.heap.objs.size
structure az(P:Params)(E:ae)(s:Shared):Prop where
 rdy:cL P s
 has:cG E s.heap
 nd:(E.map (·.1)).Nodup
 lo:∀a∈E.map (·.1),(eD P).get a=none
theorem xt{x:GenState}(h:ma x=true):x=.finished:=by
 cases x<;>first|rfl|cases h
theorem fC{V h0 d os st s}(R:fX V h0 d os st s)(h:st.gl.all ma=true):∀(j:Nat) (x:GenState),s.gens[j]? =some x->x=.finished:=by
 intro j x e
 by_cases hj:j<st.gb
 ·exact R.gold j x hj e
 ·have hlt:j<s.gens.size:=by
   rcases lt_or_ge j s.gens.size with h|h
   ·exact h
   ·rw [Array.getElem?_eq_none h] at e;cases e
  rw [R.gsize] at hlt
  have hi:j-st.gb<st.gl.length:=by omega
  have e2:=R.gnew (j-st.gb) _ (List.getElem?_eq_getElem hi)
  rw [show st.gb+(j-st.gb)=j by omega,e] at e2
  cases e2
  exact xt (List.all_eq_true.mp h _ (getElem_mem hi))
theorem fZ{V h0 d os st s}(R:fX V h0 d os st s):∀is:List Nat,f8 (is.map fun i=>(bm st.L st.n i,st.T.get i)) s.heap
 |[]=>trivial
 |i::is=>by
  refine⟨?_,fZ R is⟩
  show match st.T.get i with|some o=>s.heap.get? (bm st.L st.n i)=some o|none=>True
  split
  ·rename_i o e;exact(R.own _ _ e).2
  ·trivial
def cF(fz:List df)(E:ae)(s:Shared):Prop:=∀x∈fz,s.heap.get? x.1=some x.2/\x.1∉E.map (·.1)
theorem t8{w':World}{al rw sm ob}{fz:List df}{E:ae}(ha:ew (jw w') al)(hs:fM (fk w' E.length al rw sm ob fz) (jw w') sm){Γ:Ctx}{p:Pos}{t:Sem Fin}{hl:List Nat}{N:Nat}{is:List Nat}{Z:Pw}{s:Shared}(hP:az w'.params E s){n tb gb:Nat}
  (hn:s.heap.objs.size=n) (ht:s.toks=tb) (hg:s.gens.size=gb) (his:is.take E.length=List.range E.length)
  (hZ:∀ev nk tk l,Z ev nk tk l->(l.map (·.1)).take E.length=E.map (·.1)/\677<=tk)
  (hfz:cF fz E s) (H:ch (fk w' E.length al rw sm ob fz) N Γ p t [] hl (qR E n tb gb) (kZ is fun ev nk tk fin l=>fin=true/\Z ev nk tk l)):
  ∃ev s' l,dB (jw w') Γ p t [] s ev s'/\Z ev s'.heap.objs.size s'.toks l/\f8 l s'.heap/\cL w'.params s'/\af E s s':=by
 refine gQ fun Q zQ=>?_
 obtain⟨ev,hs',st',s',r,R,hf,z⟩:=gY (rr ha hs) N Γ p t [] hl _ _ s H (zG (V:=fk w' E.length al rw sm ob fz) rfl rfl rfl hP.rdy hP.has hP.nd hP.lo hn ht hg hfz)
 have e1:s'.heap.objs.size=Nat.add st'.n st'.k:=R.size
 have e2:s'.toks=Nat.add st'.tb st'.ti:=R.toks
 rw [<-e1,<-e2] at z
 obtain⟨h1,h3⟩:=hZ _ _ _ _ z
 refine zQ ?_
 have hsz:s.heap.objs.size<=s'.heap.objs.size:=by rw [e1];exact Nat.le_trans R.h0n (le_add_right _ _)
 refine⟨ev,s',_,r,z,fZ R is,⟨fun a o e=>R.kt a o e,fC R hf,?_,?_⟩,⟨fun b o e hb=>?_,R.drawn,R.os,hsz⟩⟩
 ·have:=hP.rdy.size;lia
 ·exact h3
 ·refine R.keep b o e fun i hi q=>hb ?_
  have hi:i<E.length:=hi
  rw [<-h1,map_map]
  rw [<-q]
  have hm:(is.map fun i=>bm st'.L st'.n i).take E.length=(List.range E.length).map fun i=>bm st'.L st'.n i:=by rw [<-map_take,his]
  show bm st'.L st'.n i∈((is.map fun i=>bm st'.L st'.n i).take E.length)
  rw [hm]
  exact List.mem_map.mpr ⟨i,List.mem_range.mpr hi,rfl⟩
theorem dp{w':World}{al rw sm ob}{E:ae}(ha:ew (model pw w') al)(hs:fM (ec w' E.length al rw sm ob) (model pw w') sm){Γ:Ctx}{p:Pos}{t:Sem Fin}{hl:List Nat}{N:Nat}{is:List Nat}{Z:Pw}{s:Shared}(hP:az w'.params E s){n tb gb:Nat}
  (hn:s.heap.objs.size=n) (ht:s.toks=tb) (hg:s.gens.size=gb) (his:is.take E.length=List.range E.length)
  (hZ:∀ev nk tk l,Z ev nk tk l->(l.map (·.1)).take E.length=E.map (·.1)/\677<=tk)
  (H:ch (ec w' E.length al rw sm ob) N Γ p t [] hl (qR E n tb gb) (kZ is fun ev nk tk fin l=>fin=true/\Z ev nk tk l)):
  ∃ev s' l,dB (model pw w') Γ p t [] s ev s'/\Z ev s'.heap.objs.size s'.toks l/\f8 l s'.heap/\cL w'.params s'/\af E s s':=
 t8 (fz:=[]) ha hs hP hn ht hg his hZ (fun x hx=>nomatch hx) H
def sN(is:List Nat)(Z:Ev->Nat->Nat->Bool->List wX->List df->Prop):jf:=fun ev _ st=>Z ev (Nat.add st.n st.k) (Nat.add st.tb st.ti) (st.gl.all ma&&(is.all fun i=>Nat.blt i (Nat.add st.m0 st.k))) (is.map fun i=>(bm st.L st.n i,st.T.get i)) st.fz
theorem BE{w':World}{al rw sm ob}{fz:List df}{E:ae}(ha:ew (jw w') al)(hs:fM (fk w' E.length al rw sm ob fz) (jw w') sm){Γ:Ctx}{p:Pos}{t:Sem Fin}{hl:List Nat}{N:Nat}{is:List Nat}{Z:Ev->Nat->Nat->List wX->List df->Prop}{s:Shared}(hP:az w'.params E s){n tb gb:Nat}
  (hn:s.heap.objs.size=n) (ht:s.toks=tb) (hg:s.gens.size=gb) (his:is.take E.length=List.range E.length)
  (hZ:∀ev nk tk l f,Z ev nk tk l f->(l.map (·.1)).take E.length=E.map (·.1)/\677<=tk)
  (hfz:cF fz E s) (H:ch (fk w' E.length al rw sm ob fz) N Γ p t [] hl (qR E n tb gb) (sN is fun ev nk tk fin l f=>fin=true/\Z ev nk tk l f)):
  ∃ev s' l f,dB (jw w') Γ p t [] s ev s'/\Z ev s'.heap.objs.size s'.toks l f/\f8 l s'.heap/\cL w'.params s'/\af E s s'/\∀x∈f,s'.heap.get? x.1=some x.2/\x.1∉l.map (·.1)/\s.heap.objs.size<=x.1:=by
 refine gQ fun Q zQ=>?_
 obtain⟨ev,hs',st',s',r,R,hf,z⟩:=gY (rr ha hs) N Γ p t [] hl _ _ s H (zG (V:=fk w' E.length al rw sm ob fz) rfl rfl rfl hP.rdy hP.has hP.nd hP.lo hn ht hg hfz)
 rw [Bool.and_eq_true] at hf
 have e1:s'.heap.objs.size=Nat.add st'.n st'.k:=R.size
 have e2:s'.toks=Nat.add st'.tb st'.ti:=R.toks
 rw [<-e1,<-e2] at z
 obtain⟨h1,h3⟩:=hZ _ _ _ _ _ z
 refine zQ ?_
 have hsz:s.heap.objs.size<=s'.heap.objs.size:=by rw [e1];exact Nat.le_trans R.h0n (le_add_right _ _)
 refine⟨ev,s',_,_,r,z,fZ R is,⟨fun a o e=>R.kt a o e,fC R hf.1,?_,?_⟩,⟨fun b o e hb=>?_,R.drawn,R.os,hsz⟩,fun x hx=>⟨(R.dz x hx).1,fun hm=>?_,(R.dz x hx).2.2⟩⟩
 ·have:=hP.rdy.size;lia
 ·exact h3
 ·refine R.keep b o e fun i hi q=>hb ?_
  have hi:i<E.length:=hi
  rw [<-h1,map_map]
  rw [<-q]
  have hm:(is.map fun i=>bm st'.L st'.n i).take E.length=(List.range E.length).map fun i=>bm st'.L st'.n i:=by rw [<-map_take,his]
  show bm st'.L st'.n i∈((is.map fun i=>bm st'.L st'.n i).take E.length)
  rw [hm]
  exact List.mem_map.mpr ⟨i,List.mem_range.mpr hi,rfl⟩
 ·rw [map_map] at hm
  obtain⟨i,hi,e⟩:=List.mem_map.mp hm
  have e:bm st'.L st'.n i=x.1:=e
  have hlt:=List.all_eq_true.mp hf.2 i hi
  exact(R.dz x hx).2.1 i (le_of_ble_eq_true hlt) e
noncomputable def H6(l:List Nat)(t:Tok):Value:=.str ⟨⟨l⟩⟩ t
noncomputable def aa(P:Params)(l:List Nat)(t:Tok)(v:Value):DictEntry:=⟨PyData.keyHash P ⟨⟨l⟩⟩,.str ⟨⟨l⟩⟩ t,v⟩
noncomputable def bB(l:List Value):Obj:=⟨.none,none,.fields ⟨l⟩,⟨[]⟩⟩
noncomputable abbrev Ge a b:=(⟨.type "list",none,.seq a b,⟨[]⟩⟩:Obj)
noncomputable def ab(l:Array Value)(ep:Nat):Obj:=(Ge l ep)
noncomputable def ah(cl:String)(l:List DictEntry)(ep:Nat):Obj:=⟨.type cl,none,.dict ⟨l⟩ ep,⟨[]⟩⟩
noncomputable def aK(cl:String)(l:List Value):Obj:=⟨.type cl,none,.fields ⟨l⟩,⟨[]⟩⟩
noncomputable abbrev zc:List Nat:=[115,105,103,110,115]
noncomputable abbrev D5:List Nat:=[114,111,119,115]
noncomputable abbrev dM:List Nat:=EA
abbrev Yk a b c:=(A a,ab b c)
abbrev Yp a:=(.ref (A a):Value)
abbrev fy a:=(.ref (A a):Value)
abbrev P8 a b c d e f g h i j k l m:=ah "dict" [aa a [95,109,97,120,108,101,110] b (.int 78 c),aa a PE d (H6 [32] e),aa a Ql f (.int 1 g),aa a [95,115,112,108,105,116,99,104,97,114,115] h (H6 [59] i),aa a [95,108,105,110,101,115] j (Yp k),aa a [95,99,117,114,114,101,110,116,95,108,105,110,101] l (Yp m)] 6
noncomputable def bH(P:Params)(aS aF aD aR aL aC aM aI:Nat)(u1 u2 u4 u5 u6 u7 u8 u9 u10 u11 u12 u13 q1:Tok)(t140 t147:List Value)(sg:Array Value)(ep1:Nat)(fr:List DictEntry)(fe:Nat)(lines:Obj)(q2:Tok)(ep3:Nat)(k:Int):ae:=
 [(140,bB t140),(147,bB t147),(Yk aS sg ep1),
  (A aF,ah "frame" (aa P zc u1 (Yp aS)::aa P D5 u2 (Yp aR)::fr) fe),
  (A aD,P8 P u4 u5 u6 u7 u8 u9 u10 u11 u12 aL u13 aM),
  (A aR,⟨.ref 94,some (A aD),.plain,⟨[]⟩⟩),(A aL,lines),
  (A aC,ah "dict" [aa P MI q1 (.int 0 q2)] 1),
  (A aM,⟨.ref 178,some (A aC),.seq ⟨[]⟩ ep3,⟨[]⟩⟩),(A aI,aK "list_iterator" [fy aS,.int k 0])]
noncomputable def gW(P:Params)(aS aF aD aR aL aC aM aI:Nat)(u1 u2 u4 u5 u6 u7 u8 u9 u10 u11 u12 u13 q1:Tok)(t140 t147:List Value)(sg:Array Value)(ep1:Nat)(fr:List DictEntry)(fe:Nat)(lines:Obj)(q2:Tok)(ep3:Nat)(k:Int):ae:=
 [(140,bB t140),(147,bB t147),(Yk aS sg ep1),
  (A aF,ah "frame" (aa P zc u1 (Yp aS)::aa P D5 u2 (Yp aR)::fr) fe),
  (A aD,P8 P u4 u5 u6 u7 u8 u9 u10 u11 u12 aL u13 aM),
  (A aR,⟨.ref 94,some (A aD),.plain,⟨[]⟩⟩),(A aL,lines),
  (A aC,ah "dict" [aa P MI q1 (.int 0 q2)] 1),
  (A aM,⟨.ref 178,some (A aC),.seq ⟨[]⟩ ep3,⟨[]⟩⟩),(A aI,aK "list_iterator" [.none,.int k 0])]
section
noncomputable def qK:BT->List Nat->List Obj->BT
 |T,i::is,o::l=>qK (T.set i fun _=>o) is l
 |T,_,_=>T
noncomputable def G6:BT->Nat->List Obj->BT
 |T,_,[]=>T
 |T,m,o::l=>G6 (T.ins m o) (Nat.succ m) l
noncomputable def je:BT->Nat->List Obj->Bool
 |_,_,[]=>true
 |T,m,o::l=>match jm ((T.ins m o).get m) with
  |true=>je (T.ins m o) (Nat.succ m) l
  |false=>false
noncomputable def dR(st:St)(is:List Nat)(E':List Obj)(N:ae)(n' tb' gb':Nat):St:=
 {L:=(st.L++(List.range st.k).map (Nat.add st.n ·))++N.map (·.1),m0:=Nat.add (Nat.add st.m0 st.k) N.length,n:=n',k:=0,T:=G6 (qK st.T is E') (Nat.add st.m0 st.k) (N.map (·.2)),tb:=tb',ti:=0,gb:=gb',gl:=[],fz:=st.fz}
noncomputable def nJ:List Nat->Bool
 |[]=>true
 |a::l=> !(l.any (Nat.beq a))&&nJ l
theorem gV:∀{l:List Nat},nJ l=true->l.Nodup
 |[],_=>nodup_nil
 |a::l,h=>by
  unfold nJ at h
  rw [Bool.and_eq_true] at h
  refine List.nodup_cons.mpr ⟨fun q=>?_,gV h.2⟩
  have:=h.1
  rw [show l.any (Nat.beq a)=true from List.any_eq_true.mpr ⟨a,q,Nat.beq_refl a⟩] at this
  cases this
theorem g0{f:Nat->Nat}:∀{l:List Nat},l.Nodup->(∀a∈l,∀b∈l,f a=f b->a=b)->(l.map f).Nodup
 |[],_,_=>nodup_nil
 |a::l,h,g=>by
  have h:=List.nodup_cons.mp h
  refine List.nodup_cons.mpr ⟨fun q=>?_,g0 h.2 fun x hx y hy=>g x (mem_cons_of_mem _ hx) y (mem_cons_of_mem _ hy)⟩
  obtain⟨b,hb,e⟩:=List.mem_map.mp q
  have:=g b (mem_cons_of_mem _ hb) a (mem_cons_self ..) e
  subst this
  exact h.1 hb
def j9:List Nat->List Obj->Heap->Prop
 |a::l,o::E,h=>h.get? a=some o/\j9 l E h
 |_,_,_=>True
theorem rL{α}{x:Option α}:jm x=x.isSome:=by cases x<;>rfl
theorem pO:∀(l:List Obj) (T:BT) (m:Nat),je T m l=true->∀i o,(G6 T m l).get i=some o->T.get i=some o/\(i<m\/l=[]\/m+l.length<=i)\/(m<=i/\l[i-m]? =some o)
 |[],T,m,_,i,o,e=>.inl ⟨e,.inr (.inl rfl)⟩
 |x::l,T,m,h,i,o,e=>by
  have hs:((T.ins m x).get m).isSome=true:=by
   unfold je at h
   split at h
   ·rename_i q;rw [<-rL];exact q
   ·cases h
  have h':je (T.ins m x) (m+1) l=true:=by
   unfold je at h
   split at h
   ·exact h
   ·cases h
  rcases pO l (T.ins m x) (m+1) h' i o e with⟨a,b⟩|⟨a,b⟩
  ·rw [BT.get_ins x T m hs] at a
   by_cases q:i=m
   ·subst q
    rw [if_pos rfl] at a
    exact .inr ⟨Nat.le_refl _,by rw [Nat.sub_self];exact a⟩
   ·rw [if_neg q] at a
    refine .inl ⟨a,?_⟩
    rcases b with b|b|b
    ·left;omega
    ·subst b
     by_cases q2:i<m
     ·exact .inl q2
     ·right;right;simp;omega
    ·right;right;simp;omega
  ·refine .inr ⟨by omega,?_⟩
   rw [show i-m=(i-(m+1))+1 by omega];exact b
theorem pC:∀(is:List Nat) (l:List Obj) (T:BT) (i:Nat) (o:Obj),is.length=l.length->(qK T is l).get i=some o->(T.get i=some o/\i∉is)\/∃j:Nat,is[j]? =some i/\l[j]? =some o
 |[],_,T,i,o,_,e=>.inl ⟨by simpa [qK] using e,by simp⟩
 |i0::is,[],T,i,o,h,e=>by simp at h
 |i0::is,o0::l,T,i,o,h,e=>by
  rcases pC is l (T.set i0 fun _=>o0) i o (by simpa using h) e with⟨a,b⟩|⟨j,a,b⟩
  ·rw [BT.get_set] at a
   by_cases q:i=i0
   ·subst q
    rw [if_pos rfl] at a
    cases t:T.get i with
    |none=>rw [t] at a;cases a
    |some y=>rw [t] at a;cases a;exact .inr ⟨0,rfl,rfl⟩
   ·rw [if_neg q] at a
    exact .inl ⟨a,by simp [q,b]⟩
  ·exact .inr ⟨j+1,by simpa using a,by simpa using b⟩
theorem mW:∀{l:List Nat} {E:List Obj} {h:Heap},j9 l E h->∀{j:Nat} {a:Nat} {o:Obj},l[j]? =some a->E[j]? =some o->h.get? a=some o
 |[],_,_,_,j,a,o,e,_=>by simp at e
 |_::_,[],_,_,j,a,o,_,e=>by simp at e
 |x::l,y::E,h,H,0,a,o,e,e'=>by simp at e e';subst e e';exact H.1
 |x::l,y::E,h,H,j+1,a,o,e,e'=>mW (l:=l) (E:=E) H.2 (j:=j) (by simpa using e) (by simpa using e')
theorem lZ:∀{L:List Nat} {n i:Nat},i<L.length->L[i]? =some (bm L n i)
 |_::_,_,0,_=>rfl
 |_::L,n,i+1,h=>by
  have:i<L.length:=by simpa using h
  rw [List.getElem?_cons_succ];exact lZ (n:=n) this
theorem sj{L L2:List Nat}{n n' i:Nat}(h:i<L.length):bm (L++L2) n' i=bm L n i:=by
 have a:=lZ (L:=L++L2) (n:=n') (i:=i) (by rw [List.length_append];lia)
 rw [getElem?_append_left h,lZ (n:=n) h] at a
 exact(Option.some.inj a).symm
theorem xQ{L:List Nat}{n n' k i:Nat}(h:i<L.length+k):bm (L++(List.range k).map (Nat.add n ·)) n' i=bm L n i:=by
 by_cases q:i<L.length
 ·exact sj q
 ·have a:=lZ (L:=L++(List.range k).map (Nat.add n ·)) (n:=n') (i:=i) (by rw [List.length_append,length_map,length_range];omega)
  rw [getElem?_append_right (by omega),getElem?_map,List.getElem?_range (by omega)] at a
  rw [lU (L:=L) (by omega)]
  exact(Option.some.inj a).symm
section
variable{V:XV}{h0:Heap}{d:Drawn}{os:OsState}{st:St}{s s':Shared}{P:Params}
theorem nH(R:fX V h0 d os st s){is:List Nat}{E:ae}{E':List Obj}{N:ae}{n' tb' gb':Nat}(hk:V.kt=eD P)
  (hE:(is.map fun i=>(bm st.L st.n i,st.T.get i))=ax E) (hlen:is.length=E'.length) (hm:(is.all fun i=>Nat.blt i V.mm||Nat.ble V.ro i)=true)
  (hio:je (qK st.T is E') (Nat.add st.m0 st.k) (N.map (·.2))=true) (rdy:cL P s') (K:af E s s') (has:j9 (E.map (·.1)) E' s'.heap) (hasN:cG N s'.heap)
  (newN:∀y∈N,s.heap.objs.size<=y.1) (ndN:(N.map (·.1)).Nodup) (hn:s'.heap.objs.size=n') (ht:s'.toks=tb') (hg:s'.gens.size=gb') {F:List df} (hF:∀x∈F,x∈st.fz\/(s'.heap.get? x.1=some x.2/\s.heap.objs.size<=x.1/\x.1∉N.map (·.1))):fX V h0 d os {dR st is E' N n' tb' gb' with fz:=F} s':=by
 have eA:E.map (·.1)=is.map fun i=>bm st.L st.n i:=by
  have:=congrArg (List.map fun x=>x.1) hE
  simp only [map_map,ax] at this
  exact this.symm
 have hlt:∀i∈is,i<st.m0+st.k:=by
  intro i hi
  have:(bm st.L st.n i,st.T.get i)∈ax E:=by rw [<-hE];exact List.mem_map.mpr ⟨i,hi,rfl⟩
  obtain⟨x,_,e⟩:=List.mem_map.mp this
  exact(R.own i x.2 (congrArg Prod.snd e).symm).1
 have hL:(st.L++(List.range st.k).map (Nat.add st.n ·)).length=st.m0+st.k:=by rw [List.length_append,length_map,length_range,R.len]
 have old:∀{i},i<st.m0+st.k->bm (dR st is E' N n' tb' gb').L n' i=bm st.L st.n i:=by
  intro i hi
  exact(sj (n:=0) (by rw [hL];exact hi)).trans (xQ (by rw [R.len];exact hi))
 have new:∀{j:Nat} {x:Nat×Obj},N[j]? =some x->bm (dR st is E' N n' tb' gb').L n' (st.m0+st.k+j)=x.1:=by
  intro j x e
  have hj:=(List.getElem?_eq_some_iff.mp e).1
  have a:=lZ (L:=(dR st is E' N n' tb' gb').L) (n:=n') (i:=st.m0+st.k+j) (by show _<(_++_:List Nat).length;rw [List.length_append,hL,length_map];lia)
  have b:(dR st is E' N n' tb' gb').L[st.m0+st.k+j]? =some x.1:=by
   show((st.L++(List.range st.k).map (Nat.add st.n ·))++N.map (·.1))[st.m0+st.k+j]? =_
   rw [getElem?_append_right (by rw [hL];lia),hL,show st.m0+st.k+j-(st.m0+st.k)=j by lia,getElem?_map,e];rfl
  rw [b] at a
  exact(Option.some.inj a).symm
 have olt:∀{i},i<st.m0+st.k->bm st.L st.n i<s.heap.objs.size:=by
  intro i hi
  rw [R.size]
  by_cases q:i<st.L.length
  ·have:=R.low _ (ra (n:=st.n) q);lia
  ·rw [lU (by lia)];rw [R.len] at q⊢;lia
 have cut:∀{i},i<(dR st is E' N n' tb' gb').m0+0->i<st.m0+st.k\/∃(j:Nat) (x:Nat×Obj),i=st.m0+st.k+j/\N[j]? =some x:=by
  intro i hi
  have hi:i<st.m0+st.k+N.length+0:=hi
  by_cases q:i<st.m0+st.k
  ·exact .inl q
  ·exact .inr ⟨i-(st.m0+st.k),N[i-(st.m0+st.k)]'(by lia),by lia,List.getElem?_eq_getElem _⟩
 have eE:∀{j i:Nat},is[j]? =some i->(E.map (·.1))[j]? =some (bm st.L st.n i):=by
  intro j i e
  rw [eA,getElem?_map,e];rfl
 have nm:∀{j:Nat} {x:Nat×Obj},N[j]? =some x->s.heap.objs.size<=x.1:=fun e=>newN _ (mem_of_getElem? e)
 refine⟨?_,by show s'.heap.objs.size=n'+0;lia,?_,?_,?_,fun a o e=>rdy.base a o (by rw [hk] at e;exact e),?_,by show s'.toks=tb'+0;lia,by show s'.gens.size=gb'+0;lia,(by intro j x e;cases e),fun j x _ e=>rdy.gens j x e,?_,?_,?_,K.drawn.trans R.drawn,K.os.trans R.os,?_,?_,?_⟩
 ·show(_++_:List Nat).length=_
  rw [List.length_append,hL,length_map];rfl
 ·intro i o e
  show i<st.m0+st.k+N.length+0/\s'.heap.get? (bm (dR st is E' N n' tb' gb').L n' i)=some o
  rcases pO _ _ _ hio i o e with⟨a,_⟩|⟨a,b⟩
  ·rcases pC is E' st.T i o hlen a with⟨a,b⟩|⟨j,a,b⟩
   ·have z:=R.own i o a
    rw [old z.1]
    refine⟨by lia,K.keep _ _ z.2 fun hm=>?_⟩
    rw [eA] at hm
    obtain⟨i',hi',e'⟩:=List.mem_map.mp hm
    exact b (R.inj i' i (hlt i' hi') z.1 e'▸hi')
   ·have hi:=hlt i (mem_of_getElem? a)
    rw [old hi]
    exact⟨by lia,mW has (eE a) b⟩
  ·have a:st.m0+st.k<=i:=a
   have b:(N.map (·.2))[i-(st.m0+st.k)]? =some o:=b
   rw [getElem?_map] at b
   obtain⟨x,hx,rfl⟩:=Option.map_eq_some_iff.mp b
   have hl:=(List.getElem?_eq_some_iff.mp hx).1
   have q:=new hx
   rw [show st.m0+st.k+(i-(st.m0+st.k))=i by lia] at q
   rw [q]
   exact⟨by lia,hasN.get hx⟩
 ·intro a ha
  show a<n'
  have hsz:=K.size
  have ha:a∈(st.L++(List.range st.k).map (Nat.add st.n ·))++N.map (·.1):=ha
  rcases List.mem_append.mp ha with ha|ha
  ·rcases List.mem_append.mp ha with ha|ha
   ·have:=R.low a ha;rw [R.size] at hsz;lia
   ·obtain⟨j,hj,rfl⟩:=List.mem_map.mp ha
    have:=List.mem_range.mp hj
    show st.n+j<n'
    rw [R.size] at hsz;lia
  ·obtain⟨x,hx,rfl⟩:=List.mem_map.mp ha
   obtain⟨j,hj⟩:=List.mem_iff_getElem?.mp hx
   rw [<-hn];exact Heap.lt_size (hasN.get hj)
 ·intro i j hi hj e
  have e:bm (dR st is E' N n' tb' gb').L n' i=bm (dR st is E' N n' tb' gb').L n' j:=e
  rcases cut hi with h1|⟨j1,x1,rfl,e1⟩
  ·rcases cut hj with h2|⟨j2,x2,rfl,e2⟩
   ·rw [old h1,old h2] at e;exact R.inj i j h1 h2 e
   ·rw [old h1,new e2] at e
    have:=olt h1;have:=nm e2;lia
  ·rcases cut hj with h2|⟨j2,x2,rfl,e2⟩
   ·rw [old h2,new e1] at e
    have:=olt h2;have:=nm e1;lia
   ·rw [new e1,new e2] at e
    have q1:(N.map (·.1))[j1]? =some x1.1:=by rw [getElem?_map,e1];rfl
    have q2:(N.map (·.1))[j2]? =some x1.1:=by rw [getElem?_map,e2,e];rfl
    have hl:=(List.getElem?_eq_some_iff.mp q1).1
    have:=(getElem?_inj hl ndN).mp (q1.trans q2.symm)
    lia
 ·intro i hi
  show V.kt.get (bm (dR st is E' N n' tb' gb').L n' i)=none
  rcases cut hi with h1|⟨j1,x1,rfl,e1⟩
  ·rw [old h1];exact R.off i h1
  ·rw [new e1]
   cases q:V.kt.get x1.1 with
   |none=>rfl
   |some o=>exact absurd (Heap.lt_size (R.kt _ _ q)) (Nat.not_lt.mpr (nm e1))
 ·exact⟨R.mro.1,Nat.le_trans R.mro.2 (by show st.m0<=st.m0+st.k+N.length;lia)⟩
 ·intro i h1 hi
  show h0.objs.size<=bm (dR st is E' N n' tb' gb').L n' i
  rcases cut hi with h2|⟨j1,x1,rfl,e1⟩
  ·rw [old h2];exact R.new i h1 h2
  ·rw [new e1]
   have q1:=nm e1;have q2:=R.h0n;rw [R.size] at q1;lia
 ·intro b o e hb
  have hb:∀i,i<V.mm->bm (dR st is E' N n' tb' gb').L n' i≠b:=hb
  have hmm:∀i,i<V.mm->i<st.m0+st.k:=fun i hi=>by have:=R.mro;lia
  refine K.keep b o (R.keep b o e fun i hi=>?_) fun hmem=>?_
  ·rw [<-old (hmm i hi)];exact hb i hi
  ·rw [eA] at hmem
   obtain⟨i,hi,e'⟩:=List.mem_map.mp hmem
   have e':bm st.L st.n i=b:=e'
   have q:=List.all_eq_true.mp hm i hi
   rw [Bool.or_eq_true] at q
   rcases q with q|q
   ·have q:i<V.mm:=le_of_ble_eq_true q
    exact hb i q ((old (hmm i q)).trans e')
   ·have q1:=R.new i (le_of_ble_eq_true q) (hlt i hi)
    have q2:=Heap.lt_size e
    rw [e'] at q1
    exact absurd q2 (Nat.not_lt.mpr q1)
 ·show h0.objs.size<=n'
  have:=K.size;rw [R.size] at this;have:=R.h0n;lia
 ·intro x hx
  refine⟨(R.fz x hx).1,fun i hi q=>?_⟩
  have hi':i<st.m0+st.k:=by have:=R.mro;lia
  have q:bm (dR st is E' N n' tb' gb').L n' i=x.1:=q
  rw [old hi'] at q
  exact(R.fz x hx).2 i hi q
 ·intro x hx
  rcases hF x hx with h|⟨h1,h2,h3⟩
  ·have z:=R.dz x h
   refine⟨K.keep _ _ z.1 fun hm=>?_,fun i hi q=>?_,z.2.2⟩
   ·rw [eA] at hm
    obtain⟨i,hi,e⟩:=List.mem_map.mp hm
    exact z.2.1 i (hlt i hi) e
   ·have q:bm (dR st is E' N n' tb' gb').L n' i=x.1:=q
    rcases cut hi with h1|⟨j1,x1,e0,e1⟩
    ·rw [old h1] at q;exact z.2.1 i h1 q
    ·rw [e0,new e1] at q
     have a1:=nm e1;have a2:=Heap.lt_size z.1
     rw [q] at a1;exact Nat.not_lt.mpr a1 a2
  ·refine⟨h1,fun i hi q=>?_,Nat.le_trans (by rw [R.size];exact Nat.le_trans R.h0n (le_add_right _ _)) h2⟩
   have q:bm (dR st is E' N n' tb' gb').L n' i=x.1:=q
   rcases cut hi with h4|⟨j1,x1,e0,e1⟩
   ·rw [old h4] at q
    have a1:=olt h4
    rw [q] at a1;exact Nat.not_lt.mpr h2 a1
   ·rw [e0,new e1] at q
    exact h3 (List.mem_map.mpr ⟨x1,mem_of_getElem? e1,q⟩)
end
def fV{X:Type}(w':World)(G:Ctx)(E:ae)(out:X->Result×List Obj×ae)(cond:X->Prop)(p:Pos)(s:Shared):Prop:=
 ∃x s',Runs (jw w') G p ((jw w').den G.code) [] s (.ret (out x).1) s'/\cL w'.params s'/\af E s s'/\j9 (E.map (·.1)) (out x).2.1 s'.heap/\cG (out x).2.2 s'.heap/\
  (∀y∈(out x).2.2,s.heap.objs.size<=y.1)/\((out x).2.2.map (·.1)).Nodup/\cond x
def cm{X:Type}(w':World)(G:Ctx)(E:ae)(out:X->Result×List Obj×ae)(cond:X->Prop):Prop:=
 ∀p s,az w'.params E s->fV w' G E out cond p s
def bW{X:Type}(w':World)(G:Ctx)(E:ae)(fz:List df)(out:X->Result×List Obj×ae)(cond:X->Prop):Prop:=
 ∀p s,az w'.params E s->cF fz E s->fV w' G E out cond p s
abbrev Of(a:St)(b:List Nat)(c d:Nat):=Nat.ble 245 (Nat.add a.n a.k)&&Nat.ble 677 (Nat.add a.tb a.ti)&&nJ b&&(b.all fun i=>Nat.blt i c||Nat.ble d i)
noncomputable def qe{X:Type}(E:ae)(is:List Nat)(mm ro:Nat)(out:X->Result×List Obj×ae)(cond:X->Prop)(st:St)(K:Result->St->Prop):Prop:=
 (is.map fun i=>(bm st.L st.n i,st.T.get i))=ax E/\st.gl.all ma=true/\(Of st is mm ro)=true/\
  ∀(x:X) (n' tb' gb':Nat),cond x->(Nat.beq is.length (out x).2.1.length&&je (qK st.T is (out x).2.1) (Nat.add st.m0 st.k) ((out x).2.2.map (·.2)))=true/\K (out x).1 (dR st is (out x).2.1 (out x).2.2 (A n') (TK tb') gb')
noncomputable def kk{X:Type}(w':World)(G:Ctx)(E:ae)(is:List Nat)(mm ro:Nat)(out:X->Result×List Obj×ae)(cond:X->Prop):bL:=fun Γ p c st K=>Γ=G/\qe E is mm ro out cond st K
theorem fu{X:Type}{w':World}{E:ae}{is:List Nat}{V:XV}{out:X->Result×List Obj×ae}{cond:X->Prop}{h0 d os Γ p st K s}(hk:V.kt=eD w'.params)(hc:az w'.params E s->cF V.fz E s->fV w' Γ E out cond p s)(H:qe E is V.mm V.ro out cond st K)(R:fX V h0 d os st s):
  ∃r st' s',Runs (jw w') Γ p ((jw w').den Γ.code) [] s (.ret r) s'/\fX V h0 d os st' s'/\K r st':=by
 refine gQ fun Q zQ=>?_
 obtain⟨hE,hfin,hb,H⟩:=H
 rw [Bool.and_eq_true,Bool.and_eq_true,Bool.and_eq_true] at hb
 obtain⟨⟨⟨b1,b2⟩,b4⟩,b3⟩:=hb
 have eA:E.map (·.1)=is.map fun i=>bm st.L st.n i:=by
  have:=congrArg (List.map fun x=>x.1) hE
  simp only [map_map,ax] at this
  exact this.symm
 have hlt:∀i∈is,∃x,st.T.get i=some x:=by
  intro i hi
  have:(bm st.L st.n i,st.T.get i)∈ax E:=by rw [<-hE];exact List.mem_map.mpr ⟨i,hi,rfl⟩
  obtain⟨x,_,e⟩:=List.mem_map.mp this
  exact⟨_,(congrArg Prod.snd e).symm⟩
 have pre:az w'.params E s:=by
  refine⟨⟨fun a o e=>R.kt a o (by rw [hk];exact e),fC R hfin,by rw [R.size];exact le_of_ble_eq_true b1,by rw [R.toks];exact le_of_ble_eq_true b2⟩,?_,?_,?_⟩
  ·have z:=fZ R is
   rw [hE] at z
   exact ai z
  ·rw [eA]
   refine g0 (gV b4) fun i hi j hj e=>?_
   obtain⟨o,e1⟩:=hlt i hi
   obtain⟨o',e2⟩:=hlt j hj
   exact R.inj i j (R.own i o e1).1 (R.own j o' e2).1 e
  ·intro a ha
   rw [eA] at ha
   obtain⟨i,hi,rfl⟩:=List.mem_map.mp ha
   obtain⟨o,e⟩:=hlt i hi
   rw [<-hk];exact R.off i (R.own i o e).1
 have fzo:cF V.fz E s:=by
  intro x hx
  have z:=R.fz x hx
  refine⟨R.keep x.1 x.2 z.1 z.2,fun hm=>?_⟩
  rw [eA] at hm
  obtain⟨i,hi,e⟩:=List.mem_map.mp hm
  have e:bm st.L st.n i=x.1:=e
  have q:=List.all_eq_true.mp b3 i hi
  rw [Bool.or_eq_true] at q
  rcases q with q|q
  ·exact z.2 i (le_of_ble_eq_true q) e
  ·obtain⟨o,e1⟩:=hlt i hi
   have q1:=R.new i (le_of_ble_eq_true q) (R.own i o e1).1
   have q2:=Heap.lt_size z.1
   rw [e] at q1
   exact absurd q2 (Nat.not_lt.mpr q1)
 obtain⟨x,s',r,rdy,K',has,hasN,newN,ndN,cx⟩:=hc pre fzo
 have e1:=rdy.size
 have e2:=rdy.toks
 obtain⟨c1,H⟩:=H x (s'.heap.objs.size-245) (s'.toks-677) s'.gens.size cx
 refine zQ ?_
 rw [Bool.and_eq_true] at c1
 exact⟨_,_,s',r,nH R hk hE (eq_of_beq_eq_true c1.1) b3 c1.2 rdy K' has hasN newN ndN (show s'.heap.objs.size=(s'.heap.objs.size-245)+245 by lia) (show s'.toks=(s'.toks-677)+677 by lia) rfl (F:=st.fz) (fun x hx=>.inl hx),H⟩
theorem ja{X:Type}{w':World}{G:Ctx}{E:ae}{is:List Nat}{V:XV}{out:X->Result×List Obj×ae}{cond:X->Prop}(hk:V.kt=eD w'.params)(hc:cm w' G E out cond):bX V (model pw w') (kk w' G E is V.mm V.ro out cond):=by
 intro h0 d os Γ p c st K s H hΓ R
 obtain⟨rfl,H⟩:=H
 subst hΓ
 exact fu hk (fun h _=>hc p s h) H R
theorem ju{X:Type}{w':World}{G:Ctx}{E:ae}{is:List Nat}{V:XV}{out:X->Result×List Obj×ae}{cond:X->Prop}(hk:V.kt=eD w'.params)(hc:bW w' G E V.fz out cond):bX V (model pw w') (kk w' G E is V.mm V.ro out cond):=by
 intro h0 d os Γ p c st K s H hΓ R
 obtain⟨rfl,H⟩:=H
 subst hΓ
 exact fu hk (hc p s) H R
def mx{X:Type}(w':World)(G:Ctx)(E:ae)(out:X->Result×List Obj×ae)(fo:X->ae)(cond:X->Prop)(p:Pos)(s:Shared):Prop:=
 ∃x s',Runs (jw w') G p ((jw w').den G.code) [] s (.ret (out x).1) s'/\cL w'.params s'/\af E s s'/\j9 (E.map (·.1)) (out x).2.1 s'.heap/\cG (out x).2.2 s'.heap/\
  (∀y∈(out x).2.2,s.heap.objs.size<=y.1)/\((out x).2.2.map (·.1)).Nodup/\cond x/\∀y∈fo x,s'.heap.get? y.1=some y.2/\s.heap.objs.size<=y.1/\y.1∉(out x).2.2.map (·.1)
def cv{X:Type}(w':World)(G:Ctx)(E:ae)(fz:List df)(out:X->Result×List Obj×ae)(fo:X->ae)(cond:X->Prop):Prop:=
 ∀p s,az w'.params E s->cF fz E s->mx w' G E out fo cond p s
def eR(l m:List df):Prop:=∀x∈l,∀y∈m,x.1≠y.1
noncomputable def tQ{X:Type}(E:ae)(is:List Nat)(mm ro:Nat)(out:X->Result×List Obj×ae)(fo:X->ae)(cond:X->Prop)(st:St)(K:Result->St->Prop):Prop:=
 (is.map fun i=>(bm st.L st.n i,st.T.get i))=ax E/\st.gl.all ma=true/\(Of st is mm ro)=true/\
  ∀(x:X) (n' tb' gb':Nat),cond x/\eR st.fz (fo x)->(Nat.beq is.length (out x).2.1.length&&je (qK st.T is (out x).2.1) (Nat.add st.m0 st.k) ((out x).2.2.map (·.2)))=true/\K (out x).1 {dR st is (out x).2.1 (out x).2.2 (A n') (TK tb') gb' with fz:=st.fz++fo x}
theorem kR{X:Type}{w':World}{E:ae}{is:List Nat}{V:XV}{out:X->Result×List Obj×ae}{fo:X->ae}{cond:X->Prop}{h0 d os Γ p st K s}(hk:V.kt=eD w'.params)(hc:az w'.params E s->cF (V.fz++st.fz) E s->mx w' Γ E out fo cond p s)(H:tQ E is V.mm V.ro out fo cond st K)(R:fX V h0 d os st s):
  ∃r st' s',Runs (jw w') Γ p ((jw w').den Γ.code) [] s (.ret r) s'/\fX V h0 d os st' s'/\K r st':=by
 refine gQ fun Q zQ=>?_
 obtain⟨hE,hfin,hb,H⟩:=H
 rw [Bool.and_eq_true,Bool.and_eq_true,Bool.and_eq_true] at hb
 obtain⟨⟨⟨b1,b2⟩,b4⟩,b3⟩:=hb
 have eA:E.map (·.1)=is.map fun i=>bm st.L st.n i:=by
  have:=congrArg (List.map fun x=>x.1) hE
  simp only [map_map,ax] at this
  exact this.symm
 have hlt:∀i∈is,∃x,st.T.get i=some x:=by
  intro i hi
  have:(bm st.L st.n i,st.T.get i)∈ax E:=by rw [<-hE];exact List.mem_map.mpr ⟨i,hi,rfl⟩
  obtain⟨x,_,e⟩:=List.mem_map.mp this
  exact⟨_,(congrArg Prod.snd e).symm⟩
 have pre:az w'.params E s:=by
  refine⟨⟨fun a o e=>R.kt a o (by rw [hk];exact e),fC R hfin,by rw [R.size];exact le_of_ble_eq_true b1,by rw [R.toks];exact le_of_ble_eq_true b2⟩,?_,?_,?_⟩
  ·have z:=fZ R is
   rw [hE] at z
   exact ai z
  ·rw [eA]
   refine g0 (gV b4) fun i hi j hj e=>?_
   obtain⟨o,e1⟩:=hlt i hi
   obtain⟨o',e2⟩:=hlt j hj
   exact R.inj i j (R.own i o e1).1 (R.own j o' e2).1 e
  ·intro a ha
   rw [eA] at ha
   obtain⟨i,hi,rfl⟩:=List.mem_map.mp ha
   obtain⟨o,e⟩:=hlt i hi
   rw [<-hk];exact R.off i (R.own i o e).1
 have fzo:cF (V.fz++st.fz) E s:=by
  intro x hx
  rcases List.mem_append.mp hx with hx|hx
  ·have z:=R.fz x hx
   refine⟨R.keep x.1 x.2 z.1 z.2,fun hm=>?_⟩
   rw [eA] at hm
   obtain⟨i,hi,e⟩:=List.mem_map.mp hm
   have e:bm st.L st.n i=x.1:=e
   have q:=List.all_eq_true.mp b3 i hi
   rw [Bool.or_eq_true] at q
   rcases q with q|q
   ·exact z.2 i (le_of_ble_eq_true q) e
   ·obtain⟨o,e1⟩:=hlt i hi
    have q1:=R.new i (le_of_ble_eq_true q) (R.own i o e1).1
    have q2:=Heap.lt_size z.1
    rw [e] at q1
    exact absurd q2 (Nat.not_lt.mpr q1)
  ·have z:=R.dz x hx
   refine⟨z.1,fun hm=>?_⟩
   rw [eA] at hm
   obtain⟨i,hi,e⟩:=List.mem_map.mp hm
   obtain⟨o,e1⟩:=hlt i hi
   exact z.2.1 i (R.own i o e1).1 e
 obtain⟨x,s',r,rdy,K',has,hasN,newN,ndN,cx,hfo⟩:=hc pre fzo
 have e1:=rdy.size
 have e2:=rdy.toks
 obtain⟨c1,H⟩:=H x (s'.heap.objs.size-245) (s'.toks-677) s'.gens.size ⟨cx,fun y hy z hz q=>by
  have a:=Heap.lt_size (R.dz y hy).1
  have b:=(hfo z hz).2.1
  rw [<-q] at b
  exact Nat.not_lt.mpr b a⟩
 refine zQ ?_
 rw [Bool.and_eq_true] at c1
 refine⟨_,_,s',r,nH R hk hE (eq_of_beq_eq_true c1.1) b3 c1.2 rdy K' has hasN newN ndN (show s'.heap.objs.size=(s'.heap.objs.size-245)+245 by lia) (show s'.toks=(s'.toks-677)+677 by lia) rfl (F:=st.fz++fo x) (fun y hy=>?_),H⟩
 rcases List.mem_append.mp hy with hy|hy
 ·exact .inl hy
 ·exact .inr (hfo y hy)
end
theorem af.cast{E E':ae}{s s':Shared}(h:af E s s')(e:E.map (·.1)=E'.map (·.1)):af E' s s':=⟨fun b o q hb=>h.keep b o q (by rw [e];exact hb),h.drawn,h.os,h.size⟩
theorem af.trans{E:ae}{s s' s'':Shared}(h:af E s s')(g:af E s' s''):af E s s'':=
 ⟨fun b o q hb=>g.keep b o (h.keep b o q hb) hb,g.drawn.trans h.drawn,g.os.trans h.os,Nat.le_trans h.size g.size⟩
theorem af.refl{E:ae}{s:Shared}:af E s s:=⟨fun _ _ q _=>q,rfl,rfl,Nat.le_refl _⟩
theorem az.size{P:Params}{E:ae}{s:Shared}(h:az P E s):∃n,s.heap.objs.size=A n:=⟨s.heap.objs.size-245,by have:=h.rdy.size;show _=_+245;lia⟩
theorem az.toks{P:Params}{E:ae}{s:Shared}(h:az P E s):∃n,s.toks=TK n:=⟨s.toks-677,by have:=h.rdy.toks;show _=_+677;lia⟩
def br(M:Model)(Γ:Ctx)(p:Pos)(s:Shared)(s':Shared):Prop:=∃p',∀e s'',Runs M Γ p' (M.den Γ.code) [] s' e s''->Runs M Γ p (M.den Γ.code) [] s e s''
theorem qy{M:Model}{Γ:Ctx}{p s s'}{c:Code}(hc:c=Γ.code)(h:dB M Γ p (M.den Γ.code) [] s (.again c) s'):br M Γ p s s':=by
 obtain⟨_,_,p',f⟩:=h
 subst hc
 exact⟨p',f⟩
theorem gk{c:Nat}{t:Tok}{l}(h:c=49\/c=127):av (.builtin "str.isspace" ⟨[.str ⟨⟨[c]⟩⟩ t],[]⟩) l (.val (.bool false)):=by
 have g:=gives_str_isspace ⟨⟨[c]⟩⟩ t
 refine av.mk PySem.F.entry_str_isspace ?_ trivial
 rcases h with rfl|rfl
 ·rw [show(decide ((⟨⟨[49]⟩⟩:Str).length>0)&&(⟨⟨[49]⟩⟩:Str).cps.all Unicode.isSpace)=false by decide+kernel] at g;exact g
 ·rw [show(decide ((⟨⟨[127]⟩⟩:Str).length>0)&&(⟨⟨[127]⟩⟩:Str).cps.all Unicode.isSpace)=false by decide+kernel] at g;exact g
theorem sL{α:Type}{lines:Array α}{m:Nat}(hm:lines.size=Nat.add m 1):seqIndex? (-1) lines.size=some m:=by
 rw [seqIndex_neg (by lia) (by have:lines.size=m+1:=hm;lia)]
 have:lines.size=m+1:=hm
 congr 1
 lia
theorem xG{α:Type}{lines:Array α}{m:Nat}{v:α}(hm:lines.size=Nat.add m 1)(hl:lines[m]? =some v):(seqIndex? (-1) lines.size).bind (fun j=>lines[j]?)=some v:=by
 rw [sL hm];exact hl
theorem bG{w:World}{c:Code}:(model pw w).den c=a8 c:=by
 show denote table c=a8 c
 exact congrFun sF c
theorem am{w:World}{Γ:Ctx}{p s s'}{c:Code}(hc:c=Γ.code)(h:dB (model pw w) Γ p (a8 Γ.code) [] s (.again c) s'):br (model pw w) Γ p s s':=by
 rw [<-bG (w:=w)] at h
 exact qy hc h
theorem eQ{t k:Nat}:677<=Nat.add (TK t) k:=by show 677<=t+677+k;lia
theorem rI{L:List Nat}{n gb:Nat}{hs:List Nat}{A B:Prop}(a:A)(b:B):ad L n gb hs (A/\B):=ag ⟨a,b⟩ hs
theorem rF{L:List Nat}{n gb:Nat}{hs x:List Nat}{t k:Nat}{R:Prop}(r:R):ad L n gb hs (true=true/\x=x/\677<=Nat.add (TK t) k/\R):=ag ⟨rfl,rfl,eQ,r⟩ hs
abbrev ZB:=Ev->Nat->Nat->Bool->List wX->Prop
noncomputable def lE(E:ae):List Nat:=List.map (fun(x:Nat×Obj)=>x.1) E
noncomputable def sl(h:List Nat)(a n:Nat):List Nat:=(h.drop a).take n
noncomputable def gC:List Nat->List Nat
 |[]=>[]
 |x::l=>match Nat.blt x 10000 with
  |true=>x::gC l
  |false=>List.replicate (x/10000) (x % 10000)++gC l
theorem az.nt{P:Params}{E:ae}{s:Shared}(hP:az P E s):∃n tb gb,s.heap.objs.size=A n/\s.toks=TK tb/\s.gens.size=gb:=
 let⟨n,hn⟩:=hP.size
 let⟨tb,ht⟩:=hP.toks
 ⟨n,tb,_,hn,ht,rfl⟩
def Sn{ζ:Type}(f:ae->WW->ζ->List Nat->Prop)(E:WW->ae)(L:WW->List Nat):WW->ζ->Prop:=fun W Z=>f (E W) W Z (L W)
def Ri{ζ:Type}(f:ae->WW->ζ->List Nat->Prop)(E:WW->ae)(L:WW->List Nat):WW->ζ->Prop:=fun W Z=>f (E W) W Z (L W)
noncomputable def SO{ζ:Type}(f:ae->WW->ζ->List Nat->Prop)(E:WW->ae)(L:WW->List Nat):World->Bool->ζ->Prop×Prop:=fun w b Z=>(f (E ⟨w,true,b⟩) ⟨w,true,b⟩ Z (L ⟨w,true,b⟩),f (E ⟨w,false,b⟩) ⟨w,false,b⟩ Z (L ⟨w,false,b⟩))
noncomputable def RJ{ζ:Type}(f:ae->WW->ζ->List Nat->Prop)(E:WW->ae)(L:WW->List Nat):World->Bool->ζ->Prop×Prop:=fun w b Z=>(f (E ⟨w,true,b⟩) ⟨w,true,b⟩ Z (L ⟨w,true,b⟩),f (E ⟨w,false,b⟩) ⟨w,false,b⟩ Z (L ⟨w,false,b⟩))
noncomputable def Rm{ζ:Type}(f:ae->WW->ζ->List Nat->Prop)(E:WW->ae)(L:WW->List Nat):World->ζ->(Prop×Prop)×Prop×Prop:=fun w Z=>((f (E ⟨w,true,true⟩) ⟨w,true,true⟩ Z (L ⟨w,true,true⟩),f (E ⟨w,true,false⟩) ⟨w,true,false⟩ Z (L ⟨w,true,false⟩)),f (E ⟨w,false,true⟩) ⟨w,false,true⟩ Z (L ⟨w,false,true⟩),f (E ⟨w,false,false⟩) ⟨w,false,false⟩ Z (L ⟨w,false,false⟩))
noncomputable def Qx{ζ:Type}(f:ae->WW->ζ->List Nat->Prop)(E:WW->ae)(L:WW->List Nat):World->ζ->(Prop×Prop)×Prop×Prop:=fun w Z=>((f (E ⟨w,true,true⟩) ⟨w,true,true⟩ Z (L ⟨w,true,true⟩),f (E ⟨w,true,false⟩) ⟨w,true,false⟩ Z (L ⟨w,true,false⟩)),f (E ⟨w,false,true⟩) ⟨w,false,true⟩ Z (L ⟨w,false,true⟩),f (E ⟨w,false,false⟩) ⟨w,false,false⟩ Z (L ⟨w,false,false⟩))
def GS{ζ:Type}(f g:ae->WW->ζ->List Nat->Prop)(E:WW->ae)(L:WW->List Nat):Prop:=∀W Z,f (E W) W Z (L W)=g (E W) W Z (L W)
theorem oU{ζ:Type}{E:WW->ae}{f g:ae->WW->ζ->List Nat->Prop}{L:WW->List Nat}(h:Sn f E L=Ri g E L):GS f g E L:=by
 intro W Z;exact congrFun (congrFun h W) Z
theorem iX{ζ:Type}{E:WW->ae}{f g:ae->WW->ζ->List Nat->Prop}{L:WW->List Nat}(h:SO f E L=RJ g E L):GS f g E L:=by
 intro W Z;obtain⟨w,b1,b2⟩:=W
 have z:=congrFun (congrFun (congrFun h w) b2) Z
 cases b1
 ·exact congrArg Prod.snd z
 ·exact congrArg Prod.fst z
theorem pc{ζ:Type}{E:WW->ae}{f g:ae->WW->ζ->List Nat->Prop}{L:WW->List Nat}(h:Rm f E L=Qx g E L):GS f g E L:=by
 intro W Z;obtain⟨w,b1,b2⟩:=W
 have z:=congrFun (congrFun h w) Z
 cases b1<;>cases b2
 ·exact congrArg (·.2.2) z
 ·exact congrArg (·.2.1) z
 ·exact congrArg (·.1.2) z
 ·exact congrArg (·.1.1) z
theorem nx{E EL:WW->ae}(hE:E=EL){W:WW}{s:Shared}(hP:az (pW W) (E W) s):az (pW W) (EL W) s:=hE▸hP
theorem iR{P:Bool->Prop}(b:Bool)(h1:P true)(h0:P false):P b:=by cases b<;>assumption
theorem Ti{α:Type}{P:α->Prop}{a b:α}(h:a=b)(k:P b):P a:=h▸k
theorem G0{α β:Type}{P:α->β->Prop}{a b:α}{c d:β}(h:a=b/\c=d)(k:P b d):P a c:=h.1▸h.2▸k
theorem oK{α β γ:Type}{P:α->β->γ->Prop}{a b:α}{c d:β}{e f:γ}(h:a=b/\c=d/\e=f)(k:P b d f):P a c e:=h.1▸h.2.1▸h.2.2▸k
abbrev Yt a:=model pw (Vw a)
theorem bT{W:WW}{al rw sm ob}{E EL:WW->ae}{Γ:Ctx}{p:Pos}{t:Sem Fin}{N:Nat}{is:List Nat}{s:Shared}(hE:E=EL)(hP:az (pW W) (E W) s){n tb gb:Nat}
  (hn:s.heap.objs.size=n) (ht:s.toks=tb) (hg:s.gens.size=gb) (f g:ae->WW->ZB->List Nat->Prop) (L:WW->List Nat) {Q:Prop}
  (hq:GS f g EL L) (hf:f (E W) W=fun Z hs=>ch (ec (Vw W) (EL W).length al rw sm ob) N Γ p t [] hs (qR (E W) n tb gb) (kZ is Z))
  (ha:ew (Yt W) al) (hs:fM (ec (Vw W) (EL W).length al rw sm ob) (Yt W) sm) (his:is.take (EL W).length=List.range (EL W).length)
  (HR:∀hs,g (E W) W (fun ev _ tk fin l=>fin=true/\(l.map (·.1)).take (EL W).length=(EL W).map (·.1)/\677<=tk/\∀s',dB (Yt W) Γ p t [] s ev s'->s'.toks=tk->f8 l s'.heap->cL (pW W) s'->af (E W) s s'->Q) hs):Q:=by
 subst hE
 obtain⟨_,s',_,r,z,h3,h4,h5⟩:=dp (Z:=fun ev _ tk l=>(l.map (·.1)).take (E W).length=(E W).map (·.1)/\677<=tk/\∀s',dB (Yt W) Γ p t [] s ev s'->s'.toks=tk->f8 l s'.heap->cL (pW W) s'->af (E W) s s'->Q) ha hs hP hn ht hg his (fun _ _ _ _ h=>⟨h.1,h.2.1⟩) (Eq.mpr ((congrFun (congrFun hf _) _).symm.trans (hq W _)) (HR _))
 exact z.2.2 s' r rfl h3 h4 h5
theorem Gn{W:WW}{al rw sm ob}{fz:List df}{E EL:WW->ae}{Γ:Ctx}{p:Pos}{t:Sem Fin}{N:Nat}{is:List Nat}{s:Shared}(hE:E=EL)(hP:az (pW W) (E W) s){n tb gb:Nat}
  (hn:s.heap.objs.size=n) (ht:s.toks=tb) (hg:s.gens.size=gb) (f g:ae->WW->ZB->List Nat->Prop) (L:WW->List Nat) {Q:Prop}
  (hq:GS f g EL L) (hf:f (E W) W=fun Z hs=>ch (fk (Vw W) (EL W).length al rw sm ob fz) N Γ p t [] hs (qR (E W) n tb gb) (kZ is Z))
  (ha:ew (Yt W) al) (hs:fM (fk (Vw W) (EL W).length al rw sm ob fz) (Yt W) sm) (his:is.take (EL W).length=List.range (EL W).length) (hfz:cF fz (E W) s)
  (HR:∀hs,g (E W) W (fun ev _ tk fin l=>fin=true/\(l.map (·.1)).take (EL W).length=(EL W).map (·.1)/\677<=tk/\∀s',dB (Yt W) Γ p t [] s ev s'->s'.toks=tk->f8 l s'.heap->cL (pW W) s'->af (E W) s s'->Q) hs):Q:=by
 subst hE
 obtain⟨_,s',_,r,z,h3,h4,h5⟩:=t8 (Z:=fun ev _ tk l=>(l.map (·.1)).take (E W).length=(E W).map (·.1)/\677<=tk/\∀s',dB (Yt W) Γ p t [] s ev s'->s'.toks=tk->f8 l s'.heap->cL (pW W) s'->af (E W) s s'->Q) ha hs hP hn ht hg his (fun _ _ _ _ h=>⟨h.1,h.2.1⟩) hfz (Eq.mpr ((congrFun (congrFun hf _) _).symm.trans (hq W _)) (HR _))
 exact z.2.2 s' r rfl h3 h4 h5
theorem I9{W:WW}{al rw sm ob}{fz:List df}{E EL:WW->ae}{Γ:Ctx}{p:Pos}{t:Sem Fin}{N:Nat}{is:List Nat}{s:Shared}(hE:E=EL)(hP:az (pW W) (E W) s){n tb gb:Nat}
  (hn:s.heap.objs.size=n) (ht:s.toks=tb) (hg:s.gens.size=gb) (f g:ae->WW->(Ev->Nat->Nat->Bool->List wX->List df->Prop)->List Nat->Prop) (L:WW->List Nat) {Q:Prop}
  (hq:GS f g EL L) (hf:f (E W) W=fun Z hs=>ch (fk (Vw W) (EL W).length al rw sm ob fz) N Γ p t [] hs (qR (E W) n tb gb) (sN is Z))
  (ha:ew (Yt W) al) (hs:fM (fk (Vw W) (EL W).length al rw sm ob fz) (Yt W) sm) (his:is.take (EL W).length=List.range (EL W).length) (hfz:cF fz (E W) s)
  (HR:∀hs,g (E W) W (fun ev _ tk fin l f=>fin=true/\(l.map (·.1)).take (EL W).length=(EL W).map (·.1)/\677<=tk/\∀s',dB (Yt W) Γ p t [] s ev s'->s'.toks=tk->f8 l s'.heap->cL (pW W) s'->af (E W) s s'->(∀x∈f,s'.heap.get? x.1=some x.2/\x.1∉l.map (·.1)/\s.heap.objs.size<=x.1)->Q) hs):Q:=by
 subst hE
 obtain⟨_,s',_,_,r,z,h3,h4,h5,h6⟩:=BE (Z:=fun ev _ tk l f=>(l.map (·.1)).take (E W).length=(E W).map (·.1)/\677<=tk/\∀s',dB (Yt W) Γ p t [] s ev s'->s'.toks=tk->f8 l s'.heap->cL (pW W) s'->af (E W) s s'->(∀x∈f,s'.heap.get? x.1=some x.2/\x.1∉l.map (·.1)/\s.heap.objs.size<=x.1)->Q) ha hs hP hn ht hg his (fun _ _ _ _ _ h=>⟨h.1,h.2.1⟩) hfz (Eq.mpr ((congrFun (congrFun hf _) _).symm.trans (hq W _)) (HR _))
 exact z.2.2 s' r rfl h3 h4 h5 h6
abbrev Y2 a b:=Nat.add (A a) b
abbrev Y8 a b:=Nat.add (TK a) b
abbrev Yc:=Rf (true:Bool)
noncomputable abbrev Yh a:=Int.ofNat a
abbrev sW a:=(.ref (A a):Value)
abbrev Yo a:=Rf (.builtin "list_iterator.__next__" ⟨[(sW a)],[]⟩:Code)
abbrev DI:=(Rf (some (NameKind.globalImplicit):Option NameKind))/\(Rf (some (NameKind.free):Option NameKind))
noncomputable abbrev Qh a b c:=([.int b 0,.int c 0,.ref a]:List Value)
abbrev HM a b c:=(Rf (.builtin "list.__iadd__" ⟨[(.ref (Y2 a b)),(.ref (Y2 a c))],[]⟩:Code))/\((Rf (.type ("generator"):Value))/\(Rf (false:Bool)))
abbrev cN a b c d:=qR a (A b) (TK c) d
abbrev mu:=gf [] (.val (.bool false))
noncomputable abbrev wx:=Made.val (Value.bool false)
abbrev dV a b:=(.ref (Y2 a b):Value)
noncomputable abbrev bJ a b:=Nat.add a b
abbrev PI a b c d e:=(gC [10,10,4000,10,10,4,4,4,6,0,0,0,6,0,0,0,6,6,0,5,9,0,0,0,9,0,0,0,9,40000,9,8,4,0,0,0,60011,0,11,9,0,0,0,9,0,0,0,9,0,0,0,9,8,11,11,9,0,9,9,9,4,6,0,0,0,6,0,0,0,6,40000,6,5,0,0,0,13,13,0,13,6,0,0,0,6,0,0,0,6,6,0,5,9,0,0,0,9,0,0,0,9,40000,9,8,0,0,0,60014,0,14,9,0,0,0,9,0,0,0,9,0,0,0,9,8,14,14,9,0,9,9,9,4,6,0,0,0,6,0,0,0,6,40000,6,5,0,0,0,16,16,0,16,6,0,0,0,6,0,0,0,6,6,0,5,9,0,0,0,9,0,0,0,9,40000,9,8,0,0,0,17,17,0,4001,17,9,0,0,0,9,0,0,0,9,40000,9,8,0,0,0,18,18,0,4002,50000,18,0,0,30019,0,9,9,0,120019,0,0,9,0,20,20,9,50000,17,0,0,30021,0,9,9,0,120021,0,0,9,0,22,22,9,0,9,9,0,0,40009,30016,15,23,15,15,4003,0,0,16,6,0,0,0,6,0,0,0,6,6,0,5,9,60000,24,24,0,0,0,24,9,0,0,0,9,0,0,0,9,0,25,0,0,a,0,0,b,b,24,9,60000,9,0,9,0,0,0,9,9,0,8,c,d,e,500,0,500,40025])
abbrev Os a:=(Rf (.builtin "tuple.__ne__" ⟨[(dV a 4),(dV a 12)],[]⟩:Code))/\((Rf (.type ("tuple"):Value))/\(Rf (.type ("tuple"):Value)))
abbrev Ar a b c:=(.str (Str.mk ⟨[a]⟩) (Y8 b c):Value)
abbrev L8 a b c d:=(Rf (.builtin "list.__setitem__" ⟨[(Yp a),(dV b c),(dV b d)],[]⟩:Code))/\(Rf (false:Bool))
abbrev qx:=WW->ae
noncomputable abbrev xS(a:Array Value)(b:Nat):=a[(Yh b).toNat]?
abbrev LR(a b:Nat)(c:Array Value)(d e:Nat)(f:Tok):=(Yo a)/\((Rf (A b:Addr))/\(((xS c d):i6)=(some (.str (Str.mk ⟨[e]⟩) f))))
noncomputable abbrev jG a:=Qh a 67 19
noncomputable abbrev jR a:=Qh a 70 32
noncomputable abbrev pG a b:=(.str ⟨⟨[a]⟩⟩ b:Value)
noncomputable abbrev jz(a:WW)(b c:Nat):=cond a.b2 b c
noncomputable abbrev JP:=[0,1,2,3,4,5,6,7,8,9]
abbrev OB a b c:=av (.builtin "str.isspace" ⟨[(Ar a b c)],[]⟩) [] wx/\Yc
section
variable(W:WW)(p0 p1:Pos)(vA:FA)(aS aF aD aR aL aC aM aI:Nat)(u1 u2 u3 u4 u5 u6 u7 u8 u9 u10 u11 u12 u13 q1 q2:Tok)(r1 r2:Addr)(sg:Array Value)(ep1 ep2 ep3 k c:Nat)(vOld:Value)(lines:Array Value)(tc:Tok)(s:Shared)(hsg:sg[(Yh k).toNat]? =some (pG c tc))(hc:c=49\/c=127)(hsz:lines.size<=1000)
include W p0 p1 vA aS aF aD aR aL aC aM aI u1 u2 u3 u4 u5 u6 u7 u8 u9 u10 u11 u12 u13 q1 q2 r1 r2 sg ep1 ep2 ep3 k c vOld lines tc s hsg hc hsz
theorem nL(hP:az (pW W) (bH (pW W) aS aF aD aR aL aC aM aI u1 u2 u4 u5 u6 u7 u8 u9 u10 u11 u12 u13 q1 [] [] sg ep1 [] 2 (ab lines ep2) q2 ep3 (Yh k)) s):
  ∃s' r1x r2x u3x ep2x q2x ep3x tn,br (Yt W) ⟨ei (pW W) (A aF) (A aI),none,none,eO (pW W) (A aF) p1 vA,none⟩ p0 s s'/\az (pW W) (bH (pW W) aS aF aD aR aL aC aM aI u1 u2 u4 u5 u6 u7 u8 u9 u10 u11 u12 u13 q1 (jG r1x) (jR r2x) sg ep1 [aa (pW W) dM u3x (pG c tc)] 3 (ab (lines.push (pG c tn)) ep2x) q2x ep3x (Int.ofNat k+1)) s'/\af (bH (pW W) aS aF aD aR aL aC aM aI u1 u2 u4 u5 u6 u7 u8 u9 u10 u11 u12 u13 q1 [] [] sg ep1 [] 2 (ab lines ep2) q2 ep3 (Yh k)) s s':=by
 obtain⟨n,tb,gb,hn,ht,hg⟩:=hP.nt
 have hE:= @rfl qx fun W=>bH (pW W) aS aF aD aR aL aC aM aI u1 u2 u4 u5 u6 u7 u8 u9 u10 u11 u12 u13 q1 [] [] sg ep1 [] 2 (ab lines ep2) q2 ep3 (Yh k)
 refine bT hE hP hn ht hg (fun eX W Z hX=>ch (ec (Vw W) 10 [(bF 9 2 (pG c tc)),dS,dS,(fK 14 22),(ee 58 57),mu,(ee 71 70),(Bt (Vw W) [6] (.update (A aL) none (Obj.mapSeq (·.push (Ar c tb 85))) fun _=>ret .none)),(iy 8 82 81)] [] [] []) 1994 (⟨ei (pW W) (A aF) (A aI),none,none,eO (pW W) (A aF) p1 vA,none⟩) (p0) (a8 (ei (pW W) (A aF) (A aI))) [] hX (cN eX n tb gb) (kZ JP Z)) (fun eX W Z hX=>ad (lE eX) (A n) gb (sl hX 0 2) ((LR aI aS sg k c tc)/\ad (lE eX) (A n) gb (sl hX 3 203) (DI/\ad (lE eX) (A n) gb (sl hX 207 22) (DI/\ad (lE eX) (A n) gb (sl hX 230 84) ((Os n)/\ad (lE eX) (A n) gb (sl hX 315 (jz W 372 380)) ((HM n 48 47)/\ad (lE eX) (A n) gb (sl hX (jz W 688 696) (jz W 83 87)) ((OB c tb 76)/\ad (lE eX) (A n) gb (sl hX (jz W 773 785) 67) ((HM n 61 60)/\ad (lE eX) (A n) gb (sl hX (jz W 841 853) (jz W 84 88)) ((mo (Vw W) (.builtin "list.append" ⟨[(Yp aL),(Ar c tb 85)],[]⟩) [((A aL),(some ⟨(.type ("list")),none,(.seq (lines) ep2),⟨[]⟩⟩))] (.update (A aL) none (Obj.mapSeq (·.push (Ar c tb 85))) fun _=>ret .none)/\Yc)/\ad (lE eX) (A n) gb (sl hX (jz W 926 942) 51) ((L8 aM n 72 71)/\ad (lE eX) (A n) gb (sl hX (jz W 978 994) 29) (Z (.again (ei (pW W) (A aF) (A aI))) (Y2 n 73) (Y8 tb 93) true (ax (bH (pW W) aS aF aD aR aL aC aM aI u1 u2 u4 u5 u6 u7 u8 u9 u10 u11 u12 u13 q1 [.int 67 0,.int 19 0,.ref (Y2 n 17)] [.int 70 0,.int 32 0,.ref (Y2 n 45)] sg ep1 [aa (pW W) dM (TK tb) (pG c tc)] 3 (Obj.mapSeq (·.push (.str ⟨⟨[c]⟩⟩ (Y8 tb 85))) (ab lines ep2)) (Y8 tb 90) (bJ ep3 4) (Int.ofNat k+1)))))))))))))) (fun W=>((PI 40001 29 40030 31 30030)++(cond W.b2 (gC [9,30025,40012,50032,12,60032,12,60032,12,32,32,34,40029,0,0,29,0,0,29,500,40031,30030,500,0,500,40025,9,25,25,36,500,38,16,6,0,0,0,6,0,0,0,6,6,0,5,9,0,0,0,9,0,0,0,9,40000,9,8,0,0,0,39,39,0,39,9,60000,9,0,9,0,0,0,9,9,0,8,39,9,0,0,0,9,0,0,0,9,60000,40,40,0,0,0,40,9,0,0,0,9,0,0,0,9,0,41,0,0,1,0,0,42,42,40,9,60000,9,0,9,0,0,0,9,9,0,8,40043,44,30043,501,0,501,40041,9,30041,40012,50045,12,60045,12,60045,12,45,45,47,40042,0,0,42,0,0,42,501,40044,30043,501,0,501,40041,9,41,41,49,501,51,0,0,39,9,60000,52,52,0,0,52,9,0,0,0,9,0,0,0,9,0,53,0,0,40002,0,0,57,57,50058,4004,60058,60059,30058,502,0,502,40053,9,30053,40012,50060,12,60060,12,60060,12,60,60,62,40057,0,57,57,63,63,502,30059,30058,502,0,502,40053,9,53,53,65,502,67,59,3001,4005,16,6,0,0,0,6,0,0,0,6,6,0,5,40007,0,0,16,6,0,0,0,6,0,0,0,6,6,0,5,9,60000,68,68,0,0,68,9,0,0,0,9,0,0,0,9,0,69,0,0,2,0,0,70,70,50071,4006,60071,60072,30071,503,0,503]) (gC [40025,9,30025,40012,50032,12,60032,12,60032,12,32,32,34,40029,0,0,29,0,0,29,500,40031,30030,500,0,500,40025,9,25,25,36,500,38,16,6,0,0,0,6,0,0,0,6,6,0,5,9,0,0,0,9,0,0,0,9,40000,9,8,0,0,0,39,39,0,39,9,60000,9,0,9,0,0,0,9,9,0,8,39,9,0,0,0,9,0,0,0,9,60000,40,40,0,0,0,40,9,0,0,0,9,0,0,0,9,0,41,0,0,1,0,0,42,42,40,9,60000,9,0,9,0,0,0,9,9,0,8,40043,44,30043,501,0,501,80041,9,30041,40012,50045,12,60045,12,60045,12,45,45,47,40042,0,0,42,0,0,42,501,40044,30043,501,0,501,40041,9,41,41,49,501,51,0,0,39,9,60000,52,52,0,0,52,9,0,0,0,9,0,0,0,9,0,53,0,0,40002,0,0,57,57,50058,4004,60058,60059,30058,502,0,502,80053,9,30053,40012,50060,12,60060,12,60060,12,60,60,62,40057,0,57,57,63,63,502,30059,30058,502,0,502,40053,9,53,53,65,502,67,59,3001,4005,16,6,0,0,0,6,0,0,0,6,6,0,5,40007,0,0,16,6,0,0,0,6,0,0,0,6,6,0,5,9,60000,68,68,0,0,68,9,0,0,0,9,0,0,0,9,0,69,0,0,2,0,0,70,70,50071,4006,60071,60072,30071,503,0,503,40069]))++(gC [40069,9,30069,40012,50073,12,60073,12,60073,12,73,73,75,40070,0,70,70,76,76,503,30072,30071,503,0,503,40069,9,69,69,78,503,80,72,7,4007,7,16,6,0,0,0,6,0,0,0,6,6,0,5,9,0,0,0,9,0,0,0,9,40000,9,8,40000,40081,0,50081,9,0,9,0,0,0,9,0,4008,50083,82,82,40009,81,9,0,0,0,9,0,9,0,9,0,0,0,9,0,8,8,8,3000]))) (pc (by kernel_rfl)) rfl ⟨fun _=>bi,fun _=>cD,fun _=>cD,fun _=>ek,fun _=>cZ,fun _=>au,fun _=>cZ,fun _=>nS,fun _=>fF,trivial⟩ trivial rfl fun hX=>?_
 iterate 9 refine rI (by first|exact⟨rfl,rfl⟩|exact⟨rfl,rfl,rfl⟩|exact⟨rfl,rfl,hsg⟩|exact⟨gk hc,rfl⟩|exact⟨fq hsz,rfl⟩) ?_
 exact rF fun s' r _ h3 h4 h5=>⟨s',_,_,_,_,_,_,_,am rfl r,⟨h4,ai h3,hP.nd,hP.lo⟩,h5⟩
abbrev Py(a:WW):=(PI 1 26 40027 28 30027)++(cond a.b2 (gC [9,30025,40012,50029,12,60029,12,60029,12,29,29,31,40026,0,0,26,0,0,26,500,40028,30027,500,0,500,40025,9,25,25,33,500,35,16,6,0,0,0,6,0,0,0,6,6,0,5,9,0,0,0,9,0,0,0,9,40000,9,8,0,0,0,36,36,0,36,9,60000,9,0,9,0,0,0,9,9,0,8,36,9,0,0,0,9,0,0,0,9,60000,37,37,0,0,0,37,9,0,0,0,9,0,0,0,9,0,38,0,0,1,0,0,39,39,37,9,60000,9,0,9,0,0,0,9,9,0,8,40040,41,30040,501,0,501,40038,9,30038,40012,50042,12,60042,12,60042,12,42,42,44,40039,0,0,39,0,0,39,501,40041,30040,501,0,501,40038,9,38,38,46,501,48,0,0,36,9,60000,49,49,0,0,49,9,0,0,0,9,0,0,0,9,0,50,0,0,2,0,0,51,51,50052,4004,60052,60053,30052,502,0,502,40050,9,30050,40012,50054,12,60054,12,60054,12,54,54,56,40051,0,51,51,57,57,502,30053,30052,502,0,502,40050,9,50,50,59,502,61,53,3001,4005,16,6,0,0,0,6,0,0,0,6,6,0,5,40007,0,0,16,6,0,0,0,6,0,0,0,6,6,0,5,9,60000,62,62,0,0,62,9,0,0,0,9,0,0,0,9,0,63,0,0,2,0,0,64,64,50065,4006,60065,60066,30065,503,0,503]) (gC [40025,9,30025,40012,50029,12,60029,12,60029,12,29,29,31,40026,0,0,26,0,0,26,500,40028,30027,500,0,500,40025,9,25,25,33,500,35,16,6,0,0,0,6,0,0,0,6,6,0,5,9,0,0,0,9,0,0,0,9,40000,9,8,0,0,0,36,36,0,36,9,60000,9,0,9,0,0,0,9,9,0,8,36,9,0,0,0,9,0,0,0,9,60000,37,37,0,0,0,37,9,0,0,0,9,0,0,0,9,0,38,0,0,1,0,0,39,39,37,9,60000,9,0,9,0,0,0,9,9,0,8,40040,41,30040,501,0,501,80038,9,30038,40012,50042,12,60042,12,60042,12,42,42,44,40039,0,0,39,0,0,39,501,40041,30040,501,0,501,40038,9,38,38,46,501,48,0,0,36,9,60000,49,49,0,0,49,9,0,0,0,9,0,0,0,9,0,50,0,0,2,0,0,51,51,50052,4004,60052,60053,30052,502,0,502,80050,9,30050,40012,50054,12,60054,12,60054,12,54,54,56,40051,0,51,51,57,57,502,30053,30052,502,0,502,40050,9,50,50,59,502,61,53,3001,4005,16,6,0,0,0,6,0,0,0,6,6,0,5,40007,0,0,16,6,0,0,0,6,0,0,0,6,6,0,5,9,60000,62,62,0,0,62,9,0,0,0,9,0,0,0,9,0,63,0,0,2,0,0,64,64,50065,4006,60065,60066,30065,503,0,503,40063]))++(gC [40063,9,30063,40012,50067,12,60067,12,60067,12,67,67,69,40064,0,64,64,70,70,503,30066,30065,503,0,503,40063,9,63,63,72,503,74,66,7,4007,7,16,6,0,0,0,6,0,0,0,6,6,0,5,9,0,0,0,9,0,0,0,9,40000,9,8,40000,40075,0,50075,9,0,9,0,0,0,9,0,4008,50077,76,76,40009,75,9,0,0,0,9,0,9,0,9,0,0,0,9,0,8,8,8,3000])
theorem oh(hP:az (pW W) (bH (pW W) aS aF aD aR aL aC aM aI u1 u2 u4 u5 u6 u7 u8 u9 u10 u11 u12 u13 q1 (jG r1) (jR r2) sg ep1 [] 2 (ab lines ep2) q2 ep3 (Yh k)) s):
  ∃s' r1x r2x u3x ep2x q2x ep3x tn,br (Yt W) ⟨ei (pW W) (A aF) (A aI),none,none,eO (pW W) (A aF) p1 vA,none⟩ p0 s s'/\az (pW W) (bH (pW W) aS aF aD aR aL aC aM aI u1 u2 u4 u5 u6 u7 u8 u9 u10 u11 u12 u13 q1 (jG r1x) (jR r2x) sg ep1 [aa (pW W) dM u3x (pG c tc)] 3 (ab (lines.push (pG c tn)) ep2x) q2x ep3x (Int.ofNat k+1)) s'/\af (bH (pW W) aS aF aD aR aL aC aM aI u1 u2 u4 u5 u6 u7 u8 u9 u10 u11 u12 u13 q1 (jG r1) (jR r2) sg ep1 [] 2 (ab lines ep2) q2 ep3 (Yh k)) s s':=by
 obtain⟨n,tb,gb,hn,ht,hg⟩:=hP.nt
 have hE:= @rfl qx fun W=>bH (pW W) aS aF aD aR aL aC aM aI u1 u2 u4 u5 u6 u7 u8 u9 u10 u11 u12 u13 q1 (jG r1) (jR r2) sg ep1 [] 2 (ab lines ep2) q2 ep3 (Yh k)
 refine bT hE hP hn ht hg (fun eX W Z hX=>ch (ec (Vw W) 10 [(bF 9 2 (pG c tc)),dS,dS,(fK 14 22),(ee 52 51),mu,(ee 65 64),(Bt (Vw W) [6] (.update (A aL) none (Obj.mapSeq (·.push (Ar c tb 75))) fun _=>ret .none)),(iy 8 76 75)] [] [] []) 1972 (⟨ei (pW W) (A aF) (A aI),none,none,eO (pW W) (A aF) p1 vA,none⟩) (p0) (a8 (ei (pW W) (A aF) (A aI))) [] hX (cN eX n tb gb) (kZ JP Z)) (fun eX W Z hX=>ad (lE eX) (A n) gb (sl hX 0 2) ((LR aI aS sg k c tc)/\ad (lE eX) (A n) gb (sl hX 3 203) (DI/\ad (lE eX) (A n) gb (sl hX 207 22) (DI/\ad (lE eX) (A n) gb (sl hX 230 84) ((Os n)/\ad (lE eX) (A n) gb (sl hX 315 (jz W 366 374)) ((HM n 42 41)/\ad (lE eX) (A n) gb (sl hX (jz W 682 690) (jz W 83 87)) ((OB c tb 66)/\ad (lE eX) (A n) gb (sl hX (jz W 767 779) 67) ((HM n 55 54)/\ad (lE eX) (A n) gb (sl hX (jz W 835 847) (jz W 84 88)) ((mo (Vw W) (.builtin "list.append" ⟨[(Yp aL),(Ar c tb 75)],[]⟩) [((A aL),(some ⟨(.type ("list")),none,(.seq (lines) ep2),⟨[]⟩⟩))] (.update (A aL) none (Obj.mapSeq (·.push (Ar c tb 75))) fun _=>ret .none)/\Yc)/\ad (lE eX) (A n) gb (sl hX (jz W 920 936) 51) ((L8 aM n 66 65)/\ad (lE eX) (A n) gb (sl hX (jz W 972 988) 29) (Z (.again (ei (pW W) (A aF) (A aI))) (Y2 n 67) (Y8 tb 83) true (ax (bH (pW W) aS aF aD aR aL aC aM aI u1 u2 u4 u5 u6 u7 u8 u9 u10 u11 u12 u13 q1 (jG r1) (jR r2) sg ep1 [aa (pW W) dM (TK tb) (pG c tc)] 3 (Obj.mapSeq (·.push (.str ⟨⟨[c]⟩⟩ (Y8 tb 75))) (ab lines ep2)) (Y8 tb 80) (bJ ep3 4) (Int.ofNat k+1)))))))))))))) (fun W=>(Py W)) (pc (by kernel_rfl)) rfl ⟨fun _=>bi,fun _=>cD,fun _=>cD,fun _=>ek,fun _=>cZ,fun _=>au,fun _=>cZ,fun _=>nS,fun _=>fF,trivial⟩ trivial rfl fun hX=>?_
 iterate 9 refine rI (by first|exact⟨rfl,rfl⟩|exact⟨rfl,rfl,rfl⟩|exact⟨rfl,rfl,hsg⟩|exact⟨gk hc,rfl⟩|exact⟨fq hsz,rfl⟩) ?_
 exact rF fun s' r _ h3 h4 h5=>⟨s',_,_,_,_,_,_,_,am rfl r,⟨h4,ai h3,hP.nd,hP.lo⟩,h5⟩
theorem rV(hP:az (pW W) (bH (pW W) aS aF aD aR aL aC aM aI u1 u2 u4 u5 u6 u7 u8 u9 u10 u11 u12 u13 q1 (jG r1) (jR r2) sg ep1 [aa (pW W) dM u3 vOld] 3 (ab lines ep2) q2 ep3 (Yh k)) s){Q:Prop}(kQ:∀s' r1x r2x u3x ep2x q2x ep3x tn,br (Yt W) ⟨ei (pW W) (A aF) (A aI),none,none,eO (pW W) (A aF) p1 vA,none⟩ p0 s s'->az (pW W) (bH (pW W) aS aF aD aR aL aC aM aI u1 u2 u4 u5 u6 u7 u8 u9 u10 u11 u12 u13 q1 (jG r1x) (jR r2x) sg ep1 [aa (pW W) dM u3x (pG c tc)] 3 (ab (lines.push (pG c tn)) ep2x) q2x ep3x (Int.ofNat k+1)) s'->af (bH (pW W) aS aF aD aR aL aC aM aI u1 u2 u4 u5 u6 u7 u8 u9 u10 u11 u12 u13 q1 (jG r1) (jR r2) sg ep1 [aa (pW W) dM u3 vOld] 3 (ab lines ep2) q2 ep3 (Yh k)) s s'->Q):Q:=by
 obtain⟨n,tb,gb,hn,ht,hg⟩:=hP.nt
 have hE:= @rfl qx fun W=>bH (pW W) aS aF aD aR aL aC aM aI u1 u2 u4 u5 u6 u7 u8 u9 u10 u11 u12 u13 q1 (jG r1) (jR r2) sg ep1 [aa (pW W) dM u3 vOld] 3 (ab lines ep2) q2 ep3 (Yh k)
 refine bT hE hP hn ht hg (fun eX W Z hX=>ch (ec (Vw W) 10 [(bF 9 2 (pG c tc)),dS,dS,(fK 14 22),(ee 52 51),mu,(ee 65 64),(Bt (Vw W) [6] (.update (A aL) none (Obj.mapSeq (·.push (Ar c tb 75))) fun _=>ret .none)),(iy 8 76 75)] [] [] []) 1972 (⟨ei (pW W) (A aF) (A aI),none,none,eO (pW W) (A aF) p1 vA,none⟩) (p0) (a8 (ei (pW W) (A aF) (A aI))) [] hX (cN eX n tb gb) (kZ JP Z)) (fun eX W Z hX=>ad (lE eX) (A n) gb (sl hX 0 2) ((LR aI aS sg k c tc)/\ad (lE eX) (A n) gb (sl hX 3 203) (DI/\ad (lE eX) (A n) gb (sl hX 207 22) (DI/\ad (lE eX) (A n) gb (sl hX 230 84) ((Os n)/\ad (lE eX) (A n) gb (sl hX 315 (jz W 366 374)) ((HM n 42 41)/\ad (lE eX) (A n) gb (sl hX (jz W 682 690) (jz W 83 87)) ((OB c tb 66)/\ad (lE eX) (A n) gb (sl hX (jz W 767 779) 67) ((HM n 55 54)/\ad (lE eX) (A n) gb (sl hX (jz W 835 847) (jz W 84 88)) ((mo (Vw W) (.builtin "list.append" ⟨[(Yp aL),(Ar c tb 75)],[]⟩) [((A aL),(some ⟨(.type ("list")),none,(.seq (lines) ep2),⟨[]⟩⟩))] (.update (A aL) none (Obj.mapSeq (·.push (Ar c tb 75))) fun _=>ret .none)/\Yc)/\ad (lE eX) (A n) gb (sl hX (jz W 920 936) 51) ((L8 aM n 66 65)/\ad (lE eX) (A n) gb (sl hX (jz W 972 988) 29) (Z (.again (ei (pW W) (A aF) (A aI))) (Y2 n 67) (Y8 tb 83) true (ax (bH (pW W) aS aF aD aR aL aC aM aI u1 u2 u4 u5 u6 u7 u8 u9 u10 u11 u12 u13 q1 (jG r1) (jR r2) sg ep1 [aa (pW W) dM u3 (pG c tc)] 3 (Obj.mapSeq (·.push (.str ⟨⟨[c]⟩⟩ (Y8 tb 75))) (ab lines ep2)) (Y8 tb 80) (bJ ep3 4) (Int.ofNat k+1)))))))))))))) (fun W=>(Py W)) (pc (by kernel_rfl)) rfl ⟨fun _=>bi,fun _=>cD,fun _=>cD,fun _=>ek,fun _=>cZ,fun _=>au,fun _=>cZ,fun _=>nS,fun _=>fF,trivial⟩ trivial rfl fun hX=>?_
 iterate 9 refine rI (by first|exact⟨rfl,rfl⟩|exact⟨rfl,rfl,rfl⟩|exact⟨rfl,rfl,hsg⟩|exact⟨gk hc,rfl⟩|exact⟨fq hsz,rfl⟩) ?_
 exact rF fun s' r _ h3 h4 h5=>kQ s' _ _ _ _ _ _ _ (am rfl r) ⟨h4,ai h3,hP.nd,hP.lo⟩ h5
end
theorem qV(W:WW)(p0 p1:Pos)(vA:FA)(aS aF aD aR aL aC aM aI:Nat)(u1 u2 u3 u4 u5 u6 u7 u8 u9 u10 u11 u12 u13 q1 q2:Tok)(r1 r2:Addr)(sg:Array Value)(ep1 ep2 ep3 k m:Nat)(vOld:Value)(lines:Array Value)(tc tl:Tok)(ll:Str)(s:Shared)(hsg:sg[(Int.ofNat k).toNat]? =some (.str ⟨⟨[32]⟩⟩ tc))(hm:lines.size=Nat.add m 1)(hm2:Nat.blt (Nat.succ m) 1000=true)(hl:lines[m]? =some (.str ll tl))(hll:ll.length≠0)(hll2:ll.length<=900)(hP:az (pW W) (bH (pW W) aS aF aD aR aL aC aM aI u1 u2 u4 u5 u6 u7 u8 u9 u10 u11 u12 u13 q1 [.int 67 0,.int 19 0,.ref r1] [.int 70 0,.int 32 0,.ref r2] sg ep1 [aa (pW W) dM u3 vOld] 3 (ab lines ep2) q2 ep3 (Int.ofNat k)) s){Q:Prop}(kQ:∀s' r1x r2x u3x ep2x q2x ep3x tn,br (model pw (Vw W)) ⟨ei (pW W) (A aF) (A aI),none,none,eO (pW W) (A aF) p1 vA,none⟩ p0 s s'->az (pW W) (bH (pW W) aS aF aD aR aL aC aM aI u1 u2 u4 u5 u6 u7 u8 u9 u10 u11 u12 u13 q1 [.int 67 0,.int 19 0,.ref r1x] [.int 70 0,.int 32 0,.ref r2x] sg ep1 [aa (pW W) dM u3x (.str ⟨⟨[32]⟩⟩ tc)] 3 (ab (lines.setIfInBounds m (.str (ll++⟨⟨[32]⟩⟩) tn)) ep2x) q2x ep3x (Int.ofNat k+1)) s'->af (bH (pW W) aS aF aD aR aL aC aM aI u1 u2 u4 u5 u6 u7 u8 u9 u10 u11 u12 u13 q1 [.int 67 0,.int 19 0,.ref r1] [.int 70 0,.int 32 0,.ref r2] sg ep1 [aa (pW W) dM u3 vOld] 3 (ab lines ep2) q2 ep3 (Int.ofNat k)) s s'->Q):Q:=by
 obtain⟨n,tb,gb,hn,ht,hg⟩:=hP.nt
 have hE:= @rfl (WW->ae) fun W=>bH (pW W) aS aF aD aR aL aC aM aI u1 u2 u4 u5 u6 u7 u8 u9 u10 u11 u12 u13 q1 [.int 67 0,.int 19 0,.ref r1] [.int 70 0,.int 32 0,.ref r2] sg ep1 [aa (pW W) dM u3 vOld] 3 (ab lines ep2) q2 ep3 (Int.ofNat k)
 refine bT hE hP hn ht hg (fun eX W Z hX=>ch (ec (Vw W) 10 [(bF 9 2 (.str ⟨⟨[32]⟩⟩ tc)),dS,dS,(fK 14 22),(ee 52 51),(gR 6 m),(cn 6 (.str ll tl)),(ee 65 64),(gf [] (.str ((ll)++(Str.mk ⟨[32]⟩)))),(op 6 m),(iy 8 76 75)] [] [] []) 2012 (⟨ei (pW W) (A aF) (A aI),none,none,eO (pW W) (A aF) p1 vA,none⟩) (p0) (a8 (ei (pW W) (A aF) (A aI))) [] hX (qR eX (A n) (TK tb) gb) (kZ [0,1,2,3,4,5,6,7,8,9] Z)) (fun eX W Z hX=>ad (lE eX) (A n) gb (sl hX 0 2) (((Rf (.builtin "list_iterator.__next__" ⟨[(.ref (A aI))],[]⟩:Code))/\((Rf (A aS:Addr))/\(((sg[(Int.ofNat k).toNat]?):(Option Value))=(some (.str (Str.mk ⟨[32]⟩) tc)))))/\ad (lE eX) (A n) gb (sl hX 3 203) (((Rf (some (NameKind.globalImplicit):Option NameKind))/\(Rf (some (NameKind.free):Option NameKind)))/\ad (lE eX) (A n) gb (sl hX 207 22) (((Rf (some (NameKind.globalImplicit):Option NameKind))/\(Rf (some (NameKind.free):Option NameKind)))/\ad (lE eX) (A n) gb (sl hX 230 84) (((Rf (.builtin "tuple.__ne__" ⟨[(.ref (Nat.add (A n) 4)),(.ref (Nat.add (A n) 12))],[]⟩:Code))/\((Rf (.type ("tuple"):Value))/\(Rf (.type ("tuple"):Value))))/\ad (lE eX) (A n) gb (sl hX 315 (cond W.b2 366 374)) (((Rf (.builtin "list.__iadd__" ⟨[(.ref (Nat.add (A n) 42)),(.ref (Nat.add (A n) 41))],[]⟩:Code))/\((Rf (.type ("generator"):Value))/\(Rf (false:Bool))))/\ad (lE eX) (A n) gb (sl hX (cond W.b2 682 690) (cond W.b2 98 102)) (((Rf (.builtin "len" ⟨[(.ref (A aL))],[]⟩:Code))/\((Rf (.type ("list"):Value))/\((((lines.size):(Nat))=(Nat.add m 1))/\(((m.succ.blt 1000):(Bool))=(true)))))/\ad (lE eX) (A n) gb (sl hX (cond W.b2 781 793) 16) (((Rf (.builtin "list.__getitem__" ⟨[(.ref (A aL)),(.int (Int.negSucc 0) (Nat.add (TK tb) 72))],[]⟩:Code))/\((Rf (true:Bool))/\((((seqIndex? (-(Value.int 1 ((TK tb).add 71),1).snd) lines.size).bind fun j=>lines[j]?):(Option Value))=(some (.str (ll) tl)))))/\ad (lE eX) (A n) gb (sl hX (cond W.b2 798 810) 50) (((Rf (.builtin "list.__iadd__" ⟨[(.ref (Nat.add (A n) 55)),(.ref (Nat.add (A n) 54))],[]⟩:Code))/\((Rf (.type ("generator"):Value))/\(Rf (false:Bool))))/\ad (lE eX) (A n) gb (sl hX (cond W.b2 849 861) (cond W.b2 83 87)) ((av (.builtin "str.__add__" ⟨[(.str (ll) tl),(.str (Str.mk ⟨[32]⟩) (Nat.add (TK tb) 80))],[]⟩) [] (Made.str (ll++{cps:={toList:=[32]}}))/\(Rf (true:Bool)))/\ad (lE eX) (A n) gb (sl hX (cond W.b2 934 950) 3) (((Rf (.builtin "list.__setitem__" ⟨[(.ref (A aL)),(.int (Int.negSucc 0) (Nat.add (TK tb) 72)),(.str (ll++{cps:={toList:=[32]}}) (Nat.add (TK tb) 81))],[]⟩:Code))/\((Rf (true:Bool))/\(((seqIndex? (-(Value.int 1 ((TK tb).add 71),1).snd) lines.size):(Option Nat))=(some m))))/\ad (lE eX) (A n) gb (sl hX (cond W.b2 938 954) 51) (((Rf (.builtin "list.__setitem__" ⟨[(.ref (A aM)),(.ref (Nat.add (A n) 66)),(.ref (Nat.add (A n) 65))],[]⟩:Code))/\(Rf (false:Bool)))/\ad (lE eX) (A n) gb (sl hX (cond W.b2 990 1006) 29) (Z (.again (ei (pW W) (A aF) (A aI))) (Nat.add (A n) 67) (Nat.add (TK tb) 89) true (ax (bH (pW W) aS aF aD aR aL aC aM aI u1 u2 u4 u5 u6 u7 u8 u9 u10 u11 u12 u13 q1 [.int 67 0,.int 19 0,.ref r1] [.int 70 0,.int 32 0,.ref r2] sg ep1 [aa (pW W) dM u3 (.str ⟨⟨[32]⟩⟩ tc)] 3 (Obj.mapSeq (fun xs=>xs.setIfInBounds m (.str (ll++⟨⟨[32]⟩⟩) (Nat.add (TK tb) 81))) (ab lines ep2)) (Nat.add (TK tb) 86) (Nat.add ep3 4) (Int.ofNat k+1)))))))))))))))) (fun W=>((gC [10,10,4000,10,10,4,4,4,6,0,0,0,6,0,0,0,6,6,0,5,9,0,0,0,9,0,0,0,9,40000,9,8,4,0,0,0,60011,0,11,9,0,0,0,9,0,0,0,9,0,0,0,9,8,11,11,9,0,9,9,9,4,6,0,0,0,6,0,0,0,6,40000,6,5,0,0,0,13,13,0,13,6,0,0,0,6,0,0,0,6,6,0,5,9,0,0,0,9,0,0,0,9,40000,9,8,0,0,0,60014,0,14,9,0,0,0,9,0,0,0,9,0,0,0,9,8,14,14,9,0,9,9,9,4,6,0,0,0,6,0,0,0,6,40000,6,5,0,0,0,16,16,0,16,6,0,0,0,6,0,0,0,6,6,0,5,9,0,0,0,9,0,0,0,9,40000,9,8,0,0,0,17,17,0,4001,17,9,0,0,0,9,0,0,0,9,40000,9,8,0,0,0,18,18,0,4002,50000,18,0,0,30019,0,9,9,0,120019,0,0,9,0,20,20,9,50000,17,0,0,30021,0,9,9,0,120021,0,0,9,0,22,22,9,0,9,9,0,0,40009,30016,15,23,15,15,4003,0,0,16,6,0,0,0,6,0,0,0,6,6,0,5,9,60000,24,24,0,0,0,24,9,0,0,0,9,0,0,0,9,0,25,0,0,1,0,0,26,26,24,9,60000,9,0,9,0,0,0,9,9,0,8,40027,28,30027,500,0,500,40025])++(cond W.b2 (gC [9,30025,40012,50029,12,60029,12,60029,12,29,29,31,40026,0,0,26,0,0,26,500,40028,30027,500,0,500,40025,9,25,25,33,500,35,16,6,0,0,0,6,0,0,0,6,6,0,5,9,0,0,0,9,0,0,0,9,40000,9,8,0,0,0,36,36,0,36,9,60000,9,0,9,0,0,0,9,9,0,8,36,9,0,0,0,9,0,0,0,9,60000,37,37,0,0,0,37,9,0,0,0,9,0,0,0,9,0,38,0,0,1,0,0,39,39,37,9,60000,9,0,9,0,0,0,9,9,0,8,40040,41,30040,501,0,501,40038,9,30038,40012,50042,12,60042,12,60042,12,42,42,44,40039,0,0,39,0,0,39,501,40041,30040,501,0,501,40038,9,38,38,46,501,48,0,0,36,9,60000,49,49,0,0,49,9,0,0,0,9,0,0,0,9,0,50,0,0,2,0,0,51,51,50052,4004,60052,60053,30052,502,0,502,40050,9,30050,40012,50054,12,60054,12,60054,12,54,54,56,40051,0,51,51,57,57,502,30053,30052,502,0,502,40050,9,50,50,59,502,61,53,16,6,0,0,0,6,0,0,0,6,6,0,5,7,7,6005,16,6,0,0,0,6,0,0,0,6,6,0,5,7,7,7,4006,0,0,16,6,0,0,0,6,0,0,0,6,6,0,5,9,60000,62,62,0,0,62,9,0,0,0,9,0,0,0,9,0,63,0,0,2,0,0,64,64,50065,4007,60065,60066,30065,503,0,503]) (gC [40025,9,30025,40012,50029,12,60029,12,60029,12,29,29,31,40026,0,0,26,0,0,26,500,40028,30027,500,0,500,40025,9,25,25,33,500,35,16,6,0,0,0,6,0,0,0,6,6,0,5,9,0,0,0,9,0,0,0,9,40000,9,8,0,0,0,36,36,0,36,9,60000,9,0,9,0,0,0,9,9,0,8,36,9,0,0,0,9,0,0,0,9,60000,37,37,0,0,0,37,9,0,0,0,9,0,0,0,9,0,38,0,0,1,0,0,39,39,37,9,60000,9,0,9,0,0,0,9,9,0,8,40040,41,30040,501,0,501,80038,9,30038,40012,50042,12,60042,12,60042,12,42,42,44,40039,0,0,39,0,0,39,501,40041,30040,501,0,501,40038,9,38,38,46,501,48,0,0,36,9,60000,49,49,0,0,49,9,0,0,0,9,0,0,0,9,0,50,0,0,2,0,0,51,51,50052,4004,60052,60053,30052,502,0,502,80050,9,30050,40012,50054,12,60054,12,60054,12,54,54,56,40051,0,51,51,57,57,502,30053,30052,502,0,502,40050,9,50,50,59,502,61,53,16,6,0,0,0,6,0,0,0,6,6,0,5,7,7,6005,16,6,0,0,0,6,0,0,0,6,6,0,5,7,7,7,4006,0,0,16,6,0,0,0,6,0,0,0,6,6,0,5,9,60000,62,62,0,0,62,9,0,0,0,9,0,0,0,9,0,63,0,0,2,0,0,64,64,50065,4007,60065,60066,30065,503,0,503,40063]))++(gC [40063,9,30063,40012,50067,12,60067,12,60067,12,67,67,69,40064,0,64,64,70,70,503,30066,30065,503,0,503,40063,9,63,63,72,503,74,66,3001,4008,7,7,7,4009,7,16,6,0,0,0,6,0,0,0,6,6,0,5,9,0,0,0,9,0,0,0,9,40000,9,8,40000,40075,0,50075,9,0,9,0,0,0,9,0,4010,50077,76,76,40009,75,9,0,0,0,9,0,9,0,9,0,0,0,9,0,8,8,8,3000]))) (pc (by kernel_rfl)) rfl ⟨fun _=>bi,fun _=>cD,fun _=>cD,fun _=>ek,fun _=>cZ,fun _=>hV,fun _=>bA,fun _=>cZ,fun _=>au,fun _=>lJ,fun _=>fF,trivial⟩ trivial rfl fun hX=>?_
 iterate 11 refine rI (by first|exact⟨rfl,rfl⟩|exact⟨rfl,rfl,rfl⟩|exact⟨rfl,rfl,hsg⟩|exact⟨rfl,rfl,hm,hm2⟩|exact⟨rfl,rfl,xG hm hl⟩|exact⟨oS hll (by decide) (by have:(⟨⟨[32]⟩⟩:Str).length=1:=rfl;lia),rfl⟩|exact⟨rfl,rfl,sL hm⟩) ?_
 exact rF fun s' r _ h3 h4 h5=>kQ s' _ _ _ _ _ _ _ (am rfl r) ⟨h4,ai h3,hP.nd,hP.lo⟩ h5
noncomputable abbrev ft:=(.ret (.ok .next):End)
abbrev Ap a:=Rf (A a:Addr)
abbrev uq(a b:Nat)(c:Array Value)(d:Nat):=(Yo a)/\((Ap b)/\(((xS c d):i6)=none))
abbrev ul a b c d:=ec (Vw a) b [(zK c d)] [] [] []
noncomputable abbrev oW:=(.fin ft:Ev)
theorem yC(W:WW)(p0 p1:Pos)(vA:FA)(aS aF aD aR aL aC aM aI:Nat)(u1 u2 u3 u4 u5 u6 u7 u8 u9 u10 u11 u12 u13 q1 q2:Tok)(t140 t147:List Value)(sg:Array Value)(ep1 ep2 ep3 k:Nat)(fr:List DictEntry)(fe:Nat)(lines:Array Value)(s:Shared)(hsg:sg[(Yh k).toNat]? =none)(hP:az (pW W) (bH (pW W) aS aF aD aR aL aC aM aI u1 u2 u4 u5 u6 u7 u8 u9 u10 u11 u12 u13 q1 t140 t147 sg ep1 fr fe (ab lines ep2) q2 ep3 (Yh k)) s){Q:Prop}(kQ:∀s',Runs (Yt W) ⟨ei (pW W) (A aF) (A aI),none,none,eO (pW W) (A aF) p1 vA,none⟩ p0 ((Yt W).den (ei (pW W) (A aF) (A aI))) [] s ft s'->cL (pW W) s'->cG (gW (pW W) aS aF aD aR aL aC aM aI u1 u2 u4 u5 u6 u7 u8 u9 u10 u11 u12 u13 q1 t140 t147 sg ep1 fr fe (ab lines ep2) q2 ep3 (Yh k)) s'.heap->af (bH (pW W) aS aF aD aR aL aC aM aI u1 u2 u4 u5 u6 u7 u8 u9 u10 u11 u12 u13 q1 t140 t147 sg ep1 fr fe (ab lines ep2) q2 ep3 (Yh k)) s s'->Q):Q:=by
 obtain⟨n,tb,gb,hn,ht,hg⟩:=hP.nt
 have hE:= @rfl qx fun W=>bH (pW W) aS aF aD aR aL aC aM aI u1 u2 u4 u5 u6 u7 u8 u9 u10 u11 u12 u13 q1 t140 t147 sg ep1 fr fe (ab lines ep2) q2 ep3 (Yh k)
 refine bT hE hP hn ht hg (fun eX W Z hX=>ch (ul W 10 9 2) 54 (⟨ei (pW W) (A aF) (A aI),none,none,eO (pW W) (A aF) p1 vA,none⟩) (p0) (a8 (ei (pW W) (A aF) (A aI))) [] hX (cN eX n tb gb) (kZ JP Z)) (fun eX W Z hX=>ad (lE eX) (A n) gb (sl hX 0 2) ((uq aI aS sg k)/\ad (lE eX) (A n) gb (sl hX 3 3) (Z oW (Y2 n 2) (Y8 tb 0) true (ax (gW (pW W) aS aF aD aR aL aC aM aI u1 u2 u4 u5 u6 u7 u8 u9 u10 u11 u12 u13 q1 t140 t147 sg ep1 fr fe (ab lines ep2) q2 ep3 (Yh k)))))) (fun _=>[10,10,4000,10,10,12]) (oU (by kernel_rfl)) rfl ⟨fun _=>ce,trivial⟩ trivial rfl fun hX=>?_
 refine rI (by first|exact⟨rfl,rfl,hsg⟩) ?_
 exact rF fun s' r _ h3 h4 h5=>kQ s' (by rw [bG];exact r) h4 (ai h3) h5
def cM(sg:Array Value)(cs:List Nat):Prop:=∀i:Nat,match cs[i]? with
 |some c=>∃t,sg[i]? =some (.str ⟨⟨[c]⟩⟩ t)
 |none=>sg[i]? =none
def aQ(lines:Array Value)(ls:List (List Nat)):Prop:=lines.size=ls.length/\∀(i:Nat) (l:List Nat),ls[i]? =some l->∃t,lines[i]? =some (.str ⟨⟨l⟩⟩ t)
noncomputable def cP(ls:List (List Nat))(c:Nat):List (List Nat):=if c=32 then ls.dropLast++(match ls.getLast? with|some l=>[l++[32]]|none=>[]) else ls++[[c]]
noncomputable def dZ(cs:List Nat):List (List Nat):=cs.foldl cP []
theorem aQ.push{lines:Array Value}{ls:List (List Nat)}{c:Nat}{t:Tok}(h:aQ lines ls):aQ (lines.push (.str ⟨⟨[c]⟩⟩ t)) (ls++[[c]]):=by
 refine⟨by simp [h.1],fun i l e=>?_⟩
 by_cases q:i<ls.length
 ·rw [getElem?_append_left q] at e
  rw [getElem?_push,if_neg (by rw [h.1];lia)]
  exact h.2 i l e
 ·rw [getElem?_append_right (by lia)] at e
  have hl:=(List.getElem?_eq_some_iff.mp e).1
  have:i=ls.length:=by simp at hl;lia
  subst this
  simp at e
  rw [getElem?_push,if_pos (by rw [h.1])]
  exact⟨t,by rw [<-e]⟩
theorem aQ.last{lines:Array Value}{ls:List (List Nat)}{l:List Nat}{m:Nat}{t:Tok}(h:aQ lines (ls++[l]))(hm:lines.size=Nat.add m 1):
  aQ (lines.setIfInBounds m (.str (⟨⟨l⟩⟩++⟨⟨[32]⟩⟩) t)) (ls++[l++[32]]):=by
 have e1:m=ls.length:=by have:=h.1;rw [hm] at this;simp at this;exact this
 refine⟨by rw [Array.size_setIfInBounds,h.1];simp,fun i x e=>?_⟩
 by_cases q:i<ls.length
 ·rw [getElem?_append_left q] at e
  rw [getElem?_setIfInBounds,if_neg (by lia)]
  exact h.2 i x (by rw [getElem?_append_left q];exact e)
 ·rw [getElem?_append_right (by lia)] at e
  have hl:=(List.getElem?_eq_some_iff.mp e).1
  have:i=ls.length:=by simp at hl;lia
  subst this
  simp at e
  rw [getElem?_setIfInBounds,if_pos e1,if_pos (by rw [hm,e1];exact Nat.lt_succ_self _)]
  refine⟨t,?_⟩
  rw [<-e]
  congr 2
  exact Str.ext' (by show(⟨l⟩:Array Nat)++⟨[32]⟩=⟨l++[32]⟩;simp)
structure Gk where
 r1:Addr
 r2:Addr
 u3:Tok
 v:Value
 lines:Array Value
 ep2:Nat
 q2:Tok
 ep3:Nat
 k:Nat
theorem cM.none{sg:Array Value}{cs:List Nat}(h:cM sg cs){k:Nat}(e:cs.drop k=[]):sg[(Int.ofNat k).toNat]? =none:=by
 have z:=h k
 rw [List.getElem?_eq_none (List.drop_eq_nil_iff.mp e)] at z
 exact z
theorem ww{cs:List Nat}{k c:Nat}{rest:List Nat}(e:cs.drop k=c::rest):cs[k]? =some c/\cs.drop (k+1)=rest:=by
 refine⟨?_,?_⟩
 ·have:=getElem?_drop (xs:=cs) (i:=k) (j:=0)
  rw [e] at this;simpa using this.symm
 ·rw [<-drop_drop,e];rfl
theorem cM.some{sg:Array Value}{cs:List Nat}(h:cM sg cs){k c:Nat}(e:cs[k]? =some c):∃t,sg[(Int.ofNat k).toNat]? =some (.str ⟨⟨[c]⟩⟩ t):=by
 have z:=h k
 rw [e] at z
 exact z
theorem gS(ls:List (List Nat))(l:List Nat):cP (ls++[l]) 32=ls++[l++[32]]:=by simp [cP]
theorem dK(ls:List (List Nat)){c:Nat}(h:c=49\/c=127):cP ls c=ls++[[c]]:=by
 unfold cP;rw [if_neg (by lia)]
section
variable(W:WW)(p1:Pos)(vA:FA)(aS aF aD aR aL aC aM aI:Nat)(u1 u2 u4 u5 u6 u7 u8 u9 u10 u11 u12 u13 q1:Tok)(sg:Array Value)(ep1:Nat)
include W p1 vA aS aF aD aR aL aC aM aI u1 u2 u4 u5 u6 u7 u8 u9 u10 u11 u12 u13 q1 sg ep1
theorem AH(cs:List Nat)(hs:cM sg cs):∀(rest:List Nat) (k:Nat) (ls:List (List Nat)) (l:List Nat) (r1 r2:Addr) (u3:Tok) (vOld:Value) (lines:Array Value) (ep2:Nat) (q2:Tok) (ep3:Nat) (p0:Pos) (s:Shared),
  cs.drop k=rest->(∀c∈rest,c=49\/c=127\/c=32)->aQ lines (ls++[l])->l≠[]->l.length+rest.length<=100->ls.length+rest.length<=100->az (pW W) (bH (pW W) aS aF aD aR aL aC aM aI u1 u2 u4 u5 u6 u7 u8 u9 u10 u11 u12 u13 q1 (jG r1) (jR r2) sg ep1 [aa (pW W) dM u3 vOld] 3 (ab lines ep2) q2 ep3 (Yh k)) s->
  ∀Q:Prop,(∀(s':Shared) (x:Gk),Runs (Yt W) ⟨ei (pW W) (A aF) (A aI),none,none,eO (pW W) (A aF) p1 vA,none⟩ p0 ((Yt W).den (ei (pW W) (A aF) (A aI))) [] s ft s'->cL (pW W) s'->cG (gW (pW W) aS aF aD aR aL aC aM aI u1 u2 u4 u5 u6 u7 u8 u9 u10 u11 u12 u13 q1 [.int 67 0,.int 19 0,.ref x.r1] [.int 70 0,.int 32 0,.ref x.r2] sg ep1 [aa (pW W) dM x.u3 x.v] 3 (ab x.lines x.ep2) x.q2 x.ep3 (Int.ofNat x.k)) s'.heap->af (bH (pW W) aS aF aD aR aL aC aM aI u1 u2 u4 u5 u6 u7 u8 u9 u10 u11 u12 u13 q1 (jG r1) (jR r2) sg ep1 [aa (pW W) dM u3 vOld] 3 (ab lines ep2) q2 ep3 (Yh k)) s s'->aQ x.lines (rest.foldl cP (ls++[l]))->Q)->Q:=by
 intro rest0
 induction rest0 with
 |nil=>
  intro k ls l r1 r2 u3 vOld lines ep2 q2 ep3 p0 s hd hc hl hne z1 z2 hP Q kQ
  apply yC (W:=W) (p0:=p0) (u3:=u3) (hsg:=hs.none hd) (hP:=hP) (kQ:=?k1) ..
  case' k1=>intro s' r h1 h2 h3
  exact kQ s' ⟨r1,r2,u3,vOld,lines,ep2,q2,ep3,k⟩ r h1 h2 h3 hl
 |cons c rest ih=>
  intro k ls l r1 r2 u3 vOld lines ep2 q2 ep3 p0 s hd hc hl hne z1 z2 hP Q kQ
  obtain⟨hk,hd'⟩:=ww hd
  obtain⟨tc,ht⟩:=hs.some hk
  have hc':∀c∈rest,c=49\/c=127\/c=32:=fun c h=>hc c (mem_cons_of_mem _ h)
  have hsz:=hl.1
  simp only [List.length_append,length_cons,List.length_nil] at hsz z1 z2
  by_cases q:c=32
  ·subst q
   obtain⟨tl,hlast⟩:=hl.2 ls.length l (by simp)
   apply qV (W:=W) (m:=ls.length) (ll:=⟨⟨l⟩⟩) (hsg:=ht) (hm:=hsz) (hm2:=Nat.ble_eq_true_of_le (by lia)) (hl:=hlast) (hll:=by intro e;exact hne (List.length_eq_zero_iff.mp e)) (hll2:=by show l.length<=900;lia) (hP:=hP) (p0:=p0) (kQ:=?k2) ..
   case' k2=>intro s1 r1x r2x u3x ep2x q2x ep3x tn H hP' K
   obtain⟨p',H⟩:=H
   refine ih (k+1) ls (l++[32]) _ _ _ _ _ _ _ _ p' s1 hd' hc' (hl.last hsz) (by simp) (by simp;lia) (by lia) hP' _ fun s2 x r h1 h2 h3 h4=>?_
   exact kQ s2 x (H _ _ r) h1 h2 (K.trans (h3.cast rfl)) (by rw [foldl_cons,gS];exact h4)
  ·have hcc:c=49\/c=127:=by rcases hc c (mem_cons_self ..) with h|h|h<;>lia
   apply rV (W:=W) (hsg:=ht) (hc:=hcc) (hsz:=by lia) (hP:=hP) (p0:=p0) (kQ:=?k3) ..
   case' k3=>intro s1 r1x r2x u3x ep2x q2x ep3x tn H hP' K
   obtain⟨p',H⟩:=H
   refine ih (k+1) (ls++[l]) [c] _ _ _ _ _ _ _ _ p' s1 hd' hc' hl.push (by simp) (by simp;lia) (by simp;lia) hP' _ fun s2 x r h1 h2 h3 h4=>?_
   exact kQ s2 x (H _ _ r) h1 h2 (K.trans (h3.cast rfl)) (by rw [foldl_cons,dK _ hcc];exact h4)
noncomputable abbrev mV:=(.ok .next:Result)
noncomputable def zC(W:WW)(p1:Pos)(vA:FA)(aS aF aD aR aL aC aM aI:Nat)(u1 u2 u4 u5 u6 u7 u8 u9 u10 u11 u12 u13 q1:Tok)(sg:Array Value)(ep1:Nat)(x:Gk):Result×List Obj×ae:=(mV,(gW (pW W) aS aF aD aR aL aC aM aI u1 u2 u4 u5 u6 u7 u8 u9 u10 u11 u12 u13 q1 [.int 67 0,.int 19 0,.ref x.r1] [.int 70 0,.int 32 0,.ref x.r2] sg ep1 [aa (pW W) dM x.u3 x.v] 3 (ab x.lines x.ep2) x.q2 x.ep3 (Int.ofNat x.k)).map (·.2),[])
noncomputable abbrev Yx:=Int.ofNat 0
theorem uw(c0:Nat)(cs:List Nat)(hs:cM sg (c0::cs))(h0:c0=49\/c0=127)(hc:∀c∈cs,c=49\/c=127\/c=32)(hlen:cs.length<=50)(t140 t147:List Value)(htab:t140=[]/\t147=[]\/∃r1 r2,t140=(jG r1)/\t147=(jR r2))(ep2:Nat)(q2:Tok)(ep3:Nat):
  cm (Vw W) ⟨ei (pW W) (A aF) (A aI),none,none,eO (pW W) (A aF) p1 vA,none⟩ (bH (pW W) aS aF aD aR aL aC aM aI u1 u2 u4 u5 u6 u7 u8 u9 u10 u11 u12 u13 q1 t140 t147 sg ep1 [] 2 (ab ⟨[]⟩ ep2) q2 ep3 Yx) (zC W p1 vA aS aF aD aR aL aC aM aI u1 u2 u4 u5 u6 u7 u8 u9 u10 u11 u12 u13 q1 sg ep1) (fun x=>aQ x.lines (dZ (c0::cs))):=by
 intro p0 s hP
 refine gQ fun Q zQ=>?_
 obtain⟨tc,ht⟩:=hs.some (k:=0) rfl
 have key:∃s' r1x r2x u3x ep2x q2x ep3x tn,br (Yt W) ⟨ei (pW W) (A aF) (A aI),none,none,eO (pW W) (A aF) p1 vA,none⟩ p0 s s'/\az (pW W) (bH (pW W) aS aF aD aR aL aC aM aI u1 u2 u4 u5 u6 u7 u8 u9 u10 u11 u12 u13 q1 (jG r1x) (jR r2x) sg ep1 [aa (pW W) dM u3x (pG c0 tc)] 3 (ab ((⟨[]⟩:Array Value).push (pG c0 tn)) ep2x) q2x ep3x (Int.ofNat 0+1)) s'/\af (bH (pW W) aS aF aD aR aL aC aM aI u1 u2 u4 u5 u6 u7 u8 u9 u10 u11 u12 u13 q1 t140 t147 sg ep1 [] 2 (ab ⟨[]⟩ ep2) q2 ep3 Yx) s s':=by
  rcases htab with⟨rfl,rfl⟩|⟨r1,r2,rfl,rfl⟩
  ·exact nL (W:=W) (p0:=p0) (hsg:=ht) (hc:=h0) (hsz:=by simp) (hP:=hP) (lines:=⟨[]⟩) (u3:=0) (r1:=0) (r2:=0) (vOld:=.none) ..
  ·exact oh (W:=W) (p0:=p0) (hsg:=ht) (hc:=h0) (hsz:=by simp) (hP:=hP) (lines:=⟨[]⟩) (u3:=0) (vOld:=.none) ..
 obtain⟨s1,r1x,r2x,u3x,ep2x,q2x,ep3x,tn,H,hP',K⟩:=key
 obtain⟨p',H⟩:=H
 refine zQ ?_
 have hl:aQ ((⟨[]⟩:Array Value).push (pG c0 tn)) ([]++[[c0]]):=aQ.push (ls:=[]) ⟨rfl,fun i l e=>by simp at e⟩
 refine AH W p1 vA aS aF aD aR aL aC aM aI u1 u2 u4 u5 u6 u7 u8 u9 u10 u11 u12 u13 q1 sg ep1 (c0::cs) hs cs 1 [] [c0] _ _ _ _ _ _ _ _ p' s1 rfl hc hl (by simp) (by simp;lia) (by simp;lia) hP' _ fun s2 x r h1 h2 h3 h4=>?_
 exact⟨x,s2,H _ _ r,h1,K.trans (h3.cast rfl),h2,trivial,(fun y hy=>nomatch hy),nodup_nil,by rw [dZ,foldl_cons,dK _ h0];exact h4⟩
end
structure cA where
 t:Tok
noncomputable def bM(ls:List (List Nat)):List Str:=ls.map fun l=>⟨⟨l⟩⟩
noncomputable def yo(sep:List Nat)(ls:List (List Nat)):Str:=Builtin.Str.glued ⟨⟨sep⟩⟩ (bM ls)
theorem jd:∀(ls:List (List Nat)) (vs:List Value),vs.length=ls.length->(∀(i:Nat) (l:List Nat),ls[i]? =some l->∃t,vs[i]? =some (.str ⟨⟨l⟩⟩ t))->∃ps:List (Str×Tok),vs=strValues ps/\ps.map (·.1)=bM ls
 |[],[],_,_=>⟨[],rfl,rfl⟩
 |[],_::_,h,_=>by simp at h
 |_::_,[],h,_=>by simp at h
 |l::ls,v::vs,h,g=>by
  obtain⟨t,e⟩:=g 0 l rfl
  simp at e
  obtain⟨ps,e1,e2⟩:=jd ls vs (by simpa using h) fun i l' e'=>by simpa using g (i+1) l' (by simpa using e')
  exact⟨(⟨⟨l⟩⟩,t)::ps,by rw [e,e1];rfl,by rw [map_cons,e2];rfl⟩
theorem mM(k:Nat):∀(ls:List Str) (a:Nat),(ls.foldl (fun n (s:Str)=>n+s.length+k) a)=a+(ls.map fun s=>s.length+k).sum
 |[],a=>by simp
 |x::ls,a=>by rw [foldl_cons,mM k ls,map_cons,sum_cons];lia
theorem iq(g:Str):∀(ls:List Str) (a:Array Nat),(ls.foldl (fun acc p=>acc++g.cps++p.cps) a).size=a.size+(ls.map fun s=>s.length+g.length).sum
 |[],a=>by simp
 |x::ls,a=>by
  rw [foldl_cons,iq g ls,map_cons,sum_cons,size_append,size_append]
  show a.size+g.cps.size+x.cps.size+_=a.size+(x.cps.size+g.cps.size+_)
  lia
theorem vr(g:Str)(ls:List Str):(Builtin.Str.glued g ls).length<=(ls.map fun s=>s.length+g.length).sum:=by
 cases ls with
 |nil=>exact zero_le _
 |cons x ls=>
  show((ls.foldl (fun acc p=>acc++g.cps++p.cps) x.cps)).size<=_
  rw [iq,map_cons,sum_cons]
  show x.cps.size+_<=x.cps.size+g.length+_
  lia
noncomputable def BI:Value->Str
 |.str s _=>s
 |_=>Str.empty
noncomputable def bK(sp:Str)(items:Array Value):Str:=Builtin.Str.glued sp (items.toList.map BI)
def gv(sp:Str)(items:Array Value):Prop:=∃ps:List (Str×Tok),items=(strValues ps).toArray/\((ps.map (·.1)).map fun s=>s.length+sp.length).sum<=5000
theorem ip(sp:Str)(ps:List (Str×Tok)):bK sp (strValues ps).toArray=Builtin.Str.glued sp (ps.map (·.1)):=by
 unfold bK strValues
 rw [map_map];rfl
theorem gd{sp:Str}{lines:Array Value}{ls:List (List Nat)}(h:aQ lines ls)(hsz:((bM ls).map fun s=>s.length+sp.length).sum<=5000):gv sp lines/\bK sp lines=Builtin.Str.glued sp (bM ls):=by
 obtain⟨ps,e1,e2⟩:=jd ls lines.toList (by simpa using h.1) fun i l e=>by simpa using h.2 i l e
 have e1:lines=(strValues ps).toArray:=by rw [<-e1]
 exact⟨⟨ps,e1,by rw [e2];exact hsz⟩,by rw [e1,ip,e2]⟩
theorem rD{w:World}{sp:Str}{ts:Tok}{a:Nat}{items:Array Value}{ep:Nat}(h:gv sp items){G:Ctx}{p:Pos}{s:Shared}(hG:G.code=.builtin "str.join" ⟨[.str sp ts,.ref a],[]⟩)(hP:az w.params [(a,((Ge items ep):Obj))] s):
  fV w G [(a,(Ge items ep))] (fun x:cA=>(.ok (.ret (.str (bK sp items) x.t)),[(Ge items ep)],[])) (fun _=>True) p s:=by
 obtain⟨ps,rfl,hsz⟩:=h
 have hl:Builtin.Str.tooLong ((ps.map (·.1)).toArray.foldl (·+·.length+sp.length) 0)=false:=by
  unfold Builtin.Str.tooLong
  rw [List.foldl_toArray',mM]
  ·simp only [zero_add]
   rw [decide_eq_false_iff_not]
   rw [sizeLine_eq];lia
  ·rfl
 have g:=meets_str_join_list sp ts a ps hl
 have hL:s.heap.IsList a (strValues ps).toArray:=⟨_,hP.has.1,rfl,ep,rfl⟩
 have hlen:(Builtin.Str.glued sp (ps.map (·.1))).length<=sizeLine:=by
  have:=vr sp (ps.map (·.1))
  rw [sizeLine_eq];lia
 have key:∃t s',(joinMade sp ps).post (fun v s''=>(Except.ok (.ret v):Result)=.ok (.ret (.str (bK sp (strValues ps).toArray) t))/\s''=s') s/\(s'=s\/s'={s with toks:=s.toks+1}):=by
  rw [ip]
  match ps,hlen with
  |[q],_=>exact⟨q.2,s,⟨rfl,rfl⟩,.inl rfl⟩
  |[],hlen=>exact⟨s.toks,_,⟨hlen,rfl,rfl⟩,.inr rfl⟩
  |q::q'::r,hlen=>exact⟨s.toks,_,⟨hlen,rfl,rfl⟩,.inr rfl⟩
 obtain⟨t,s',hp,hs⟩:=key
 have R:=bu (pr:=pw) (w:=w) g (Γ:=G) (p:=p) (s:=s) (s':=s') (r:=.ok (.ret (.str (bK sp (strValues ps).toArray) t))) (by rw [hG];rfl) ⟨hL,hp⟩
 refine⟨⟨t⟩,s',by rw [hG,bh PySem.F.entry_str_join];exact R,?_,?_,?_,trivial,(fun y hy=>nomatch hy),nodup_nil,trivial⟩
 ·rcases hs with rfl|rfl
  ·exact hP.rdy
  ·exact⟨hP.rdy.base,hP.rdy.gens,hP.rdy.size,Nat.le_succ_of_le hP.rdy.toks⟩
 ·rcases hs with rfl|rfl
  ·exact af.refl
  ·exact⟨fun _ _ q _=>q,rfl,rfl,Nat.le_refl _⟩
 ·rcases hs with rfl|rfl
  ·exact⟨hP.has.1,trivial⟩
  ·exact⟨hP.has.1,trivial⟩
noncomputable def gZ(i mm ro:Nat):bL:=fun Γ p c st K=>wO (C8 c) False fun b=>wA (st.T.get i) False fun cl dd items ep sl=>(c=.builtin "str.join" ⟨[.str b.1 b.2,.ref (bm st.L st.n i)],[]⟩/\(⟨cl,dd,.seq items ep,sl⟩:Obj)=(Ge items ep)/\gv b.1 items)/\
   qe (X:=cA) [(bm st.L st.n i,(Ge items ep))] [i] mm ro (fun x=>(.ok (.ret (.str (bK b.1 items) x.t)),[(Ge items ep)],[])) (fun _=>True) st K
theorem eZ{w':World}{i:Nat}{V:XV}(hk:V.kt=eD w'.params):bX V (model pw w') (gZ i V.mm V.ro):=by
 intro h0 d os Γ p c st K s H hΓ R
 revert H
 refine fA (P:=(·->_)) (fun h=>h.elim) fun b=>e8 (P:=(·->_)) (fun h=>h.elim) fun cl dd items ep sl e1=>?_
 rintro⟨⟨q,-,hj⟩,H⟩
 rw [<-hΓ]
 exact fu hk (fun hP _=>rD hj (hΓ.trans q) hP) H R
noncomputable abbrev Y1(a:FA):List nV:=[(.forLoop a.te1 a.i1 a.bo1 a.e1 a.n1,a.p2),(.func a.f1 a.n2,a.p3),(.forLoop a.te2 a.i2 a.bo2 a.e2 a.n3,a.p4),(.func a.f2 a.n4,a.p5),(.builtin "claim.caller" {},a.p6)]
abbrev Hy:=Rf (.type "list":Value)
abbrev Ly:=Rf (none:Option Addr)
abbrev Hk a b:=[140,147,(A a),(Y2 b 0),(Y2 b 1),(Y2 b 2),(Y2 b 3),(Y2 b 4),(Y2 b 5),(Y2 b 6),(Y2 b 7),(Y2 b 8),(Y2 b 9),(Y2 b 10)]
noncomputable abbrev cQ a:=Nat.add a 0
noncomputable abbrev dD a:=Nat.add a 1
abbrev qP a b:=A (Nat.add a b)
abbrev oV a:=(⟨[.ref (A a)],[]⟩:Args)
noncomputable abbrev EU a:=Str.mk ⟨[a]⟩
abbrev lY a:=(kZ [0,1,2] a)
abbrev Ec a b c d e:=[(140,bB a),(147,bB b),(Yk c d e)]
abbrev HQ:=Rf (.type "tuple":Value)
abbrev HJ a b:=(.call (.ref b) (oV a):Code)
abbrev Hp a b:=a8 (.call (.ref b) (oV a))
theorem zs(W:WW)(p0:Pos)(vA:FA)(aS:Nat)(t140 t147:List Value)(sg:Array Value)(cs:List Nat)(ep1 n tb gb:Nat)(Z:ZB)(hX:List Nat)(hhX:hX=((gC [0,0,4,4,300000,6,0,6,60000,100007,0,7,7,6,0,0,0,6,0,6,0,6,0,0,0,6,0,5,5,5,7,7,6,0,0,0,6,0,6,0,6,0,0,0,6,0,5,5,5,0,0,7,7,6,0,0,0,6,0,6,0,6,0,0,0,6,0,5,5,5,7,7,6,0,0,0,6,0,6,0,6,0,0,0,6,0,5,5,5,7,6,0,0,0,6,0,6,0,6,0,0,0,6,0,5,5,5,0,7,180000,10,0,10,70000,40011,0,4000,11,11,10,0,0,0,10,0,10,0,10,0,0,0,10,0,9,9,9,50000,11,0,0,30012,0,10,10,0,120012,0,0,10,0,13,13,40010,7,6,0,0,0,6,0,6,0,6,0,0,0,6,0,5,5,5,4,4,4,3,3,3,14,1000,4,6,0,0,0,6,0,0,0,6,40000,6,5,0,0,0,40015,0,15,6,0,0,0,6,0,0,0,6,40000,6,5,0,0,0,16,16,0,16,6,0,0,0,6,0,0,0,6,6,0,5,10,0,0,0,10,0,0,0,10,40000,10,9,0,0,0,17,17,0,4001,17,10,0,0,0,10,0,0,0,10,40000,10,9,0,0,0,18,18,0,4002,50000,18,0,0,30019,0,10,10,0,120019,0,0,10,0,20,20,10,30016,21,22,21,21,4003,16,6,0,0,0,6,0,0,0,6,6,0,5,10,60000,10,0,10,60000,10,10,0,9,0,16,21,4004,24,24,23,0,23,0,0,60025,0,25,10,0,0,0,10,0,0,0,10,0,0,0,10,9,25,25,10,0,30010,0,0,16,6,0,0,0,6,0,0,0,6,6,0,5,10,60000,27,27,0,0,0,27,10,0,0,0,10,0,0,0,10,0,28,0,0,1,0,0,29,29,27,10,60000,10,0,10,0,0,0,10,10,0,9,40030,31,30030,500,0,500,40028])++(cond W.b2 [] [28,28,28,28])++(gC [10,30028,40026,50032,26,60032,26,60032,26,32,32,34,40029,0,0,29,0,0,29,500,40031,30030,500,0,500,40028,10,28,28,36,500,38,16,6,0,0,0,6,0,0,0,6,6,0,5,10,0,0,0,10,0,0,0,10,40000,10,9,40000,40039,0,50039,10,0,10,0,0,0,10,0,4005,50041,40,40,40010,39,10,0,0,0,10,0,10,0,10,0,0,0,10,0,9,9,9,15,15,6,0,0,0,6,0,0,0,6,6,0,5,7001])))(eX:ae)(heX:eX=(Ec t140 t147 aS sg ep1)):
 ch (ec (Vw W) 3 [dS,dS,dS,(fK 20 21),(lI 23 20),(iy 9 40 39)] [] [kk (Vw W) (⟨ei (pW W) (A (cQ n)) (qP n 10),none,none,eO (pW W) (A (cQ n)) ⟨110,16,110,21⟩ vA,none⟩) (bH (pW W) aS (cQ n) (dD n) (bJ n 2) (bJ n 4) (bJ n 5) (bJ n 6) (bJ n 10) (TK tb) (Y8 tb 29) (Y8 tb 11) (Y8 tb 2) (Y8 tb 13) (Y8 tb 3) (Y8 tb 17) (Y8 tb 15) (Y8 tb 19) (Y8 tb 4) (Y8 tb 21) (Y8 tb 28) (Y8 tb 25) t140 t147 sg ep1 [] 2 (ab ⟨[]⟩ 0) (Y8 tb 1) 0 Yx) [0,1,2,3,4,5,7,8,9,13] 3 3 (zC W ⟨110,16,110,21⟩ vA aS (cQ n) (dD n) (bJ n 2) (bJ n 4) (bJ n 5) (bJ n 6) (bJ n 10) (TK tb) (Y8 tb 29) (Y8 tb 11) (Y8 tb 2) (Y8 tb 13) (Y8 tb 3) (Y8 tb 17) (Y8 tb 15) (Y8 tb 19) (Y8 tb 4) (Y8 tb 21) (Y8 tb 28) (Y8 tb 25) sg ep1) (fun x=>aQ x.lines (dZ cs)),gZ 7 3 3] []) 1351 (⟨HJ aS 214,none,none,(Y1 vA),none⟩) (p0) (Hp aS 214) [] hX (cN eX n tb gb) (lY Z)=
ad (lE eX) (A n) gb (sl hX 0 185) (
DI/\ad (lE eX) (A n) gb (sl hX 186 81) (
(Rf (⟨ei (pW W) (A (cQ n)) (qP n 10),none,none,eO (pW W) (A (cQ n)) ⟨110,16,110,21⟩ vA,none⟩:Ctx))/\(Rf (ax (bH (pW W) aS (cQ n) (dD n) (bJ n 2) (bJ n 4) (bJ n 5) (bJ n 6) (bJ n 10) (TK tb) (Y8 tb 29) (Y8 tb 11) (Y8 tb 2) (Y8 tb 13) (Y8 tb 3) (Y8 tb 17) (Y8 tb 15) (Y8 tb 19) (Y8 tb 4) (Y8 tb 21) (Y8 tb 28) (Y8 tb 25) t140 t147 sg ep1 [] 2 (ab ⟨[]⟩ 0) (Y8 tb 1) 0 Yx)))/\Yc/\Yc/\∀(x0:Gk) (n0 tb0 gb0:Nat),aQ x0.lines (dZ cs)->Yc/\ad (Hk aS n) (A n0) gb0 (sl hX 268 80) (
DI/\ad (Hk aS n) (A n0) gb0 (sl hX 349 22) (
DI/\ad (Hk aS n) (A n0) gb0 (sl hX 372 41) (
((Rf (.builtin "tuple.__ne__" ⟨[(dV n0 6),(dV n0 7)],[]⟩:Code))/\(HQ/\HQ))/\ad (Hk aS n) (A n0) gb0 (sl hX 414 36) (
((Rf (.builtin "list.__iadd__" ⟨[(dV n0 9),(dV n0 6)],[]⟩:Code))/\((Hy/\(Ly/\(Rf ({toList:=[]}:Array i6))))/\((HQ/\(Ly/\(Rf ({toList:=[]}:Array i6))))/\Yc)))/\ad (Hk aS n) (A n0) gb0 (sl hX 451 (jz W 227 231)) (
((Rf (.builtin "list.__setitem__" ⟨[(dV n 6),(dV n0 26),(dV n0 25)],[]⟩:Code))/\(Rf (false:Bool)))/\ad (Hk aS n) (A n0) gb0 (sl hX (jz W 679 683) 43) (
(((Rf (.builtin "str.join" ⟨[.str (EU 124) (TK tb0),.ref (Y2 n 4)],[]⟩:Code))/\(Rf (⟨.type "list",none,.seq (x0.lines) x0.ep2,⟨[]⟩⟩:Obj))/\gv (EU 124) (x0.lines)))/\(Rf (ax ([((Y2 n 4),(⟨.type "list",none,.seq (x0.lines) x0.ep2,⟨[]⟩⟩:Obj))])))/\Yc/\Yc/\∀(x1:cA) (n9 tb1 gb1:Nat),True->Yc/\ad [140,147,(A aS),(Y2 n 0),(Y2 n 1),(Y2 n 2),(Y2 n 3),(Y2 n 4),(Y2 n 5),(Y2 n 6),(Y2 n 7),(Y2 n 8),(Y2 n 9),(Y2 n 10),(Y2 n0 0),(Y2 n0 1),(Y2 n0 2),(Y2 n0 3),(Y2 n0 4),(Y2 n0 5),(Y2 n0 6),(Y2 n0 7),(Y2 n0 8),(Y2 n0 9),(Y2 n0 10),(Y2 n0 11),(Y2 n0 12),(Y2 n0 13),(Y2 n0 14),(Y2 n0 15),(Y2 n0 16),(Y2 n0 17),(Y2 n0 18),(Y2 n0 19),(Y2 n0 20),(Y2 n0 21),(Y2 n0 22),(Y2 n0 23),(Y2 n0 24),(Y2 n0 25),(Y2 n0 26)] (A n9) gb1 (sl hX (jz W 722 726) 0) (
Z (.fin (.ret (.ok (.ret (.str (bK (EU 124) x0.lines) x1.t))))) (Y2 n9 0) (Y8 tb1 0) true (ax ([(140,bB [.int 67 0,.int 19 0,.ref x0.r1]),(147,bB [.int 70 0,.int 32 0,.ref x0.r2]),(Yk aS sg ep1)]))))))))))):=by
 subst hhX;subst heX
 obtain⟨w,b1,b2⟩:=W;cases b1<;>cases b2<;>kernel_rfl
structure fw where
 r1:Addr
 r2:Addr
 t:Tok
theorem ni(k:Nat):∀(cs:List Nat) (ls:List (List Nat)),((bM (cs.foldl cP ls)).map fun s=>s.length+k).sum<=((bM ls).map fun s=>s.length+k).sum+cs.length*(1+k)
 |[],ls=>by simp
 |c::cs,ls=>by
  rw [foldl_cons]
  have ih:=ni k cs (cP ls c)
  have st:((bM (cP ls c)).map fun s=>s.length+k).sum<=((bM ls).map fun s=>s.length+k).sum+(1+k):=by
   unfold cP bM
   split
   ·rcases List.eq_nil_or_concat ls with rfl|⟨l0,l,rfl⟩
    ·simp
    ·simp [Str.length]<;>lia
   ·simp [Str.length]<;>lia
  rw [length_cons,Nat.succ_mul];lia
theorem xM(cs:List Nat)(h:cs.length<=60):((bM (dZ cs)).map fun s=>s.length+(⟨⟨[124]⟩⟩:Str).length).sum<=5000:=by
 have:=ni 1 cs []
 show((bM (dZ cs)).map fun s=>s.length+1).sum<=5000
 have e:((bM ([]:List (List Nat))).map fun s=>s.length+1).sum=0:=rfl
 unfold dZ;lia
noncomputable abbrev wy(aS:Nat)(vA:FA):Ctx:=⟨HJ aS 214,none,none,(Y1 vA),none⟩
noncomputable abbrev i7(cs:List Nat):Str:=yo [124] (dZ cs)
noncomputable def pq(aS:Nat)(sg:Array Value)(ep1:Nat)(cs:List Nat)(x:fw):Result×List Obj×ae:=(.ok (.ret (.str (i7 cs) x.t)),[bB [.int 67 0,.int 19 0,.ref x.r1],bB [.int 70 0,.int 32 0,.ref x.r2],ab sg ep1],[])
theorem qd(W:WW)(vA:FA)(aS:Nat)(t140 t147:List Value)(sg:Array Value)(ep1 c0:Nat)(cs:List Nat)(hs:cM sg (c0::cs))(h0:c0=49\/c0=127)(hc:∀c∈cs,c=49\/c=127\/c=32)(hlen:cs.length<=50)(htab:t140=[]/\t147=[]\/∃r1 r2,t140=(jG r1)/\t147=(jR r2)):
  cm (Vw W) (wy aS vA) ((Ec t140 t147 aS sg ep1)) (pq aS sg ep1 (c0::cs)) (fun _=>True):=by
 intro p0 s hP
 refine gQ fun Q zQ=>?_
 obtain⟨n,hn⟩:=hP.size
 obtain⟨tb,ht⟩:=hP.toks
 generalize hg:s.gens.size=gb
 have hj:=xM (c0::cs) (by simp;lia)
 have key:∃ev s' l,dB (Yt W) (wy aS vA) p0 (a8 (wy aS vA).code) [] s ev s'/\((∃x:fw,ev=.fin (.ret (.ok (.ret (.str (i7 (c0::cs)) x.t))))/\l=ax [(140,bB [.int 67 0,.int 19 0,.ref x.r1]),(147,bB [.int 70 0,.int 32 0,.ref x.r2]),(Yk aS sg ep1)])/\677<=s'.toks)/\f8 l s'.heap/\cL (pW W) s'/\af ((Ec t140 t147 aS sg ep1)) s s':=by
  have H:=Eq.mpr (zs W p0 vA aS t140 t147 sg (c0::cs) ep1 n tb gb (fun ev nk tk fin l=>fin=true/\((∃x:fw,ev=.fin (.ret (.ok (.ret (.str (i7 (c0::cs)) x.t))))/\l=ax [(140,bB [.int 67 0,.int 19 0,.ref x.r1]),(147,bB [.int 70 0,.int 32 0,.ref x.r2]),(Yk aS sg ep1)])/\677<=tk)) _ rfl _ rfl) (by
   refine rI (by first|exact⟨rfl,rfl⟩|exact⟨rfl,rfl,rfl⟩|exact⟨rfl,⟨rfl,rfl,rfl⟩,⟨rfl,rfl,rfl⟩,rfl⟩) ?_
   refine ag ⟨rfl,rfl,rfl,rfl,fun x0 n0 tb0 gb0 h0_=>⟨rfl,?_⟩⟩ _
   iterate 5 refine rI (by first|exact⟨rfl,rfl⟩|exact⟨rfl,rfl,rfl⟩|exact⟨rfl,⟨rfl,rfl,rfl⟩,⟨rfl,rfl,rfl⟩,rfl⟩) ?_
   refine ag ⟨⟨rfl,rfl,(gd h0_ hj).1⟩,rfl,rfl,rfl,fun x1 n9 tb1 gb1 h1=>⟨rfl,?_⟩⟩ _
   refine ag ⟨rfl,⟨⟨x0.r1,x0.r2,x1.t⟩,?_,rfl⟩,eQ⟩ _
   rw [(gd h0_ hj).2];rfl)
  exact dp (is:=[0,1,2]) (by exact⟨fun _=>cD,fun _=>cD,fun _=>cD,fun _=>ek,fun _=>pM,fun _=>fF,trivial⟩) (by exact⟨ja rfl (uw W ⟨110,16,110,21⟩ vA aS (cQ n) (dD n) (bJ n 2) (bJ n 4) (bJ n 5) (bJ n 6) (bJ n 10) (TK tb) (Y8 tb 29) (Y8 tb 11) (Y8 tb 2) (Y8 tb 13) (Y8 tb 3) (Y8 tb 17) (Y8 tb 15) (Y8 tb 19) (Y8 tb 4) (Y8 tb 21) (Y8 tb 28) (Y8 tb 25) sg ep1 c0 cs hs h0 hc hlen t140 t147 htab 0 (Y8 tb 1) 0),eZ rfl,trivial⟩) hP hn ht hg rfl (by rintro ev nk tk l ⟨⟨x,rfl,rfl⟩,h⟩;exact⟨rfl,h⟩) H
 obtain⟨ev,s',l,r,⟨⟨x,rfl,rfl⟩,htk⟩,h3,h4,h5⟩:=key
 refine zQ ?_
 have h3:=ai h3
 exact⟨x,s',by rw [bG];exact r,h4,h5,⟨h3.1,h3.2.1,h3.2.2.1,trivial⟩,trivial,(fun y hy=>nomatch hy),nodup_nil,trivial⟩
noncomputable def fQ(a b:Int):UInt64:=Float64.ofFrac (decide (a<0) !=decide (b<0)) a.natAbs b.natAbs
noncomputable def fR(dx:Int):UInt64:=fQ dx 8
noncomputable def fG(dx dy:Int):UInt64:=fQ (16*dx+dy) 256
noncomputable def Eh(dx:Int):UInt64:=Float64.sub (fR dx) 0
noncomputable def PX(dx:Int):UInt64:=Float64.div (Eh dx) (fR dx)
noncomputable def M3(dx:Int):UInt64:=Float64.sub (fR dx) (fR dx)
noncomputable def Qg(dx:Int):UInt64:=Float64.div (M3 dx) (Eh dx)
noncomputable def Pg(dx dy:Int):UInt64:=Float64.sub (fR dx) (fG dx dy)
noncomputable def LA(dx dy:Int):UInt64:=Float64.div (Pg dx dy) (Eh dx)
noncomputable def Pe(dx:Int):UInt64:=Float64.div (Eh dx) (Eh dx)
noncomputable def Oi(dx dy:Int):UInt64:=Float64.sub (Pe dx) (LA dx dy)
noncomputable def LV(dx dy:Int):UInt64:=Float64.div (Oi dx dy) 4618441417868443648
noncomputable def bf(dx dy:Int):UInt64:=(Float64.divmod (LV dx dy) 4607182418800017408).snd
noncomputable def sJ(dx dy:Int):Bool:=
 !Float64.isInf (fR dx)&& !Float64.isInf (fG dx dy)&& !Float64.isZero (fR dx)&& !Float64.isZero (Eh dx)&&
 ((Float64.cmp (fG dx dy) (fR dx)==some .gt)==false)&&((Float64.cmp 0 (fR dx)==some .gt)==false)&&((Float64.cmp (fG dx dy) (fR dx)==some .lt)==true)&&((Float64.cmp 0 (fG dx dy)==some .lt)==true)&&
 ((Float64.cmp 0 (fR dx)==some .eq)==false)&&((Float64.cmp (fR dx) (fR dx)==some .eq)==true)
def eS(dx dy:Int):Prop:=1<=dx/\dx<=5/\-12<=dy/\dy<=12
theorem Dz:((List.range 5).all fun i=>(List.range 25).all fun j=>sJ (Int.ofNat i+1) (Int.ofNat j-12))=true:=by decide+kernel
theorem PY:Float64.isZero 4618441417868443648=false:=by decide+kernel
theorem Pt:Float64.isZero 4607182418800017408=false:=by decide+kernel
noncomputable def a9(l:List Value)(ep:Nat):Obj:=⟨.type "tuple",none,.seq ⟨l⟩ ep,⟨[]⟩⟩
theorem qi{dx dy:Int}(h:eS dx dy):sJ dx dy=true:=by
 obtain⟨h1,h2,h3,h4⟩:=h
 have a:=List.all_eq_true.mp Dz (dx-1).toNat (List.mem_range.mpr (by lia))
 have b:=List.all_eq_true.mp a (dy+12).toNat (List.mem_range.mpr (by lia))
 rwa [show Int.ofNat (dx-1).toNat+1=dx by have:Int.ofNat (dx-1).toNat=dx-1:=toNat_of_nonneg (by lia);lia,
  show Int.ofNat (dy+12).toNat-12=dy by have:Int.ofNat (dy+12).toNat=dy+12:=toNat_of_nonneg (by lia);lia] at b
theorem g8{a b:Int}{t u:Tok}{l}(hb:¬(b==0)=true)(h:Float64.isInf (fQ a b)=false):av (.builtin "int.__truediv__" ⟨[.int a t,.int b u],[]⟩) l (.float (fQ a b)):=
 av.mk PySem.F.entry_int_truediv (PySem.AutoIntG4.int___truediv___int_int_2 a t b u hb (by rw [show Float64.isInf (Float64.ofFrac (decide (a<0) !=decide (b<0)) a.natAbs b.natAbs)=false from h];decide)) trivial
theorem g5{a b:Int}{t u:Tok}{l}(h:IntMulOk a b):av (.builtin "int.__mul__" ⟨[.int a t,.int b u],[]⟩) l (.int (a*b)):=av.mk PySem.F.entry_int_mul (gives_int_mul a b t u h) trivial
theorem na{a b:UInt64}{t u:Tok}{l}:av (.builtin "float.__sub__" ⟨[.float a t,.float b u],[]⟩) l (.float (Float64.sub a b)):=av.mk PySem.F.entry_float_sub (PySem.AutoFloatG0.float___sub___float_float_0 a t b u) trivial
theorem eN{a b:UInt64}{t u:Tok}{l}(h:Float64.isZero b=false):av (.builtin "float.__truediv__" ⟨[.float a t,.float b u],[]⟩) l (.float (Float64.div a b)):=av.mk PySem.F.entry_float_truediv (PySem.AutoFloatG1.float___truediv___float_float_1 a t b u (by rw [h];decide)) trivial
theorem m8{a b:UInt64}{t u:Tok}{l}(h:Float64.isZero b=false):av (.builtin "float.__mod__" ⟨[.float a t,.float b u],[]⟩) l (.float (Float64.divmod a b).snd):=av.mk PySem.F.entry_float_mod (PySem.AutoFloatG2.float___mod___float_float_1 a t b u (by rw [h];decide)) trivial
theorem i8{a b:UInt64}{t u:Tok}{v:Bool}{l}(h:(Float64.cmp a b==some .gt)=v):av (.builtin "float.__gt__" ⟨[.float a t,.float b u],[]⟩) l (.val (.bool v)):=by
 subst h;exact av.mk PySem.F.entry_float_gt (PySem.AutoFloatG4.float___gt___float_float_0 a t b u) trivial
theorem fT{a b:UInt64}{t u:Tok}{v:Bool}{l}(h:(Float64.cmp a b==some .lt)=v):av (.builtin "float.__lt__" ⟨[.float a t,.float b u],[]⟩) l (.val (.bool v)):=by
 subst h;exact av.mk PySem.F.entry_float_lt (PySem.AutoFloatG5.float___lt___float_float_0 a t b u) trivial
theorem en{a b:UInt64}{t u:Tok}{v:Bool}{l}(h:(Float64.cmp a b==some .eq)=v):av (.builtin "float.__eq__" ⟨[.float a t,.float b u],[]⟩) l (.val (.bool v)):=by
 subst h;exact av.mk PySem.F.entry_float_eq (PySem.AutoFloatG5.float___eq___float_float_0 a t b u) trivial
structure FE where mk::(p5 p6:Pos) (n4:Env) (f2:List Stmt)
abbrev ku a b c:=(.float (a) (Y8 b c):Value)
noncomputable abbrev iU a b:=(.int (a) b:Value)
abbrev OU a b c d e f:=av (.builtin "float.__truediv__" ⟨[(ku a b e),(ku c b f)],[]⟩) [] (Made.float d)/\Yc
abbrev Qe(a:Int)(b:Tok)(c:Nat)(d:UInt64)(e:ae)(f g:Nat)(h:List Nat)(i:Int)(j k l m o p q r t u v:UInt64)(x:ZB)(y:Nat)(z:Tok)(a1:Nat):=(av (.builtin "int.__truediv__" ⟨[(iU a b),(.int (Int.ofNat 8) (Y8 c 2))],[]⟩) [] (Made.float d)/\Yc)/\ad (lE e) (A f) g (sl h 13 6) ((av (.builtin "int.__mul__" ⟨[(.int (Int.ofNat 16) (Y8 c 4)),(iU a b)],[]⟩) [] (Made.int (16*a))/\Yc)/\ad (lE e) (A f) g (sl h 20 6) ((av (.builtin "int.__truediv__" ⟨[(.int (16*a+i) (Y8 c 8)),(.int (Int.ofNat 256) (Y8 c 9))],[]⟩) [] (Made.float j)/\Yc)/\ad (lE e) (A f) g (sl h 28 38) ((av (.builtin "float.__gt__" ⟨[(ku j c 10),(ku d c 3)],[]⟩) [] (Made.val (Value.bool false))/\Yc)/\ad (lE e) (A f) g (sl h 67 8) ((av (.builtin "float.__gt__" ⟨[(.float (0) (Y8 c 11)),(ku d c 3)],[]⟩) [] (Made.val (Value.bool false))/\Yc)/\ad (lE e) (A f) g (sl h 76 42) ((av (.builtin "float.__lt__" ⟨[(ku j c 10),(ku d c 3)],[]⟩) [] (Made.val (Value.bool true))/\Yc)/\ad (lE e) (A f) g (sl h 119 11) ((av (.builtin "float.__lt__" ⟨[(.float (0) (Y8 c 11)),(ku j c 10)],[]⟩) [] (Made.val (Value.bool true))/\Yc)/\ad (lE e) (A f) g (sl h 131 19) ((av (.builtin "float.__sub__" ⟨[(ku d c 3),(.float (0) (Y8 c 11))],[]⟩) [] (Made.float k)/\Yc)/\ad (lE e) (A f) g (sl h 151 7) ((av (.builtin "float.__eq__" ⟨[(.float (0) (Y8 c 11)),(ku d c 3)],[]⟩) [] (Made.val (Value.bool false))/\Yc)/\ad (lE e) (A f) g (sl h 159 2) ((OU k c d l 17 3)/\ad (lE e) (A f) g (sl h 162 4) ((av (.builtin "float.__sub__" ⟨[(ku d c 3),(ku d c 3)],[]⟩) [] (Made.float m)/\Yc)/\ad (lE e) (A f) g (sl h 167 1) ((OU m c k o 22 17)/\ad (lE e) (A f) g (sl h 169 4) ((av (.builtin "float.__sub__" ⟨[(ku d c 3),(ku j c 10)],[]⟩) [] (Made.float p)/\Yc)/\ad (lE e) (A f) g (sl h 174 1) ((OU p c k q 25 17)/\ad (lE e) (A f) g (sl h 176 4) ((av (.builtin "float.__sub__" ⟨[(ku d c 3),(.float (0) (Y8 c 11))],[]⟩) [] (Made.float k)/\Yc)/\ad (lE e) (A f) g (sl h 181 1) ((av (.builtin "float.__truediv__" ⟨[(ku k c 28),(ku k c 17)],[]⟩) [] (Made.float r)/\Yc)/\ad (lE e) (A f) g (sl h 183 4) ((av (.builtin "float.__eq__" ⟨[(ku d c 3),(ku d c 3)],[]⟩) [] (Made.val (Value.bool true))/\Yc)/\ad (lE e) (A f) g (sl h 188 2) ((av (.builtin "float.__sub__" ⟨[(ku r c 29),(ku q c 26)],[]⟩) [] (Made.float t)/\Yc)/\ad (lE e) (A f) g (sl h 191 3) ((av (.builtin "float.__truediv__" ⟨[(ku t c 31),(.float (4618441417868443648) (Y8 c 33))],[]⟩) [] (Made.float u)/\Yc)/\ad (lE e) (A f) g (sl h 194 0) ((av (.builtin "float.__mod__" ⟨[(ku u c 34),(.float (4607182418800017408) (Y8 c 35))],[]⟩) [] (Made.float v)/\Yc)/\ad (lE e) (A f) g (sl h 196 10) (x (.fin (.ret (.ok (.ret (ku v c 36))))) (Y2 f 13) (Y8 c 39) true (ax ([(A y,⟨.type "tuple",none,.seq ⟨[.int a b,.int i z]⟩ a1,⟨[]⟩⟩)]))))))))))))))))))))))
abbrev PZ:=(gC [0,0,2,2,0,0,2,50001,4000,2,50001,4001,2,50001,3001,4002,0,0,0,60003,0,0,0,3,3,3,4,4,4,5,6,40005,4,5,5,40006,40005,4,5,5,4003,6,40005,4,5,5,4004,6,40005,4,5,5,8,6,6,6,3,3,0,0,3,3,3,9,9,9,10,11,40010,9,10,10,40011,40010,9,10,10,4005,40011,40010,9,10,10,4006,40011,40010,9,10,10,13,30011,40003,4007,70003,4008,3,3,4009,40003,4010,3,4011,40003,4012,3,4013,40003,4014,3,4015,40003,4016,3,3,4017,3,3,3,4018,4019,50003,50014])
abbrev po:=gf [] (.val (.bool true))
abbrev jZ a:=gf [] (.float a)
abbrev Ny(a:Nat)(b:Expr)(c:List Comprehension)(d:Scope)(e:Pos)(f:Nat)(g h:Value)(i:Env)(j:Pos)(k:FE):Ctx:=⟨.call (.ref 226) (oV a),none,none,[(.compLoop (.ListComp b c d e) f g h i,j),(.func k.f2 k.n4,k.p5),(Y7,k.p6)],none⟩
section
variable(W:WW)(p0:Pos)(cel:Expr)(cgs:List Comprehension)(csc:Scope)(cps:Pos)(cd:Nat)(ci ca:Value)(cenv:Env)
include W p0 cel cgs csc cps cd ci ca cenv
theorem r9(p2:Pos)(vE:FE)(aT:Nat)(dx dy:Int)(tx ty:Tok)(ep:Nat)(r g v0 v1 v2 v3 v4 v5 v6 v7 v8 hh:UInt64)(n tb gb:Nat)(Z:ZB)(hX:List Nat)(hhX:hX=PZ)(eX:ae)(heX:eX=[(A aT,⟨.type "tuple",none,.seq ⟨[.int dx tx,.int dy ty]⟩ ep,⟨[]⟩⟩)]):
 ch (ec (Vw W) 1 [(jZ r),(gf [] (.int (16*dx))),(jZ g),mu,mu,po,po,(jZ v0),mu,(jZ v1),(jZ v2),(jZ v3),(jZ v4),(jZ v5),(jZ v0),(jZ v6),po,(jZ v7),(jZ v8),(jZ hh)] [] [] []) 555 ((Ny aT cel cgs csc cps cd ci ca cenv p2 vE)) (p0) (Hp aT 226) [] hX (cN eX n tb gb) (kZ [0] Z)=
ad (lE eX) (A n) gb (sl hX 0 12) (Qe dx tx tb r eX n gb hX dy g v0 v1 v2 v3 v4 v5 v6 v7 v8 hh Z aT ty ep):=by
 subst hhX;subst heX
 obtain⟨w,b1,b2⟩:=W;cases b1<;>kernel_rfl
structure FB where mk::(p2 p3 p4 p5 p6 p7:Pos) (wt:Expr) (wb we:List Stmt) (wenv:Env) (f1:List Stmt) (n1:Env) (te:Expr) (i1:Value) (bo1 e1:List Stmt) (n3 n4:Env) (f2:List Stmt)
noncomputable abbrev Yz(a:FB):Code×Pos:=(.forLoop a.te a.i1 a.bo1 a.e1 a.n3,a.p7)
noncomputable abbrev P5(a:FB):Code×Pos:=(.whileLoop a.wt a.wb a.we a.wenv,a.p3)
abbrev NV a b c d e f g h i j:=(⟨HJ a 226,none,none,[(.compLoop (.ListComp b c d e) f g h i,j.p2),(P5 j),(.func j.f1 j.n1,j.p4),(Yz j),(.func j.f2 j.n4,j.p5),(Y7,j.p6)],none⟩:Ctx)
theorem on(vB:FB)(aT:Nat)(dx dy:Int)(tx ty:Tok)(ep:Nat)(r g v0 v1 v2 v3 v4 v5 v6 v7 v8 hh:UInt64)(n tb gb:Nat)(Z:ZB)(hX:List Nat)(hhX:hX=PZ)(eX:ae)(heX:eX=[(A aT,⟨.type "tuple",none,.seq ⟨[.int dx tx,.int dy ty]⟩ ep,⟨[]⟩⟩)]):
 ch (ec (Vw W) 1 [(jZ r),(gf [] (.int (16*dx))),(jZ g),mu,mu,po,po,(jZ v0),mu,(jZ v1),(jZ v2),(jZ v3),(jZ v4),(jZ v5),(jZ v0),(jZ v6),po,(jZ v7),(jZ v8),(jZ hh)] [] [] []) 555 ((NV aT cel cgs csc cps cd ci ca cenv vB)) (p0) (Hp aT 226) [] hX (cN eX n tb gb) (kZ [0] Z)=
ad (lE eX) (A n) gb (sl hX 0 12) (Qe dx tx tb r eX n gb hX dy g v0 v1 v2 v3 v4 v5 v6 v7 v8 hh Z aT ty ep):=by
 subst hhX;subst heX
 obtain⟨w,b1,b2⟩:=W;cases b1<;>kernel_rfl
end
abbrev fl a b c d e f:=(A a,a9 [.int b c,.int d e] f)
theorem gy(W:WW)(cel:Expr)(cgs:List Comprehension)(csc:Scope)(cps:Pos)(cd:Nat)(ci ca:Value)(cenv:Env)(vB:FB)(aT:Nat)(dx dy:Int)(tx ty:Tok)(ep:Nat)(hr:eS dx dy):
  cm (Vw W) (NV aT cel cgs csc cps cd ci ca cenv vB) ([(fl aT dx tx dy ty ep)]) (fun x:cA=>(.ok (.ret (.float (bf dx dy) x.t)),[a9 [.int dx tx,.int dy ty] ep],[])) (fun _=>True):=by
 intro p0 s hP
 refine gQ fun Q zQ=>?_
 obtain⟨n,hn⟩:=hP.size
 obtain⟨tb,ht⟩:=hP.toks
 generalize hg:s.gens.size=gb
 have k:=qi hr
 unfold sJ at k
 simp only [Bool.and_eq_true,Bool.not_eq_true',beq_iff_eq] at k
 obtain⟨⟨⟨⟨⟨⟨⟨⟨⟨k1,k2⟩,k3⟩,k4⟩,k5⟩,k6⟩,k7⟩,k8⟩,k9⟩,k10⟩:=k
 have hd:IntMulOk 16 dx:=IntMulOk.of_left (by decide)
 have key:∃ev s' l,dB (Yt W) (NV aT cel cgs csc cps cd ci ca cenv vB) p0 (Hp aT 226) [] s ev s'/\((∃x:cA,ev=.fin (.ret (.ok (.ret (.float (bf dx dy) x.t))))/\l=ax ([(fl aT dx tx dy ty ep)]))/\677<=s'.toks)/\f8 l s'.heap/\cL (pW W) s'/\af ([(fl aT dx tx dy ty ep)]) s s':=by
  have H:=Eq.mpr (on W p0 cel cgs csc cps cd ci ca cenv vB aT dx dy tx ty ep (fR dx) (fG dx dy) (Eh dx) (PX dx) (M3 dx) (Qg dx) (Pg dx dy) (LA dx dy) (Pe dx) (Oi dx dy) (LV dx dy) (bf dx dy) n tb gb (fun ev nk tk fin l=>fin=true/\((∃x:cA,ev=.fin (.ret (.ok (.ret (.float (bf dx dy) x.t))))/\l=ax ([(fl aT dx tx dy ty ep)]))/\677<=tk)) _ rfl _ rfl) (by
   iterate 20 refine rI ⟨by first|exact g8 (by decide) k1|exact g8 (by decide) k2|exact g5 hd|exact na|exact i8 k5|exact i8 k6|exact fT (beq_iff_eq.mpr k7)|exact fT (beq_iff_eq.mpr k8)|exact en k9|exact en (beq_iff_eq.mpr k10)|exact eN k3|exact eN k4|exact eN PY|exact m8 Pt,rfl⟩ ?_
   exact ag ⟨rfl,⟨⟨_⟩,rfl,rfl⟩,eQ⟩ _)
  exact dp (is:=[0]) (by exact⟨fun _=>au,fun _=>au,fun _=>au,fun _=>au,fun _=>au,fun _=>au,fun _=>au,fun _=>au,fun _=>au,fun _=>au,fun _=>au,fun _=>au,fun _=>au,fun _=>au,fun _=>au,fun _=>au,fun _=>au,fun _=>au,fun _=>au,fun _=>au,trivial⟩) (by exact trivial) hP hn ht hg rfl (by rintro ev nk tk l ⟨⟨x,rfl,rfl⟩,h⟩;exact⟨rfl,h⟩) H
 obtain⟨ev,s',l,r,⟨⟨x,rfl,rfl⟩,htk⟩,h3,h4,h5⟩:=key
 refine zQ ?_
 have h3:=ai h3
 exact⟨x,s',by rw [bG];exact r,h4,h5,⟨h3.1,trivial⟩,trivial,(fun y hy=>nomatch hy),nodup_nil,trivial⟩
noncomputable abbrev Ci:List Nat:=Yq
noncomputable abbrev Ic:List Nat:=[101,100,103,101]
noncomputable abbrev FK:List Nat:=mj
noncomputable abbrev Ay:List Nat:=[104,101,105,103,104,116]
noncomputable abbrev bp:List Nat:=md
noncomputable abbrev g9:List Nat:=wQ
noncomputable abbrev nX:List Nat:=[120]
noncomputable abbrev nY:List Nat:=[121]
structure FC where mk::(p5 p6 p7:Pos) (te:Expr) (i1:Value) (bo1 e1:List Stmt) (n3 n4:Env) (f2:List Stmt)
noncomputable abbrev Eo(a:FC):List (Code×Pos):=[(.forLoop a.te a.i1 a.bo1 a.e1 a.n3,a.p7),(.func a.f2 a.n4,a.p5),(Y7,a.p6)]
noncomputable abbrev fU(vC:FC):List nV:=(Eo vC)
noncomputable abbrev gI(P:Params)(L it:Addr)(p1 p2:Pos)(vC:FC):List nV:=(gD P L it,p1)::(gA (iv P) L 238,p2)::fU vC
noncomputable def bO(P:Params)(aP aE:Nat)(uP uE uL uH:Tok)(pl he:Value)(rest:List DictEntry)(ep:Nat):Obj:=
 ah "frame" (aa P Ci uP (Yp aP)::aa P Ic uE (Yp aE)::aa P FK uL pl::aa P Ay uH he::rest) ep
theorem gG{a b:Int}{t u:Tok}{v:Bool}{l}(h:decide (a<b)=v):av (.builtin "int.__lt__" ⟨[.int a t,.int b u],[]⟩) l (.val (.bool v)):=by
 subst h;exact av.mk PySem.F.entry_int_lt (gives_int_lt a b t u) trivial
abbrev Y5 a b c:=(A a,aK "list_iterator" [.ref (A b),.int (Int.ofNat c) 0])
noncomputable abbrev Ye a:=(.int (Int.ofNat a) 0:Value)
abbrev kd a b:=(A a,aK "list_iterator" [.none,Ye b])
theorem og(W:WW)(p0 p1 p2:Pos)(vC:FC)(aF aP aE aI aJ:Nat)(uP uE uL uH tl th:Tok)(pl he:Value)(rest:List DictEntry)(pts:Array Value)(ef ep1 k:Nat)(n tb gb:Nat)(Z:ZB)(hX:List Nat)(hhX:hX=[3,3,4000,3,3,5])(eX:ae)(heX:eX=[(A aF,bO (pW W) aP aE uP uE uL uH pl he rest ef),(Yk aP pts ep1),(Y5 aI aP k)]):
 ch (ul W 3 2 1) 54 (⟨im (pW W) (A aF) (A aI),none,none,gI (pW W) (A aF) aJ p1 p2 vC,none⟩) (p0) (a8 (im (pW W) (A aF) (A aI))) [] hX (cN eX n tb gb) (lY Z)=
ad (lE eX) (A n) gb (sl hX 0 2) (
(uq aI aP pts k)/\ad (lE eX) (A n) gb (sl hX 3 3) (
Z oW (Y2 n 2) (Y8 tb 0) true (ax ([(A aF,bO (pW W) aP aE uP uE uL uH pl he rest ef),(Yk aP pts ep1),(kd aI k)])))):=by
 subst hhX;subst heX
 kernel_rfl
abbrev lS a b c:=(A a,aK "list_iterator" [fy b,.int (Int.ofNat c+1) 0])
abbrev Em(a b:Nat)(c:Array Value)(d e:Nat):=(Yo a)/\((Ap b)/\(((xS c d):i6)=(some (Yp e))))
abbrev mB a:=(kZ [0,1,2,3] a)
theorem sM(W:WW)(b7:Bool)(p0 p1 p2:Pos)(vC:FC)(aF aP aE aI aT aJ:Nat)(uP uE uL uH uA uU uX uY tl th ta tu tx ty:Tok)(pl he ac up x y:Int)(vx vy:Value)(pts:Array Value)(ep0 ep1 k et:Nat)(s:Shared)(hit:pts[(Yh k).toNat]? =some (Yp aT))(hm1:IntMulOk ac (y-he))(hm2:IntMulOk up (x-pl))(hlt:¬(ac*(y-he)<up*(x-pl)))(hP:az (pW W) ([(A aF,bO (pW W) aP aE uP uE uL uH (bY pl tl) (bY he th) ([aa (pW W) bp uA (.int ac ta),aa (pW W) g9 uU (bY up tu)]++(cond b7 [] [aa (pW W) nX uX vx,aa (pW W) nY uY vy])) (cond b7 6 8)),(Yk aP pts ep1),(Y5 aI aP k),(fl aT x tx y ty et)]) s){Q:Prop}(kQ:∀(n tb:Nat) (s':Shared),Hn s n->Ht s tb->br (Yt W) (⟨im (pW W) (A aF) (A aI),none,none,gI (pW W) (A aF) aJ p1 p2 vC,none⟩) p0 s s'->az (pW W) ([(A aF,bO (pW W) aP aE uP uE uL uH (bY pl tl) (bY he th) [aa (pW W) bp uA (.int ac ta),aa (pW W) g9 uU (bY up tu),aa (pW W) nX (cond b7 (TK tb) uX) (bY x tx),aa (pW W) nY (cond b7 (Y8 tb 1) uY) (bY y ty)] 8),(Yk aP pts ep1),(lS aI aP k),(fl aT x tx y ty et)]) s'->af ([(A aF,bO (pW W) aP aE uP uE uL uH (bY pl tl) (bY he th) ([aa (pW W) bp uA (.int ac ta),aa (pW W) g9 uU (bY up tu)]++(cond b7 [] [aa (pW W) nX uX vx,aa (pW W) nY uY vy])) (cond b7 6 8)),(Yk aP pts ep1),(Y5 aI aP k),(fl aT x tx y ty et)]) s s'->Q):Q:=by
 obtain⟨n,tb,gb,hn,ht,hg⟩:=hP.nt
 have hE:= @rfl qx fun W=>[(A aF,bO (pW W) aP aE uP uE uL uH (bY pl tl) (bY he th) ([aa (pW W) bp uA (.int ac ta),aa (pW W) g9 uU (bY up tu)]++(cond b7 [] [aa (pW W) nX uX vx,aa (pW W) nY uY vy])) (cond b7 6 8)),(Yk aP pts ep1),(Y5 aI aP k),(fl aT x tx y ty et)]
 refine bT hE hP hn ht hg (fun eX W Z hX=>ch (ec (Vw W) 4 [(bF 2 1 (Yp aT)),(gf [] (.int ((ac)*(y-he)))),(gf [] (.int ((up)*(x-pl)))),mu] [] [] []) 148 (⟨im (pW W) (A aF) (A aI),none,none,gI (pW W) (A aF) aJ p1 p2 vC,none⟩) (p0) (a8 (im (pW W) (A aF) (A aI))) [] hX (cN eX n tb gb) (mB Z)) (fun eX W Z hX=>ad (lE eX) (A n) gb (sl hX 0 2) ((Em aI aP pts k aT)/\ad (lE eX) (A n) gb (sl hX 3 37) ((av (.builtin "int.__mul__" ⟨[(iU ac ta),(.int (y-he) (Y8 tb 2))],[]⟩) [] (Made.int (ac*(y-he)))/\Yc)/\ad (lE eX) (A n) gb (sl hX 42 3) ((av (.builtin "int.__mul__" ⟨[(iU up tu),(.int (x-pl) (Y8 tb 4))],[]⟩) [] (Made.int (up*(x-pl)))/\Yc)/\ad (lE eX) (A n) gb (sl hX 45 0) ((av (.builtin "int.__lt__" ⟨[(.int (ac*(y-he)) (Y8 tb 3)),(.int (up*(x-pl)) (Y8 tb 5))],[]⟩) [] wx/\Yc)/\ad (lE eX) (A n) gb (sl hX 45 0) (Z (.again (im (pW W) (A aF) (A aI))) (Y2 n 3) (Y8 tb 6) true (ax ([(A aF,bO (pW W) aP aE uP uE uL uH (bY pl tl) (bY he th) [aa (pW W) bp uA (.int ac ta),aa (pW W) g9 uU (bY up tu),aa (pW W) nX (cond b7 (TK tb) uX) (bY x tx),aa (pW W) nY (cond b7 (Y8 tb 1) uY) (bY y ty)] 8),(Yk aP pts ep1),(lS aI aP k),(fl aT x tx y ty et)])))))))) (fun _=>(gC [3,3,4000,3,3,3,40004,50005,4,60005,4,60005,4,5,5,7,70001,3001,4001,1,1,1,3001,4002,4003,3000])) (by apply iR b7<;>exact iX (by kernel_rfl)) rfl ⟨fun _=>bi,fun _=>au,fun _=>au,fun _=>au,trivial⟩ trivial rfl fun hX=>?_
 iterate 4 refine rI (by first|exact⟨rfl,rfl,hit⟩|exact⟨g5 hm1,rfl⟩|exact⟨g5 hm2,rfl⟩|exact⟨gG (decide_eq_false hlt),rfl⟩|exact⟨rfl,rfl⟩|exact⟨rfl,rfl,rfl⟩|exact⟨rfl,⟨rfl,rfl,rfl⟩,⟨rfl,rfl,rfl⟩,rfl⟩) ?_
 exact rF fun s' r _ h3 h4 h5=>kQ n tb s' hn ht (am rfl r) ⟨h4,ai h3,hP.nd,hP.lo⟩ h5
theorem wq(W:WW)(p0 p1 p2:Pos)(vC:FC)(aF aP aE aI aJ:Nat)(uP uE uL uH tl th:Tok)(pl he:Value)(rest:List DictEntry)(pts:Array Value)(ef ep1 k:Nat)(s:Shared)(hit:pts[(Yh k).toNat]? =none)(hP:az (pW W) ([(A aF,bO (pW W) aP aE uP uE uL uH pl he rest ef),(Yk aP pts ep1),(Y5 aI aP k)]) s){Q:Prop}(kQ:∀(n tb:Nat) (s':Shared),Hn s n->Ht s tb->Runs (Yt W) (⟨im (pW W) (A aF) (A aI),none,none,gI (pW W) (A aF) aJ p1 p2 vC,none⟩) p0 ((Yt W).den (im (pW W) (A aF) (A aI))) [] s ft s'->cL (pW W) s'->cG ([(A aF,bO (pW W) aP aE uP uE uL uH pl he rest ef),(Yk aP pts ep1),(kd aI k)]) s'.heap->af ([(A aF,bO (pW W) aP aE uP uE uL uH pl he rest ef),(Yk aP pts ep1),(Y5 aI aP k)]) s s'->Q):Q:=by
 obtain⟨n,hn⟩:=hP.size
 obtain⟨tb,ht⟩:=hP.toks
 generalize hg:s.gens.size=gb
 ·have H:=Eq.mpr (og W p0 p1 p2 vC aF aP aE aI aJ uP uE uL uH tl th pl he rest pts ef ep1 k n tb gb (fun ev nk tk fin l=>fin=true/\((ev=oW/\l=ax ([(A aF,bO (pW W) aP aE uP uE uL uH pl he rest ef),(Yk aP pts ep1),(kd aI k)]))/\677<=tk)) _ rfl _ rfl) (by
   refine rI (by first|exact⟨rfl,rfl,hit⟩|exact⟨rfl,rfl⟩|exact⟨rfl,rfl,rfl⟩|exact⟨rfl,⟨rfl,rfl,rfl⟩,⟨rfl,rfl,rfl⟩,rfl⟩) ?_
   exact ag ⟨rfl,⟨rfl,rfl⟩,eQ⟩ _)
  obtain⟨ev,s',l,r,⟨⟨rfl,rfl⟩,htk⟩,h3,h4,h5⟩:=dp (is:=[0,1,2]) (by exact⟨fun _=>ce,trivial⟩) (by exact trivial) hP hn ht hg rfl (by rintro ev nk tk l ⟨⟨rfl,rfl⟩,h⟩;exact⟨rfl,h⟩) H
  exact kQ n tb s' hn ht (by rw [bG];exact r) h4 (ai h3) h5
theorem cg:∀{E E':ae} {h:Heap},cG (E++E') h↔cG E h/\cG E' h
 |[],_,_=>⟨fun H=>⟨trivial,H⟩,fun H=>H.2⟩
 |x::E,E',h=>by
  show(_/\cG (E++E') h)↔((_/\cG E h)/\_)
  rw [cg (E:=E)]
  exact⟨fun⟨a,b,c⟩=>⟨⟨a,b⟩,c⟩,fun⟨⟨a,b⟩,c⟩=>⟨a,b,c⟩⟩
theorem az.add{P:Params}{E:ae}{s:Shared}{fz:List (Nat×Obj)}{x:Nat×Obj}(hP:az P E s)(hf:cF fz E s)(hx:x∈fz)(ha:245<=x.1):az P (E++[x]) s:=by
 refine⟨hP.rdy,cg.mpr ⟨hP.has,(hf x hx).1,trivial⟩,?_,?_⟩
 ·rw [map_append]
  refine List.nodup_append.mpr ⟨hP.nd,by simp,fun a h1 b h2=>?_⟩
  have h2:b=x.1:=List.mem_singleton.mp h2
  subst h2
  intro e
  subst e
  exact(hf x hx).2 h1
 ·intro a h
  rw [map_append] at h
  rcases List.mem_append.mp h with h|h
  ·exact hP.lo a h
  ·have h:a=x.1:=List.mem_singleton.mp h
   subst h
   exact jc (.inl (by lia))
theorem az.cut{P:Params}{E:ae}{s:Shared}{x:Nat×Obj}(hP:az P (E++[x]) s):az P E s:=by
 refine⟨hP.rdy,(cg.mp hP.has).1,?_,fun a h=>hP.lo a (by rw [map_append];exact mem_append_left _ h)⟩
 have:=hP.nd
 rw [map_append] at this
 exact(List.nodup_append.mp this).1
theorem af.cut{E:ae}{s s':Shared}{x:Nat×Obj}(h:af (E++[x]) s s')(h1:s.heap.get? x.1=some x.2)(h2:s'.heap.get? x.1=some x.2):af E s s':=by
 refine⟨fun b o e hb=>?_,h.drawn,h.os,h.size⟩
 by_cases q:b=x.1
 ·subst q;rw [h1] at e;cases e;exact h2
 ·refine h.keep b o e fun hm=>?_
  rw [map_append] at hm
  rcases List.mem_append.mp hm with hm|hm
  ·exact hb hm
  ·exact q (List.mem_singleton.mp hm)
theorem cF.keep{fz:List (Nat×Obj)}{E E':ae}{s s':Shared}(h:cF fz E s)(k:af E s s')(e:E.map (·.1)=E'.map (·.1)):cF fz E' s':=
 fun x hx=>⟨k.keep _ _ (h x hx).1 (h x hx).2,by rw [<-e];exact(h x hx).2⟩
def aw(items:Array Value)(fz:List (Nat×Obj))(ps:List (Int×Int)):Prop:=∀i:Nat,match ps[i]? with
 |some p=>∃a tx ty et,items[i]? =some (.ref (A a))/\(A a,a9 [.int p.1 tx,.int p.2 ty] et)∈fz
 |none=>items[i]? =none
theorem aw.none{items:Array Value}{fz}{ps:List (Int×Int)}(h:aw items fz ps){k:Nat}(e:ps.drop k=[]):items[(Int.ofNat k).toNat]? =none:=by
 have z:=h k
 rw [List.getElem?_eq_none (List.drop_eq_nil_iff.mp e)] at z
 exact z
theorem bw{α:Type}{ps:List α}{k:Nat}{c:α}{rest:List α}(e:ps.drop k=c::rest):ps[k]? =some c/\ps.drop (k+1)=rest:=by
 refine⟨?_,?_⟩
 ·have:=getElem?_drop (xs:=ps) (i:=k) (j:=0)
  rw [e] at this;simpa using this.symm
 ·rw [<-drop_drop,e];rfl
theorem aw.some{items:Array Value}{fz}{ps:List (Int×Int)}(h:aw items fz ps){k:Nat}{p:Int×Int}(e:ps[k]? =some p):∃a tx ty et,items[(Int.ofNat k).toNat]? =some (.ref (A a))/\(A a,a9 [.int p.1 tx,.int p.2 ty] et)∈fz:=by
 have z:=h k
 rw [e] at z
 exact z
theorem kx{a b:Int}(h:Builtin.Int.intBits a<=64):IntMulOk a b:=.of_left h
structure Gu where
 uX:Tok
 vx:Value
 uY:Tok
 vy:Value
 k:Nat
abbrev cw:=Int×Int
abbrev Qf(a:Gu):=aK "list_iterator" [.none,.int (Int.ofNat a.k) 0]
section
variable(W:WW)(p1 p2:Pos)(vC:FC)(aF aP aE aI aJ:Nat)(uP uE uL uH uA uU tl th ta tu:Tok)(pl he ac up:Int)(pts:Array Value)(ep1:Nat)(fz:List df)(ps:List cw)(hps:aw pts fz ps)(ha:Builtin.Int.intBits ac<=64)(hu:Builtin.Int.intBits up<=64)
include W p1 p2 vC aF aP aE aI aJ uP uE uL uH uA uU tl th ta tu pl he ac up pts ep1 fz ps hps ha hu
theorem sk:∀(rest:List cw) (k:Nat) (uX uY:Tok) (vx vy:Value) (p0:Pos) (s:Shared),ps.drop k=rest->(∀q∈rest,¬(ac*(q.2-he)<up*(q.1-pl)))->az (pW W) ([(A aF,bO (pW W) aP aE uP uE uL uH (.int pl tl) (.int he th) [aa (pW W) bp uA (.int ac ta),aa (pW W) g9 uU (.int up tu),aa (pW W) nX uX vx,aa (pW W) nY uY vy] 8),(Yk aP pts ep1),(Y5 aI aP k)]) s->cF fz ([(A aF,bO (pW W) aP aE uP uE uL uH (.int pl tl) (.int he th) [aa (pW W) bp uA (.int ac ta),aa (pW W) g9 uU (.int up tu),aa (pW W) nX uX vx,aa (pW W) nY uY vy] 8),(Yk aP pts ep1),(Y5 aI aP k)]) s->
  ∀Q:Prop,(∀(s':Shared) (x:Gu),Runs (Yt W) ⟨im (pW W) (A aF) (A aI),none,none,gI (pW W) (A aF) aJ p1 p2 vC,none⟩ p0 ((Yt W).den (im (pW W) (A aF) (A aI))) [] s ft s'->cL (pW W) s'->cG ([(A aF,bO (pW W) aP aE uP uE uL uH (bY pl tl) (bY he th) [aa (pW W) bp uA (.int ac ta),aa (pW W) g9 uU (bY up tu),aa (pW W) nX x.uX x.vx,aa (pW W) nY x.uY x.vy] 8),(Yk aP pts ep1),(A aI,Qf x)]) s'.heap->af ([(A aF,bO (pW W) aP aE uP uE uL uH (.int pl tl) (.int he th) [aa (pW W) bp uA (.int ac ta),aa (pW W) g9 uU (.int up tu),aa (pW W) nX uX vx,aa (pW W) nY uY vy] 8),(Yk aP pts ep1),(Y5 aI aP k)]) s s'->Q)->Q:=by
 intro rest0
 induction rest0 with
 |nil=>
  intro k uX uY vx vy p0 s hd hn hP hf Q kQ
  apply wq (W:=W) (hit:=hps.none hd) (hP:=hP) (p0:=p0) (tl:=tl) (th:=th) (kQ:=?kz11) ..
  case' kz11=>intro n tb s' _ _ r h1 h2 h3
  exact kQ s' ⟨uX,vx,uY,vy,k⟩ r h1 h2 h3
 |cons q rest ih=>
  intro k uX uY vx vy p0 s hd hn hP hf Q kQ
  obtain⟨hk,hd'⟩:=bw hd
  obtain⟨aT,tx,ty,et,hit,hx⟩:=hps.some hk
  have hP4:=hP.add hf hx (by show 245<=aT+245;lia)
  apply sM (b7:=false) (W:=W) (hit:=hit) (hm1:=kx ha) (hm2:=kx hu) (hlt:=hn q (mem_cons_self ..)) (hP:=hP4) (p0:=p0) (ep0:=0) (kQ:=?k4) ..
  case' k4=>intro n tb s1 _ _ H hP' K
  have K3:=af.cut (E:=[(A aF,bO (pW W) aP aE uP uE uL uH (.int pl tl) (.int he th) [aa (pW W) bp uA (.int ac ta),aa (pW W) g9 uU (.int up tu),aa (pW W) nX uX vx,aa (pW W) nY uY vy] 8),(Yk aP pts ep1),(Y5 aI aP k)]) (x:=(A aT,a9 [.int q.1 tx,.int q.2 ty] et)) K (hf _ hx).1 hP'.has.2.2.2.1
  obtain⟨p',H⟩:=H
  refine ih (k+1) _ _ _ _ p' s1 hd' (fun q' hq=>hn q' (mem_cons_of_mem _ hq)) (az.cut (x:=(A aT,a9 [.int q.1 tx,.int q.2 ty] et)) hP') (hf.keep K3 rfl) _ fun s2 x r h1 h2 h3=>?_
  exact kQ s2 x (H _ _ r) h1 h2 (K3.trans (h3.cast rfl))
noncomputable def oC(W:WW)(p1 p2:Pos)(vC:FC)(aF aP aE aI aJ:Nat)(uP uE uL uH uA uU tl th ta tu:Tok)(pl he ac up:Int)(pts:Array Value)(ep1:Nat)(fz:List df)(ps:List cw)(x:Gu):Result×List Obj×ae:=(mV,[bO (pW W) aP aE uP uE uL uH (bY pl tl) (bY he th) [aa (pW W) bp uA (.int ac ta),aa (pW W) g9 uU (bY up tu),aa (pW W) nX x.uX x.vx,aa (pW W) nY x.uY x.vy] 8,ab pts ep1,Qf x],[])
abbrev Yf a:=aK "list_iterator" [.ref (A a),.int (Int.ofNat 0) 0]
section
variable(hn:(∀q∈ps,¬(ac*(q.2-he)<up*(q.1-pl))))
include hn
theorem kn(uX uY:Tok)(vx vy:Value):
  bW (Vw W) ⟨im (pW W) (A aF) (A aI),none,none,gI (pW W) (A aF) aJ p1 p2 vC,none⟩ ([(A aF,bO (pW W) aP aE uP uE uL uH (.int pl tl) (.int he th) [aa (pW W) bp uA (.int ac ta),aa (pW W) g9 uU (.int up tu),aa (pW W) nX uX vx,aa (pW W) nY uY vy] 8),(Yk aP pts ep1),(A aI,Yf aP)]) fz (oC W p1 p2 vC aF aP aE aI aJ uP uE uL uH uA uU tl th ta tu pl he ac up pts ep1 fz ps) (fun _=>True):=by
 intro p0 s hP hf
 refine sk W p1 p2 vC aF aP aE aI aJ uP uE uL uH uA uU tl th ta tu pl he ac up pts ep1 fz ps hps ha hu ps 0 uX uY vx vy p0 s rfl hn hP hf _ fun s2 x r h1 h2 h3=>?_
 exact⟨x,s2,r,h1,h3,⟨h2.1,h2.2.1,h2.2.2.1,trivial⟩,trivial,(fun y hy=>nomatch hy),nodup_nil,trivial⟩
theorem km(hne:ps≠[]):
  bW (Vw W) ⟨im (pW W) (A aF) (A aI),none,none,gI (pW W) (A aF) aJ p1 p2 vC,none⟩ ([(A aF,bO (pW W) aP aE uP uE uL uH (bY pl tl) (bY he th) [aa (pW W) bp uA (.int ac ta),aa (pW W) g9 uU (bY up tu)] 6),(Yk aP pts ep1),(A aI,Yf aP)]) fz (oC W p1 p2 vC aF aP aE aI aJ uP uE uL uH uA uU tl th ta tu pl he ac up pts ep1 fz ps) (fun _=>True):=by
 intro p0 s hP hf
 refine gQ fun Q zQ=>?_
 obtain⟨q,rest,rfl⟩:∃q rest,ps=q::rest:=by cases ps with|nil=>exact(hne rfl).elim|cons q r=>exact⟨q,r,rfl⟩
 obtain⟨aT,tx,ty,et,hit,hx⟩:=hps.some (k:=0) rfl
 refine zQ ?_
 have hP4:=hP.add hf hx (by show 245<=aT+245;lia)
 apply sM (b7:=true) (W:=W) (hit:=hit) (hm1:=kx ha) (hm2:=kx hu) (hlt:=hn q (mem_cons_self ..)) (hP:=hP4) (p0:=p0) (ep0:=0) (uX:=0) (uY:=0) (vx:=.none) (vy:=.none) (kQ:=?k5) ..
 case' k5=>intro n tb s1 _ _ H hP' K
 have K3:=af.cut (E:=[(A aF,bO (pW W) aP aE uP uE uL uH (bY pl tl) (bY he th) [aa (pW W) bp uA (.int ac ta),aa (pW W) g9 uU (bY up tu)] 6),(Yk aP pts ep1),(A aI,Yf aP)]) (x:=(A aT,a9 [.int q.1 tx,.int q.2 ty] et)) K (hf _ hx).1 hP'.has.2.2.2.1
 obtain⟨p',H⟩:=H
 refine sk W p1 p2 vC aF aP aE aI aJ uP uE uL uH uA uU tl th ta tu pl he ac up pts ep1 fz (q::rest) hps ha hu rest 1 _ _ _ _ p' s1 rfl (fun q' hq=>hn q' (mem_cons_of_mem _ hq)) (az.cut (x:=(A aT,a9 [.int q.1 tx,.int q.2 ty] et)) hP') (hf.keep K3 rfl) _ fun s2 x r h1 h2 h3=>?_
 have h3:=K3.trans (h3.cast rfl)
 exact⟨x,s2,H _ _ r,h1,h3,⟨h2.1,h2.2.1,h2.2.2.1,trivial⟩,trivial,(fun y hy=>nomatch hy),nodup_nil,trivial⟩
end
end
section
variable(W:WW)(p0 p2:Pos)(vC:FC)(aF aP aE aI:Nat)
include W p0 p2 vC aF aP aE aI
theorem oP(uP uE uL uH:Tok)(pl he:Value)(rest:List DictEntry)(pts eds:Array Value)(ef ep0 ep1 k:Nat)(n tb gb:Nat)(Z:ZB)(hX:List Nat)(hhX:hX=[4,4,4000,4,4,6])(eX:ae)(heX:eX=[(A aF,bO (pW W) aP aE uP uE uL uH pl he rest ef),(Yk aP pts ep1),(Yk aE eds ep0),(Y5 aI aE k)]):
 ch (ul W 4 3 2) 54 (⟨gD (pW W) (A aF) (A aI),none,none,(gA (iv (pW W)) (A aF) 238,p2)::fU vC,none⟩) (p0) (a8 (gD (pW W) (A aF) (A aI))) [] hX (cN eX n tb gb) (mB Z)=
ad (lE eX) (A n) gb (sl hX 0 2) (
(uq aI aE eds k)/\ad (lE eX) (A n) gb (sl hX 3 3) (
Z oW (Y2 n 2) (Y8 tb 0) true (ax ([(A aF,bO (pW W) aP aE uP uE uL uH pl he rest ef),(Yk aP pts ep1),(Yk aE eds ep0),(kd aI k)])))):=by
 subst hhX;subst heX
 kernel_rfl
abbrev db a b:=A (Nat.add a b)
abbrev PM:=(gC [4,4,4000,4,4,4,40005,50006,5,60006,5,60006,5,6,6,8,50001,2,2,2,9,1000,40001,40010,50011,10,60011,10,60011,10,11,11,13,40001,3000])
noncomputable abbrev DR:=(⟨147,20,147,26⟩:Pos)
section
variable(aT:Nat)(uP uE uL uH uA uU uX uY tl th ta0 tu0 ta tu:Tok)(pl he ac0 up0 ac up:Int)(vx vy:Value)(pts eds:Array Value)(ep0 ep1 k et:Nat)(fz:List df)(ps:List cw)(s:Shared)(hit:eds[(Yh k).toNat]? =some (Yp aT))(hps:aw pts fz ps)(ha:Builtin.Int.intBits ac<=64)(hu:Builtin.Int.intBits up<=64)(hnb:∀q∈ps,¬(ac*(q.2-he)<up*(q.1-pl)))
include aT uP uE uL uH uA uU uX uY tl th ta0 tu0 ta tu pl he ac0 up0 ac up vx vy pts eds ep0 ep1 k et fz ps s hit hps ha hu hnb
theorem pX(hne:ps≠[])(hP:az (pW W) ([(A aF,bO (pW W) aP aE uP uE uL uH (bY pl tl) (bY he th) [] 4),(Yk aP pts ep1),(Yk aE eds ep0),(Y5 aI aE k),(fl aT ac ta up tu et)]) s)(hfz:cF fz ([(A aF,bO (pW W) aP aE uP uE uL uH (bY pl tl) (bY he th) [] 4),(Yk aP pts ep1),(Yk aE eds ep0),(Y5 aI aE k),(fl aT ac ta up tu et)]) s){Q:Prop}(kQ:∀(n tb:Nat) (s':Shared) (x0:Gu) (tb0:Nat),Hn s n->Ht s tb->br (Yt W) (⟨gD (pW W) (A aF) (A aI),none,none,(gA (iv (pW W)) (A aF) 238,p2)::fU vC,none⟩) p0 s s'->az (pW W) ([(A aF,bO (pW W) aP aE uP uE uL uH (.int (pl+ac) (TK tb0)) (.int (he+up) (Y8 tb0 1)) [aa (pW W) bp (TK tb) (bY ac ta),aa (pW W) g9 (Y8 tb 1) (bY up tu),aa (pW W) nX x0.uX x0.vx,aa (pW W) nY x0.uY x0.vy] 8),(Yk aP pts ep1),(Yk aE eds ep0),(lS aI aE k),(fl aT ac ta up tu et)]) s'->af ([(A aF,bO (pW W) aP aE uP uE uL uH (bY pl tl) (bY he th) [] 4),(Yk aP pts ep1),(Yk aE eds ep0),(Y5 aI aE k),(fl aT ac ta up tu et)]) s s'->Q):Q:=by
 obtain⟨n,tb,gb,hn,ht,hg⟩:=hP.nt
 have hE:= @rfl qx fun W=>[(A aF,bO (pW W) aP aE uP uE uL uH (bY pl tl) (bY he th) [] 4),(Yk aP pts ep1),(Yk aE eds ep0),(Y5 aI aE k),(fl aT ac ta up tu et)]
 refine Gn hE hP hn ht hg (fun eX W Z hX=>ch (fk (Vw W) 5 [(bF 3 2 (Yp aT))] [] [kk (Vw W) (⟨im (pW W) (A aF) (qP n 3),none,none,gI (pW W) (A aF) (A aI) DR p2 vC,none⟩) ([(A aF,bO (pW W) aP aE uP uE uL uH (bY pl tl) (bY he th) [aa (pW W) bp (TK tb) (bY ac ta),aa (pW W) g9 (Y8 tb 1) (bY up tu)] 6),(Yk aP pts ep1),(db n 3,Yf aP)]) [0,1,8] 5 5 (oC W DR p2 vC aF aP aE (bJ n 3) (A aI) uP uE uL uH (TK tb) (Y8 tb 1) tl th ta tu pl he ac up pts ep1 fz ps) (fun _=>True)] [] fz) 203 (⟨gD (pW W) (A aF) (A aI),none,none,(gA (iv (pW W)) (A aF) 238,p2)::fU vC,none⟩) (p0) (a8 (gD (pW W) (A aF) (A aI))) [] hX (cN eX n tb gb) (kZ [0,1,2,3,4] Z)) (fun eX W Z hX=>ad (lE eX) (A n) gb (sl hX 0 2) ((Em aI aE eds k aT)/\ad (lE eX) (A n) gb (sl hX 3 39) ((Rf (⟨im (pW W) (A aF) (qP n 3),none,none,gI (pW W) (A aF) (A aI) DR p2 vC,none⟩:Ctx))/\(Rf (ax ([(A aF,bO (pW W) aP aE uP uE uL uH (bY pl tl) (bY he th) [aa (pW W) bp (TK tb) (bY ac ta),aa (pW W) g9 (Y8 tb 1) (bY up tu)] 6),(Yk aP pts ep1),(db n 3,Yf aP)])))/\Yc/\Yc/\∀(x0:Gu) (n0 tb0 gb0:Nat),True->Yc/\ad [(A aF),(A aP),(A aE),(A aI),(A aT),(Y2 n 0),(Y2 n 1),(Y2 n 2),(Y2 n 3)] (A n0) gb0 (sl hX 43 35) (Z (.again (gD (pW W) (A aF) (A aI))) (Y2 n0 4) (Y8 tb0 4) true (ax ([(A aF,bO (pW W) aP aE uP uE uL uH (.int (pl+ac) (TK tb0)) (.int (he+up) (Y8 tb0 1)) [aa (pW W) bp (TK tb) (bY ac ta),aa (pW W) g9 (Y8 tb 1) (bY up tu),aa (pW W) nX x0.uX x0.vx,aa (pW W) nY x0.uY x0.vy] 8),(Yk aP pts ep1),(Yk aE eds ep0),(lS aI aE k),(fl aT ac ta up tu et)])))))) (fun _=>PM) (iX (by kernel_rfl)) rfl ⟨fun _=>bi,trivial⟩ ⟨ju rfl (km W DR p2 vC aF aP aE (bJ n 3) (A aI) uP uE uL uH (TK tb) (Y8 tb 1) tl th ta tu pl he ac up pts ep1 fz ps hps ha hu hnb hne),trivial⟩ rfl hfz fun hX=>?_
 refine rI (by first|exact⟨rfl,rfl,hit⟩|exact⟨rfl,rfl⟩|exact⟨rfl,rfl,rfl⟩|exact⟨rfl,⟨rfl,rfl,rfl⟩,⟨rfl,rfl,rfl⟩,rfl⟩) ?_
 refine ag ⟨rfl,rfl,rfl,rfl,fun x0 n0 tb0 gb0 hx0=>⟨rfl,?_⟩⟩ _
 exact rF fun s' r _ h3 h4 h5=>kQ n tb s' x0 tb0 hn ht (am rfl r) ⟨h4,ai h3,hP.nd,hP.lo⟩ h5
theorem qa(hP:az (pW W) ([(A aF,bO (pW W) aP aE uP uE uL uH (.int pl tl) (.int he th) [aa (pW W) bp uA (.int ac0 ta0),aa (pW W) g9 uU (.int up0 tu0),aa (pW W) nX uX vx,aa (pW W) nY uY vy] 8),(Yk aP pts ep1),(Yk aE eds ep0),(Y5 aI aE k),(fl aT ac ta up tu et)]) s)(hfz:cF fz ([(A aF,bO (pW W) aP aE uP uE uL uH (.int pl tl) (.int he th) [aa (pW W) bp uA (.int ac0 ta0),aa (pW W) g9 uU (.int up0 tu0),aa (pW W) nX uX vx,aa (pW W) nY uY vy] 8),(Yk aP pts ep1),(Yk aE eds ep0),(Y5 aI aE k),(fl aT ac ta up tu et)]) s){Q:Prop}(kQ:∀(n tb:Nat) (s':Shared) (x0:Gu) (tb0:Nat),Hn s n->Ht s tb->br (Yt W) (⟨gD (pW W) (A aF) (A aI),none,none,(gA (iv (pW W)) (A aF) 238,p2)::fU vC,none⟩) p0 s s'->az (pW W) ([(A aF,bO (pW W) aP aE uP uE uL uH (.int (pl+ac) (TK tb0)) (.int (he+up) (Y8 tb0 1)) [aa (pW W) bp uA (.int ac ta),aa (pW W) g9 uU (bY up tu),aa (pW W) nX x0.uX x0.vx,aa (pW W) nY x0.uY x0.vy] 8),(Yk aP pts ep1),(Yk aE eds ep0),(lS aI aE k),(fl aT ac ta up tu et)]) s'->af ([(A aF,bO (pW W) aP aE uP uE uL uH (.int pl tl) (.int he th) [aa (pW W) bp uA (.int ac0 ta0),aa (pW W) g9 uU (.int up0 tu0),aa (pW W) nX uX vx,aa (pW W) nY uY vy] 8),(Yk aP pts ep1),(Yk aE eds ep0),(Y5 aI aE k),(fl aT ac ta up tu et)]) s s'->Q):Q:=by
 obtain⟨n,tb,gb,hn,ht,hg⟩:=hP.nt
 have hE:= @rfl qx fun W=>[(A aF,bO (pW W) aP aE uP uE uL uH (.int pl tl) (.int he th) [aa (pW W) bp uA (.int ac0 ta0),aa (pW W) g9 uU (.int up0 tu0),aa (pW W) nX uX vx,aa (pW W) nY uY vy] 8),(Yk aP pts ep1),(Yk aE eds ep0),(Y5 aI aE k),(fl aT ac ta up tu et)]
 refine Gn hE hP hn ht hg (fun eX W Z hX=>ch (fk (Vw W) 5 [(bF 3 2 (Yp aT))] [] [kk (Vw W) (⟨im (pW W) (A aF) (qP n 3),none,none,gI (pW W) (A aF) (A aI) DR p2 vC,none⟩) ([(A aF,bO (pW W) aP aE uP uE uL uH (.int pl tl) (.int he th) [aa (pW W) bp uA (.int ac ta),aa (pW W) g9 uU (.int up tu),aa (pW W) nX uX vx,aa (pW W) nY uY vy] 8),(Yk aP pts ep1),(db n 3,Yf aP)]) [0,1,8] 5 5 (oC W DR p2 vC aF aP aE (bJ n 3) (A aI) uP uE uL uH uA uU tl th ta tu pl he ac up pts ep1 fz ps) (fun _=>True)] [] fz) 203 (⟨gD (pW W) (A aF) (A aI),none,none,(gA (iv (pW W)) (A aF) 238,p2)::fU vC,none⟩) (p0) (a8 (gD (pW W) (A aF) (A aI))) [] hX (cN eX n tb gb) (kZ [0,1,2,3,4] Z)) (fun eX W Z hX=>ad (lE eX) (A n) gb (sl hX 0 2) ((Em aI aE eds k aT)/\ad (lE eX) (A n) gb (sl hX 3 39) ((Rf (⟨im (pW W) (A aF) (qP n 3),none,none,gI (pW W) (A aF) (A aI) DR p2 vC,none⟩:Ctx))/\(Rf (ax ([(A aF,bO (pW W) aP aE uP uE uL uH (.int pl tl) (.int he th) [aa (pW W) bp uA (.int ac ta),aa (pW W) g9 uU (.int up tu),aa (pW W) nX uX vx,aa (pW W) nY uY vy] 8),(Yk aP pts ep1),(db n 3,Yf aP)])))/\Yc/\Yc/\∀(x0:Gu) (n0 tb0 gb0:Nat),True->Yc/\ad [(A aF),(A aP),(A aE),(A aI),(A aT),(Y2 n 0),(Y2 n 1),(Y2 n 2),(Y2 n 3)] (A n0) gb0 (sl hX 43 35) (Z (.again (gD (pW W) (A aF) (A aI))) (Y2 n0 4) (Y8 tb0 4) true (ax ([(A aF,bO (pW W) aP aE uP uE uL uH (.int (pl+ac) (TK tb0)) (.int (he+up) (Y8 tb0 1)) [aa (pW W) bp uA (.int ac ta),aa (pW W) g9 uU (bY up tu),aa (pW W) nX x0.uX x0.vx,aa (pW W) nY x0.uY x0.vy] 8),(Yk aP pts ep1),(Yk aE eds ep0),(lS aI aE k),(fl aT ac ta up tu et)])))))) (fun _=>PM) (iX (by kernel_rfl)) rfl ⟨fun _=>bi,trivial⟩ ⟨ju rfl (kn W DR p2 vC aF aP aE (bJ n 3) (A aI) uP uE uL uH uA uU tl th ta tu pl he ac up pts ep1 fz ps hps ha hu hnb uX uY vx vy),trivial⟩ rfl hfz fun hX=>?_
 refine rI (by first|exact⟨rfl,rfl,hit⟩|exact⟨rfl,rfl⟩|exact⟨rfl,rfl,rfl⟩|exact⟨rfl,⟨rfl,rfl,rfl⟩,⟨rfl,rfl,rfl⟩,rfl⟩) ?_
 refine ag ⟨rfl,rfl,rfl,rfl,fun x0 n0 tb0 gb0 hx0=>⟨rfl,?_⟩⟩ _
 exact rF fun s' r _ h3 h4 h5=>kQ n tb s' x0 tb0 hn ht (am rfl r) ⟨h4,ai h3,hP.nd,hP.lo⟩ h5
end
theorem wl(uP uE uL uH:Tok)(pl he:Value)(rest:List DictEntry)(pts eds:Array Value)(ef ep0 ep1 k:Nat)(s:Shared)(hit:eds[(Yh k).toNat]? =none)(hP:az (pW W) ([(A aF,bO (pW W) aP aE uP uE uL uH pl he rest ef),(Yk aP pts ep1),(Yk aE eds ep0),(Y5 aI aE k)]) s){Q:Prop}(kQ:∀(n tb:Nat) (s':Shared),Hn s n->Ht s tb->Runs (Yt W) (⟨gD (pW W) (A aF) (A aI),none,none,(gA (iv (pW W)) (A aF) 238,p2)::fU vC,none⟩) p0 ((Yt W).den (gD (pW W) (A aF) (A aI))) [] s ft s'->cL (pW W) s'->cG ([(A aF,bO (pW W) aP aE uP uE uL uH pl he rest ef),(Yk aP pts ep1),(Yk aE eds ep0),(kd aI k)]) s'.heap->af ([(A aF,bO (pW W) aP aE uP uE uL uH pl he rest ef),(Yk aP pts ep1),(Yk aE eds ep0),(Y5 aI aE k)]) s s'->Q):Q:=by
 obtain⟨n,hn⟩:=hP.size
 obtain⟨tb,ht⟩:=hP.toks
 generalize hg:s.gens.size=gb
 ·have H:=Eq.mpr (oP W p0 p2 vC aF aP aE aI uP uE uL uH pl he rest pts eds ef ep0 ep1 k n tb gb (fun ev nk tk fin l=>fin=true/\((ev=oW/\l=ax ([(A aF,bO (pW W) aP aE uP uE uL uH pl he rest ef),(Yk aP pts ep1),(Yk aE eds ep0),(kd aI k)]))/\677<=tk)) _ rfl _ rfl) (by
   refine rI (by first|exact⟨rfl,rfl,hit⟩|exact⟨rfl,rfl⟩|exact⟨rfl,rfl,rfl⟩|exact⟨rfl,⟨rfl,rfl,rfl⟩,⟨rfl,rfl,rfl⟩,rfl⟩) ?_
   exact ag ⟨rfl,⟨rfl,rfl⟩,eQ⟩ _)
  obtain⟨ev,s',l,r,⟨⟨rfl,rfl⟩,htk⟩,h3,h4,h5⟩:=dp (is:=[0,1,2,3]) (by exact⟨fun _=>ce,trivial⟩) (by exact trivial) hP hn ht hg rfl (by rintro ev nk tk l ⟨⟨rfl,rfl⟩,h⟩;exact⟨rfl,h⟩) H
  exact kQ n tb s' hn ht (by rw [bG];exact r) h4 (ai h3) h5
end
structure Jz where
 tl:Tok
 th:Tok
 uA:Tok
 va:Value
 uU:Tok
 vu:Value
 uX:Tok
 vx:Value
 uY:Tok
 vy:Value
 k:Nat
noncomputable def gH(a:Int):List (Int×Int)->Int
 |[]=>a
 |e::r=>gH (a+e.1) r
noncomputable def gJ(a:Int):List (Int×Int)->Int
 |[]=>a
 |e::r=>gJ (a+e.2) r
def hJ(ps:List (Int×Int)):Int->Int->List (Int×Int)->Prop
 |_,_,[]=>True
 |pl,he,e::r=>(∀q∈ps,¬(e.1*(q.2-he)<e.2*(q.1-pl)))/\hJ ps (pl+e.1) (he+e.2) r
theorem pu{fz:List (Nat×Obj)}{E:ae}{s:Shared}{x:Nat×Obj}(h:cF fz E s)(g:∀y∈fz,y.1≠x.1):cF fz (E++[x]) s:=fun y hy=>by
 refine⟨(h y hy).1,fun hm=>?_⟩
 rw [map_append] at hm
 rcases List.mem_append.mp hm with hm|hm
 ·exact(h y hy).2 hm
 ·exact g y hy (List.mem_singleton.mp hm)
def oN(es:List cw):Prop:=∀e∈es,Builtin.Int.intBits e.1<=64/\Builtin.Int.intBits e.2<=64
section
variable(W:WW)(p2:Pos)(vC:FC)(aF aP aE aI:Nat)(uP uE uL uH:Tok)(pts eds:Array Value)(ep0 ep1:Nat)(fzP fzE:List df)(ps es:List cw)(hps:aw pts fzP ps)(hes:aw eds fzE es)(hdis:∀x∈fzP,∀y∈fzE,x.1≠y.1)(hb:oN es)
include W p2 vC aF aP aE aI uP uE uL uH pts eds ep0 ep1 fzP fzE ps es hps hes hdis hb
theorem Cd:∀(rest:List cw) (k:Nat) (pl he ac up:Int) (tl th uA uU uX uY ta tu:Tok) (vx vy:Value) (p0:Pos) (s:Shared),es.drop k=rest->(∀e∈rest,e∈es)->hJ ps pl he rest->az (pW W) ([(A aF,bO (pW W) aP aE uP uE uL uH (.int pl tl) (.int he th) [aa (pW W) bp uA (.int ac ta),aa (pW W) g9 uU (.int up tu),aa (pW W) nX uX vx,aa (pW W) nY uY vy] 8),(Yk aP pts ep1),(Yk aE eds ep0),(Y5 aI aE k)]) s->cF fzP ([(A aF,bO (pW W) aP aE uP uE uL uH (.int pl tl) (.int he th) [aa (pW W) bp uA (.int ac ta),aa (pW W) g9 uU (.int up tu),aa (pW W) nX uX vx,aa (pW W) nY uY vy] 8),(Yk aP pts ep1),(Yk aE eds ep0),(Y5 aI aE k)]) s->cF fzE ([(A aF,bO (pW W) aP aE uP uE uL uH (.int pl tl) (.int he th) [aa (pW W) bp uA (.int ac ta),aa (pW W) g9 uU (.int up tu),aa (pW W) nX uX vx,aa (pW W) nY uY vy] 8),(Yk aP pts ep1),(Yk aE eds ep0),(Y5 aI aE k)]) s->
  ∀Q:Prop,(∀(s':Shared) (x:Jz),Runs (Yt W) ⟨gD (pW W) (A aF) (A aI),none,none,(gA (iv (pW W)) (A aF) 238,p2)::fU vC,none⟩ p0 ((Yt W).den (gD (pW W) (A aF) (A aI))) [] s ft s'->cL (pW W) s'->cG ([(A aF,bO (pW W) aP aE uP uE uL uH (.int (gH pl (rest)) x.tl) (.int (gJ he (rest)) x.th) [aa (pW W) bp x.uA x.va,aa (pW W) g9 x.uU x.vu,aa (pW W) nX x.uX x.vx,aa (pW W) nY x.uY x.vy] 8),(Yk aP pts ep1),(Yk aE eds ep0),(A aI,aK "list_iterator" [.none,.int (Int.ofNat x.k) 0])]) s'.heap->af ([(A aF,bO (pW W) aP aE uP uE uL uH (.int pl tl) (.int he th) [aa (pW W) bp uA (.int ac ta),aa (pW W) g9 uU (.int up tu),aa (pW W) nX uX vx,aa (pW W) nY uY vy] 8),(Yk aP pts ep1),(Yk aE eds ep0),(Y5 aI aE k)]) s s'->Q)->Q:=by
 intro rest0
 induction rest0 with
 |nil=>
  intro k pl he ac up tl th uA uU uX uY ta tu vx vy p0 s hd hm hn hP hf hg Q kQ
  apply wl (W:=W) (hit:=hes.none hd) (hP:=hP) (p0:=p0) (kQ:=?kz12) ..
  case' kz12=>intro n tb s' _ _ r h1 h2 h3
  exact kQ s' ⟨tl,th,uA,.int ac ta,uU,.int up tu,uX,vx,uY,vy,k⟩ r h1 h2 h3
 |cons q rest ih=>
  intro k pl he ac up tl th uA uU uX uY ta tu vx vy p0 s hd hm hn hP hf hg Q kQ
  obtain⟨hk,hd'⟩:=bw hd
  obtain⟨aT,tx,ty,et,hit,hx⟩:=hes.some hk
  have hP4:=hP.add hg hx (by show 245<=aT+245;lia)
  have hq:=hb q (hm q (mem_cons_self ..))
  have hf5:cF fzP ([(A aF,bO (pW W) aP aE uP uE uL uH (.int pl tl) (.int he th) [aa (pW W) bp uA (.int ac ta),aa (pW W) g9 uU (.int up tu),aa (pW W) nX uX vx,aa (pW W) nY uY vy] 8),(Yk aP pts ep1),(Yk aE eds ep0),(Y5 aI aE k)]++[(A aT,a9 [.int q.1 tx,.int q.2 ty] et)]) s:=pu hf fun x h=>hdis x h _ hx
  apply qa (W:=W) (hit:=hit) (hps:=hps) (ha:=hq.1) (hu:=hq.2) (hnb:=hn.1) (hP:=hP4) (hfz:=hf5) (p0:=p0) (kQ:=?k6) ..
  case' k6=>intro n tb s1 x0 tb0 _ _ H hP' K
  have K3:=af.cut (E:=[(A aF,bO (pW W) aP aE uP uE uL uH (.int pl tl) (.int he th) [aa (pW W) bp uA (.int ac ta),aa (pW W) g9 uU (.int up tu),aa (pW W) nX uX vx,aa (pW W) nY uY vy] 8),(Yk aP pts ep1),(Yk aE eds ep0),(Y5 aI aE k)]) (x:=(A aT,a9 [.int q.1 tx,.int q.2 ty] et)) K (hg _ hx).1 hP'.has.2.2.2.2.1
  obtain⟨p',H⟩:=H
  refine ih (k+1) (pl+q.1) (he+q.2) q.1 q.2 _ _ _ _ _ _ _ _ _ _ p' s1 hd' (fun e h=>hm e (mem_cons_of_mem _ h)) hn.2 (az.cut (x:=(A aT,a9 [.int q.1 tx,.int q.2 ty] et)) hP') (hf.keep K3 rfl) (hg.keep K3 rfl) _ fun s2 x r h1 h2 h3=>?_
  exact kQ s2 x (H _ _ r) h1 h2 (K3.trans (h3.cast rfl))
noncomputable def nP(W:WW)(p2:Pos)(vC:FC)(aF aP aE aI:Nat)(uP uE uL uH:Tok)(pts eds:Array Value)(ep0 ep1:Nat)(fzP fzE:List df)(ps es:List cw)(pl he:Int)(x:Jz):Result×List Obj×ae:=(mV,([(A aF,bO (pW W) aP aE uP uE uL uH (.int (gH pl (es)) x.tl) (.int (gJ he (es)) x.th) [aa (pW W) bp x.uA x.va,aa (pW W) g9 x.uU x.vu,aa (pW W) nX x.uX x.vx,aa (pW W) nY x.uY x.vy] 8),(Yk aP pts ep1),(Yk aE eds ep0),(A aI,aK "list_iterator" [.none,.int (Int.ofNat x.k) 0])]).map (·.2),[])
theorem wa(pl he:Int)(tl th:Tok)(hn:hJ ps pl he es)(hpn:ps≠[])(hen:es≠[]):
  bW (Vw W) ⟨gD (pW W) (A aF) (A aI),none,none,(gA (iv (pW W)) (A aF) 238,p2)::fU vC,none⟩ ([(A aF,bO (pW W) aP aE uP uE uL uH (bY pl tl) (bY he th) [] 4),(Yk aP pts ep1),(Yk aE eds ep0),(A aI,Yf aE)]) (fzP++fzE) (nP W p2 vC aF aP aE aI uP uE uL uH pts eds ep0 ep1 fzP fzE ps es pl he) (fun _=>True):=by
 intro p0 s hP hfg
 have hf:cF fzP _ s:=fun x h=>hfg x (mem_append_left _ h)
 have hg:cF fzE _ s:=fun x h=>hfg x (mem_append_right _ h)
 refine gQ fun Q zQ=>?_
 obtain⟨q,rest,rfl⟩:∃q rest,es=q::rest:=by cases es with|nil=>exact(hen rfl).elim|cons q r=>exact⟨q,r,rfl⟩
 obtain⟨aT,tx,ty,et,hit,hx⟩:=hes.some (k:=0) rfl
 refine zQ ?_
 have hP4:=hP.add hg hx (by show 245<=aT+245;lia)
 have hq:=hb q (mem_cons_self ..)
 have hf5:cF fzP ([(A aF,bO (pW W) aP aE uP uE uL uH (bY pl tl) (bY he th) [] 4),(Yk aP pts ep1),(Yk aE eds ep0),(A aI,Yf aE)]++[(A aT,a9 [.int q.1 tx,.int q.2 ty] et)]) s:=pu hf fun x h=>hdis x h _ hx
 apply pX (W:=W) (hit:=hit) (hps:=hps) (ha:=hq.1) (hu:=hq.2) (hnb:=hn.1) (hne:=hpn) (hP:=hP4) (hfz:=hf5) (p0:=p0) (uA:=0) (uU:=0) (uX:=0) (uY:=0) (ta0:=0) (tu0:=0) (ac0:=0) (up0:=0) (vx:=.none) (vy:=.none) (kQ:=?k7) ..
 case' k7=>intro n tb s1 x0 tb0 _ _ H hP' K
 have K3:=af.cut (E:=[(A aF,bO (pW W) aP aE uP uE uL uH (bY pl tl) (bY he th) [] 4),(Yk aP pts ep1),(Yk aE eds ep0),(A aI,Yf aE)]) (x:=(A aT,a9 [.int q.1 tx,.int q.2 ty] et)) K (hg _ hx).1 hP'.has.2.2.2.2.1
 obtain⟨p',H⟩:=H
 refine Cd W p2 vC aF aP aE aI uP uE uL uH pts eds ep0 ep1 fzP fzE ps (q::rest) hps hes hdis hb rest 1 (pl+q.1) (he+q.2) q.1 q.2 _ _ _ _ _ _ _ _ _ _ p' s1 rfl (fun e h=>mem_cons_of_mem _ h) hn.2 (az.cut (x:=(A aT,a9 [.int q.1 tx,.int q.2 ty] et)) hP') (hf.keep K3 rfl) (hg.keep K3 rfl) _ fun s2 x r h1 h2 h3=>?_
 have h3:=K3.trans (h3.cast rfl)
 exact⟨x,s2,H _ _ r,h1,h3,h2,trivial,(fun y hy=>nomatch hy),nodup_nil,trivial⟩
end
noncomputable def nj(i j:Nat)(v:Bool):bD:=fun Γ c st=>MC (st.T.get i) nO fun cl a b=>MC (st.T.get j) nO fun cl' a' b'=>
  (c=.builtin "tuple.__eq__" ⟨[.ref (bm st.L st.n i),.ref (bm st.L st.n j)],[]⟩/\cl=.type "tuple"/\cl'=.type "tuple"/\((a==a')&&(b==b'))=v,ret (.bool v))
theorem nq{V:XV}{pr:Program}{w:World}{i j:Nat}{v:Bool}:bE V (model pr w) (nj i j v):=by
 refine dQ fun hΓ R=>xL fW fun cl dd a t b u n sl e1=>xL fW fun cl' dd' a' t' b' u' n' sl' e2=>?_
 rintro⟨rfl,rfl,rfl,hv⟩ H
 obtain⟨rfl,rfl⟩:=fP H
 rw [bh PySem.F.entry_tuple_eq]
 refine bu (PySem.SeqAt.tuple_eqAt _ _ _ _ _ _ _ _ _ _ (fun k=>if k=0 then(a==a') else(b==b'))) (by rw [hΓ];rfl) ⟨i9 R e1,i9 R e2,fun k h1 h2=>?_,?_,rfl⟩
 ·rcases k with _|_|k
  ·exact(MeetsSeq.EqGives.int a a' t t').at _ _
  ·exact(MeetsSeq.EqGives.int b b' u u').at _ _
  ·exact absurd (Nat.lt_of_succ_lt_succ (Nat.lt_of_succ_lt_succ h1)) (Nat.not_lt_zero _)
 ·rw [<-hv]
  simp [range_succ]
theorem jS:∀{l:List Nat} {E:List Obj} {T:ae} {h:Heap},l.length=E.length->j9 l E h->cG T h->j9 (l++T.map (·.1)) (E++T.map (·.2)) h
 |[],[],[],_,_,_,_=>trivial
 |[],[],x::T,h,_,_,H=>⟨H.1,jS (l:=[]) (E:=[]) rfl trivial H.2⟩
 |a::l,o::E,T,h,e,H,G=>⟨H.1,jS (by simpa using e) H.2 G⟩
 |[],_::_,_,_,e,_,_=>by simp at e
 |_::_,[],_,_,e,_,_=>by simp at e
theorem jV{X:Type}{w':World}{G:Ctx}{E T:ae}{fz:List df}{out:X->Result×List Obj×ae}{cond:X->Prop}(h:bW w' G E (fz++T) out cond)(hl:∀x,(out x).2.1.length=E.length):
  bW w' G (E++T) fz (fun x=>((out x).1,(out x).2.1++T.map (·.2),(out x).2.2)) cond:=by
 intro p s hP hf
 have hE:=cg.mp hP.has
 have nd:=hP.nd
 rw [map_append] at nd
 have nd:=List.nodup_append.mp nd
 have hT:∀x∈T,s.heap.get? x.1=some x.2:=by
  intro x hx
  obtain⟨i,hi⟩:=List.mem_iff_getElem?.mp hx
  exact hE.2.get hi
 refine gQ fun Q zQ=>?_
 obtain⟨x,s',r,rdy,K,has,hasN,newN,ndN,cx⟩:=h p s ⟨hP.rdy,hE.1,nd.1,fun a ha=>hP.lo a (by rw [map_append];exact mem_append_left _ ha)⟩ (by
  intro x hx
  rcases List.mem_append.mp hx with hx|hx
  ·exact⟨(hf x hx).1,fun hm=>(hf x hx).2 (by rw [map_append];exact mem_append_left _ hm)⟩
  ·exact⟨hT x hx,fun hm=>nd.2.2 _ hm _ (List.mem_map.mpr ⟨x,hx,rfl⟩) rfl⟩)
 refine zQ ?_
 have hT':cG T s'.heap:=by
  have:∀(T':ae),(∀x∈T',x∈T)->cG T' s'.heap:=by
   intro T'
   induction T' with
   |nil=>intro _;trivial
   |cons y T' ih=>intro hs;exact⟨K.keep _ _ (hT y (hs y (mem_cons_self ..))) (fun hm=>nd.2.2 _ hm _ (List.mem_map.mpr ⟨y,hs y (mem_cons_self ..),rfl⟩) rfl),ih fun x hx=>hs x (mem_cons_of_mem _ hx)⟩
  exact this T fun x hx=>hx
 refine⟨x,s',r,rdy,⟨fun b o e hb=>K.keep b o e fun hm=>hb (by rw [map_append];exact mem_append_left _ hm),K.drawn,K.os,K.size⟩,?_,hasN,newN,ndN,cx⟩
 rw [map_append]
 exact jS (by rw [length_map,hl x]) has hT'
theorem bW.mono{X:Type}{w':World}{G:Ctx}{E:ae}{fz fz':List (Nat×Obj)}{out:X->Result×List Obj×ae}{cond:X->Prop}(h:bW w' G E fz out cond)(hm:∀x∈fz,x∈fz'):bW w' G E fz' out cond:=
 fun p s hP hf=>h p s hP fun x hx=>hf x (hm x hx)
theorem IL{α:Type}{l:Array α}{v:α}(h:l[0]? =some v):(seqIndex? 0 l.size).bind (fun j=>l[j]?)=some v:=by
 have hl:0<l.size:=by
  rcases Nat.eq_zero_or_pos l.size with e|e
  ·rw [Array.getElem?_eq_none (by lia)] at h;cases h
  ·exact e
 have:seqIndex? 0 l.size=some 0:=by
  unfold seqIndex?
  simp [hl]
 rw [this];exact h
theorem HS{α:Type}{l:Array α}{v:α}(h:l[l.size-1]? =some v):(seqIndex? (-1) l.size).bind (fun j=>l[j]?)=some v:=by
 have hl:0<l.size:=by
  rcases Nat.eq_zero_or_pos l.size with e|e
  ·rw [Array.getElem?_eq_none (by lia)] at h;cases h
  ·exact e
 rw [seqIndex_neg (by lia) (by lia),show((-1:Int)+l.size).toNat=l.size-1 by lia]
 exact h
noncomputable abbrev Jm:=Int.negSucc 0
noncomputable abbrev HC:=(.ret (.ok (.ret (.bool true))):End)
abbrev OC a b c d e:=[(A a),(A b),(A c),(A d),(Y2 e 0),(Y2 e 1),(Y2 e 2),(Y2 e 3),(Y2 e 4)]
noncomputable abbrev HL:=(⟨146,22,146,26⟩:Pos)
theorem IX(W:WW)(p0:Pos)(vC:FC)(aP aE aT aU:Nat)(tx ty tz tw:Tok)(pl he xl yl:Int)(pts eds:Array Value)(ep0 ep1 et eu:Nat)(fz fzP fzE:List df)(ps es:List cw)(s:Shared)(h0:pts[0]? =some (Yp aT))(hl:pts[pts.size-1]? =some (Yp aU))(hps:aw pts fzP ps)(hes:aw eds fzE es)(hdis:∀x∈fzP,∀y∈fzE,x.1≠y.1)(hb:oN es)(hnb:hJ ps pl he es)(hpn:ps≠[])(hen:es≠[])(hmem:∀x∈fzP++fzE,x∈fz++[(fl aT pl tx he ty et),(fl aU xl tz yl tw eu)])(hend:((gH pl es==xl)&&(gJ he es==yl))=true)(hP:az (pW W) ([(Yk aP pts ep1),(Yk aE eds ep0),(fl aT pl tx he ty et),(fl aU xl tz yl tw eu)]) s)(hfz:cF fz ([(Yk aP pts ep1),(Yk aE eds ep0),(fl aT pl tx he ty et),(fl aU xl tz yl tw eu)]) s){Q:Prop}(kQ:∀(n tb:Nat) (s':Shared),Hn s n->Ht s tb->Runs (Yt W) (⟨.call (.ref 238) ⟨[fy aP,fy aE],[]⟩,none,none,fU vC,none⟩) p0 ((Yt W).den (.call (.ref 238) ⟨[fy aP,fy aE],[]⟩)) [] s HC s'->cL (pW W) s'->cG ([(Yk aP pts ep1),(Yk aE eds ep0),(fl aT pl tx he ty et),(fl aU xl tz yl tw eu)]) s'.heap->af ([(Yk aP pts ep1),(Yk aE eds ep0),(fl aT pl tx he ty et),(fl aU xl tz yl tw eu)]) s s'->Q):Q:=by
 obtain⟨n,tb,gb,hn,ht,hg⟩:=hP.nt
 have hE:= @rfl qx fun W=>[(Yk aP pts ep1),(Yk aE eds ep0),(fl aT pl tx he ty et),(fl aU xl tz yl tw eu)]
 refine Gn hE hP hn ht hg (fun eX W Z hX=>ch (fk (Vw W) 4 [(cn 0 (Yp aT)),(cn 0 (Yp aU)),(nj 9 3 true)] [] [kk (Vw W) (⟨gD (pW W) (A (cQ n)) (qP n 4),none,none,(gA (iv (pW W)) (A (cQ n)) 238,HL)::fU vC,none⟩) ([(db n 0,bO (pW W) aP aE (TK tb) (Y8 tb 1) (Y8 tb 3) (Y8 tb 4) (bY pl tx) (bY he ty) [] 4),(Yk aP pts ep1),(Yk aE eds ep0),(db n 4,Yf aE)]++[(fl aT pl tx he ty et),(fl aU xl tz yl tw eu)]) [4,0,1,8,2,3] 4 4 (fun x:Jz=>((nP W HL vC (cQ n) aP aE (bJ n 4) (TK tb) (Y8 tb 1) (Y8 tb 3) (Y8 tb 4) pts eds ep0 ep1 fzP fzE ps es pl he x).1,(nP W HL vC (cQ n) aP aE (bJ n 4) (TK tb) (Y8 tb 1) (Y8 tb 3) (Y8 tb 4) pts eds ep0 ep1 fzP fzE ps es pl he x).2.1++List.map (fun y=>y.2) ([(fl aT pl tx he ty et),(fl aU xl tz yl tw eu)]:ae),(nP W HL vC (cQ n) aP aE (bJ n 4) (TK tb) (Y8 tb 1) (Y8 tb 3) (Y8 tb 4) pts eds ep0 ep1 fzP fzE ps es pl he x).2.2)) (fun _=>True)] [] fz) 176 (⟨.call (.ref 238) ⟨[fy aP,fy aE],[]⟩,none,none,fU vC,none⟩) (p0) (a8 (.call (.ref 238) ⟨[fy aP,fy aE],[]⟩)) [] hX (cN eX n tb gb) (mB Z)) (fun eX W Z hX=>ad (lE eX) (A n) gb (sl hX 0 12) (((Rf (.builtin "list.__getitem__" ⟨[(Yp aP),(.int Yx (Y8 tb 2))],[]⟩:Code))/\(Yc/\((((seqIndex? 0 pts.size).bind fun j=>pts[j]?):i6)=(some (Yp aT)))))/\ad (lE eX) (A n) gb (sl hX 13 36) ((Rf (⟨gD (pW W) (A (cQ n)) (qP n 4),none,none,(gA (iv (pW W)) (A (cQ n)) 238,HL)::fU vC,none⟩:Ctx))/\(Rf (ax ([(db n 0,bO (pW W) aP aE (TK tb) (Y8 tb 1) (Y8 tb 3) (Y8 tb 4) (bY pl tx) (bY he ty) [] 4),(Yk aP pts ep1),(Yk aE eds ep0),(db n 4,Yf aE)]++[(fl aT pl tx he ty et),(fl aU xl tz yl tw eu)])))/\Yc/\Yc/\∀(x0:Jz) (n0 tb0 gb0:Nat),True->Yc/\ad (OC aP aE aT aU n) (A n0) gb0 (sl hX 50 7) (((Rf (.builtin "list.__getitem__" ⟨[(Yp aP),(.int Jm (Y8 tb0 1))],[]⟩:Code))/\(Yc/\((((seqIndex? (-(Value.int 1 (TK tb0),1).snd) pts.size).bind fun j=>pts[j]?):i6)=(some (Yp aU)))))/\ad (OC aP aE aT aU n) (A n0) gb0 (sl hX 58 4) (((Rf (.builtin "tuple.__eq__" ⟨[(dV n0 0),(Yp aU)],[]⟩:Code))/\(HQ/\(HQ/\(((gH pl es==xl&&gJ he es==yl):(Bool))=(true)))))/\ad (OC aP aE aT aU n) (A n0) gb0 (sl hX 62 0) (Z (.fin HC) (Y2 n0 1) (Y8 tb0 2) true (ax ([(Yk aP pts ep1),(Yk aE eds ep0),(fl aT pl tx he ty et),(fl aU xl tz yl tw eu)])))))))) (fun _=>(gC [0,0,40005,0,5,40001,4000,40003,50006,3,60006,3,60006,3,6,6,8,50005,2,2,2,9,1000,5,5,5,40001,4001,10,4,10,10,4002])) (iX (by kernel_rfl)) rfl ⟨fun _=>bA,fun _=>bA,fun _=>nq,trivial⟩ ⟨ju rfl (jV ((wa W HL vC (cQ n) aP aE (bJ n 4) (TK tb) (Y8 tb 1) (Y8 tb 3) (Y8 tb 4) pts eds ep0 ep1 fzP fzE ps es hps hes hdis hb pl he tx ty hnb hpn hen).mono hmem) (fun _=>rfl)),trivial⟩ rfl hfz fun hX=>?_
 refine rI (by first|exact⟨rfl,rfl,IL h0⟩|exact⟨rfl,rfl,HS hl⟩|exact⟨rfl,rfl,rfl,hend⟩|exact⟨rfl,rfl⟩|exact⟨rfl,rfl,rfl⟩|exact⟨rfl,⟨rfl,rfl,rfl⟩,⟨rfl,rfl,rfl⟩,rfl⟩) ?_
 refine ag ⟨rfl,rfl,rfl,rfl,fun x0 n0 tb0 gb0 hx0=>⟨rfl,?_⟩⟩ _
 iterate 2 refine rI (by first|exact⟨rfl,rfl,IL h0⟩|exact⟨rfl,rfl,HS hl⟩|exact⟨rfl,rfl,rfl,hend⟩|exact⟨rfl,rfl⟩|exact⟨rfl,rfl,rfl⟩|exact⟨rfl,⟨rfl,rfl,rfl⟩,⟨rfl,rfl,rfl⟩,rfl⟩) ?_
 exact rF fun s' r _ h3 h4 h5=>kQ n tb s' hn ht (by rw [bG];exact r) h4 (ai h3) h5
theorem A1(P:Params):jI P=.ListComp (CU (jI P)) (za (jI P)) (iY (jI P)) (Fl (jI P)):=by kernel_rfl
theorem tK(P:Params)(outer:Env)(L it acc:Addr):dq P outer L it acc=.compLoop (.ListComp (CU (jI P)) (za (jI P)) (iY (jI P)) (Fl (jI P))) 0 (.ref it) (.ref acc) (lk (jI P) outer L):=congrArg (fun e=>Code.compLoop e 0 (.ref it) (.ref acc) (lk (jI P) outer L)) (A1 P)
def cp(M:Model)(Γ:Ctx)(C:Code)(p:Pos)(s:Shared)(s':Shared):Prop:=∃p',∀e s'',Runs M (Γ.goto C) p' (M.den C) [] s' e s''->Runs M Γ p (M.den Γ.code) [] s e s''
theorem cf{w:World}{Γ:Ctx}{p s s'}{c:Code}(h:dB (model pw w) Γ p (a8 Γ.code) [] s (.again c) s'):cp (model pw w) Γ c p s s':=by
 rw [<-bG (w:=w)] at h
 obtain⟨_,_,p',f⟩:=h
 exact⟨p',f⟩
theorem rm{X:Type}{w':World}{Γ:Ctx}{C:Code}{E:ae}{fz:List df}{out:X->Result×List Obj×ae}{cond:X->Prop}(h:bW w' (Γ.goto C) E fz out cond)
  (g:∀p s,az w'.params E s->∃s',cp (jw w') Γ C p s s'/\az w'.params E s'/\af E s s'):bW w' Γ E fz out cond:=by
 intro p s hP hf
 refine gQ fun Q zQ=>?_
 obtain⟨s1,⟨p',H⟩,hP',K⟩:=g p s hP
 obtain⟨x,s2,r,rdy,K2,has,hasN,newN,ndN,cx⟩:=h p' s1 hP' (hf.keep K rfl)
 refine zQ ?_
 exact⟨x,s2,H _ _ r,rdy,K.trans K2,has,hasN,(fun y hy=>Nat.le_trans K.size (newN y hy)),ndN,cx⟩
section
variable(W:WW)(p0:Pos)(vB:FB)(aF c1 c2 c3 c4 aL aI aW aC:Nat)
include W p0 vB aF c1 c2 c3 c4 aL aI aW aC
section
variable(aT:Nat)(uW tx ty:Tok)(vW:Value)(dx dy:Int)(ws hs:Array Value)(epw eph k et n tb gb:Nat)(Z:ZB)(hX:List Nat)(hhX:hX=[2,2,4000,2,2,1,1,0,1,0,1000,4,4001,4,3000])(eX:ae)
include aT uW tx ty vW dx dy ws hs epw eph k et n tb gb Z hX hhX eX
theorem lP(heX:eX=[(A aL,ah "dict" [] 0),(A aI,aK "list_iterator" [.ref (A aW),.int (Int.ofNat k) 0]),(A aW,ab ws epw),(A aC,ab hs eph),(A aT,a9 [.int dx tx,.int dy ty] et)]):
 ch (ec (Vw W) 5 [(bF 1 2 (.ref (A aT))),(b9 3)] [] [kk (Vw W) (⟨.call (.ref 226) ⟨[.ref (A aT)],[]⟩,none,none,(dq (pW W) (bg (ak (pW W)) (A aF) 231 [A c1,A c2,A c3,A c4]) (A aL) (A aI) (A aC),⟨138,16,138,29⟩)::[(.whileLoop vB.wt vB.wb vB.we vB.wenv,vB.p3),(.func vB.f1 vB.n1,vB.p4),(.forLoop vB.te vB.i1 vB.bo1 vB.e1 vB.n3,vB.p7),(.func vB.f2 vB.n4,vB.p5),(.builtin "claim.caller" {},vB.p6)],none⟩) ([(A aT,a9 [.int dx tx,.int dy ty] et)]) [4] 5 5 (fun x:cA=>((.ok (.ret (.float (bf dx dy) x.t)),[a9 [.int dx tx,.int dy ty] et],[]):Result×List Obj×ae)) (fun _=>True)] []) 69 (⟨dq (pW W) (bg (ak (pW W)) (A aF) 231 [A c1,A c2,A c3,A c4]) (A aL) (A aI) (A aC),none,none,[(.whileLoop vB.wt vB.wb vB.we vB.wenv,vB.p3),(.func vB.f1 vB.n1,vB.p4),(.forLoop vB.te vB.i1 vB.bo1 vB.e1 vB.n3,vB.p7),(.func vB.f2 vB.n4,vB.p5),(.builtin "claim.caller" {},vB.p6)],none⟩) (p0) (a8 (dq (pW W) (bg (ak (pW W)) (A aF) 231 [A c1,A c2,A c3,A c4]) (A aL) (A aI) (A aC))) [] hX (qR eX (A n) (TK tb) gb) (kZ [0,1,2,3,4] Z)=
ad (lE eX) (A n) gb (sl hX 0 2) (
((Rf (.builtin "list_iterator.__next__" ⟨[(.ref (A aI))],[]⟩:Code))/\((Rf (A aW:Addr))/\(((ws[(Int.ofNat k).toNat]?):(Option Value))=(some (.ref (A aT))))))/\ad (lE eX) (A n) gb (sl hX 3 7) (
(Rf (⟨.call (.ref 226) ⟨[.ref (A aT)],[]⟩,none,none,(dq (pW W) (bg (ak (pW W)) (A aF) 231 [A c1,A c2,A c3,A c4]) (A aL) (A aI) (A aC),⟨138,16,138,29⟩)::[(.whileLoop vB.wt vB.wb vB.we vB.wenv,vB.p3),(.func vB.f1 vB.n1,vB.p4),(.forLoop vB.te vB.i1 vB.bo1 vB.e1 vB.n3,vB.p7),(.func vB.f2 vB.n4,vB.p5),(.builtin "claim.caller" {},vB.p6)],none⟩:Ctx))/\(Rf (ax ([(A aT,a9 [.int dx tx,.int dy ty] et)])))/\(Rf (true:Bool))/\(Rf (true:Bool))/\∀(x0:cA) (n0 tb0 gb0:Nat),True->(Rf (true:Bool))/\ad [(A aL),(A aI),(A aW),(A aC),(A aT)] (A n0) gb0 (sl hX 11 1) (
((Rf (.builtin "list.append" ⟨[(.ref (A aC)),(.float (bf dx dy) x0.t)],[]⟩:Code))/\(((Rf (.type "list":Value))/\((Rf (none:Option Addr))/\(Rf ({toList:=[]}:Array (Option Value)))))/\(hs.size.le 1000)))/\ad [(A aL),(A aI),(A aW),(A aC),(A aT)] (A n0) gb0 (sl hX 13 1) (
Z (.again (dq (pW W) (bg (ak (pW W)) (A aF) 231 [A c1,A c2,A c3,A c4]) (A aL) (A aI) (A aC))) (Nat.add (A n0) 0) (Nat.add (TK tb0) 0) true (ax ([(A aL,ah "dict" [aa (pW W) [119,97,121] (TK tb) (.ref (A aT))] 1),(A aI,aK "list_iterator" [.ref (A aW),.int (Int.ofNat k+1) 0]),(A aW,ab ws epw),(A aC,Obj.mapSeq (·.push (.float (bf dx dy) x0.t)) (ab hs eph)),(A aT,a9 [.int dx tx,.int dy ty] et)])))))):=by
 subst hhX;subst heX
 kernel_rfl
theorem l9(heX:eX=[(A aL,ah "dict" [aa (pW W) [119,97,121] uW vW] 1),(A aI,aK "list_iterator" [.ref (A aW),.int (Int.ofNat k) 0]),(A aW,ab ws epw),(A aC,ab hs eph),(A aT,a9 [.int dx tx,.int dy ty] et)]):
 ch (ec (Vw W) 5 [(bF 1 2 (.ref (A aT))),(b9 3)] [] [kk (Vw W) (⟨.call (.ref 226) ⟨[.ref (A aT)],[]⟩,none,none,(dq (pW W) (bg (ak (pW W)) (A aF) 231 [A c1,A c2,A c3,A c4]) (A aL) (A aI) (A aC),⟨138,16,138,29⟩)::[(.whileLoop vB.wt vB.wb vB.we vB.wenv,vB.p3),(.func vB.f1 vB.n1,vB.p4),(.forLoop vB.te vB.i1 vB.bo1 vB.e1 vB.n3,vB.p7),(.func vB.f2 vB.n4,vB.p5),(.builtin "claim.caller" {},vB.p6)],none⟩) ([(A aT,a9 [.int dx tx,.int dy ty] et)]) [4] 5 5 (fun x:cA=>((.ok (.ret (.float (bf dx dy) x.t)),[a9 [.int dx tx,.int dy ty] et],[]):Result×List Obj×ae)) (fun _=>True)] []) 69 (⟨dq (pW W) (bg (ak (pW W)) (A aF) 231 [A c1,A c2,A c3,A c4]) (A aL) (A aI) (A aC),none,none,[(.whileLoop vB.wt vB.wb vB.we vB.wenv,vB.p3),(.func vB.f1 vB.n1,vB.p4),(.forLoop vB.te vB.i1 vB.bo1 vB.e1 vB.n3,vB.p7),(.func vB.f2 vB.n4,vB.p5),(.builtin "claim.caller" {},vB.p6)],none⟩) (p0) (a8 (dq (pW W) (bg (ak (pW W)) (A aF) 231 [A c1,A c2,A c3,A c4]) (A aL) (A aI) (A aC))) [] hX (qR eX (A n) (TK tb) gb) (kZ [0,1,2,3,4] Z)=
ad (lE eX) (A n) gb (sl hX 0 2) (
((Rf (.builtin "list_iterator.__next__" ⟨[(.ref (A aI))],[]⟩:Code))/\((Rf (A aW:Addr))/\(((ws[(Int.ofNat k).toNat]?):(Option Value))=(some (.ref (A aT))))))/\ad (lE eX) (A n) gb (sl hX 3 7) (
(Rf (⟨.call (.ref 226) ⟨[.ref (A aT)],[]⟩,none,none,(dq (pW W) (bg (ak (pW W)) (A aF) 231 [A c1,A c2,A c3,A c4]) (A aL) (A aI) (A aC),⟨138,16,138,29⟩)::[(.whileLoop vB.wt vB.wb vB.we vB.wenv,vB.p3),(.func vB.f1 vB.n1,vB.p4),(.forLoop vB.te vB.i1 vB.bo1 vB.e1 vB.n3,vB.p7),(.func vB.f2 vB.n4,vB.p5),(.builtin "claim.caller" {},vB.p6)],none⟩:Ctx))/\(Rf (ax ([(A aT,a9 [.int dx tx,.int dy ty] et)])))/\(Rf (true:Bool))/\(Rf (true:Bool))/\∀(x0:cA) (n0 tb0 gb0:Nat),True->(Rf (true:Bool))/\ad [(A aL),(A aI),(A aW),(A aC),(A aT)] (A n0) gb0 (sl hX 11 1) (
((Rf (.builtin "list.append" ⟨[(.ref (A aC)),(.float (bf dx dy) x0.t)],[]⟩:Code))/\(((Rf (.type "list":Value))/\((Rf (none:Option Addr))/\(Rf ({toList:=[]}:Array (Option Value)))))/\(hs.size.le 1000)))/\ad [(A aL),(A aI),(A aW),(A aC),(A aT)] (A n0) gb0 (sl hX 13 1) (
Z (.again (dq (pW W) (bg (ak (pW W)) (A aF) 231 [A c1,A c2,A c3,A c4]) (A aL) (A aI) (A aC))) (Nat.add (A n0) 0) (Nat.add (TK tb0) 0) true (ax ([(A aL,ah "dict" [aa (pW W) [119,97,121] uW (.ref (A aT))] 1),(A aI,aK "list_iterator" [.ref (A aW),.int (Int.ofNat k+1) 0]),(A aW,ab ws epw),(A aC,Obj.mapSeq (·.push (.float (bf dx dy) x0.t)) (ab hs eph)),(A aT,a9 [.int dx tx,.int dy ty] et)])))))):=by
 subst hhX;subst heX
 kernel_rfl
end
noncomputable abbrev pU a:=[(P5 a),(.func a.f1 a.n1,a.p4),(Yz a),(.func a.f2 a.n4,a.p5),(Y7,a.p6)]
abbrev mw a b c:=(A a,ah "dict" b c)
abbrev io a b c d:=[A a,A b,A c,A d]
abbrev Hr a b c d e f g h i j k:=[(mw a b c),(kd d e),(Yk f g h),(Yk i j k)]
abbrev D2 a b c d e f g h i j k:=(Hr a b c d e f g h i j k)
theorem oz(loc:List DictEntry)(ws hs:Array Value)(el epw eph k:Nat)(n tb gb:Nat)(Z:ZB)(hX:List Nat)(hhX:hX=[2,2,4000,2,2,6])(eX:ae)(heX:eX=[(mw aL loc el),(Y5 aI aW k),(Yk aW ws epw),(Yk aC hs eph)]):
 ch (ul W 4 1 2) 53 (⟨dq (pW W) (bg (ak (pW W)) (A aF) 231 (io c1 c2 c3 c4)) (A aL) (A aI) (A aC),none,none,(pU vB),none⟩) (p0) (a8 (dq (pW W) (bg (ak (pW W)) (A aF) 231 (io c1 c2 c3 c4)) (A aL) (A aI) (A aC))) [] hX (cN eX n tb gb) (mB Z)=
ad (lE eX) (A n) gb (sl hX 0 2) (
(uq aI aW ws k)/\ad (lE eX) (A n) gb (sl hX 3 3) (
Z oW (Y2 n 2) (Y8 tb 0) true (ax (D2 aL loc el aI k aW ws epw aC hs eph)))):=by
 subst hhX;subst heX
 kernel_rfl
section
variable(aT:Nat)(uW tx ty:Tok)(vW:Value)(dx dy:Int)(ws hs:Array Value)(epw eph k et:Nat)(s:Shared)(hit:ws[(Int.ofNat k).toNat]? =some (.ref (A aT)))(hr:eS dx dy)(hsz:hs.size<=1000)
include aT uW tx ty vW dx dy ws hs epw eph k et s hit hr hsz
theorem pI(hP:az (pW W) ([(A aL,ah "dict" [] 0),(A aI,aK "list_iterator" [.ref (A aW),.int (Int.ofNat k) 0]),(A aW,ab ws epw),(A aC,ab hs eph),(A aT,a9 [.int dx tx,.int dy ty] et)]) s){Q:Prop}(kQ:∀(n tb:Nat) (s':Shared) (x0:cA),Hn s n->Ht s tb->br (model pw (Vw W)) (⟨dq (pW W) (bg (ak (pW W)) (A aF) 231 [A c1,A c2,A c3,A c4]) (A aL) (A aI) (A aC),none,none,[(.whileLoop vB.wt vB.wb vB.we vB.wenv,vB.p3),(.func vB.f1 vB.n1,vB.p4),(.forLoop vB.te vB.i1 vB.bo1 vB.e1 vB.n3,vB.p7),(.func vB.f2 vB.n4,vB.p5),(.builtin "claim.caller" {},vB.p6)],none⟩) p0 s s'->az (pW W) ([(A aL,ah "dict" [aa (pW W) [119,97,121] (TK tb) (.ref (A aT))] 1),(A aI,aK "list_iterator" [.ref (A aW),.int (Int.ofNat k+1) 0]),(A aW,ab ws epw),(A aC,Obj.mapSeq (·.push (.float (bf dx dy) x0.t)) (ab hs eph)),(A aT,a9 [.int dx tx,.int dy ty] et)]) s'->af ([(A aL,ah "dict" [] 0),(A aI,aK "list_iterator" [.ref (A aW),.int (Int.ofNat k) 0]),(A aW,ab ws epw),(A aC,ab hs eph),(A aT,a9 [.int dx tx,.int dy ty] et)]) s s'->Q):Q:=by
 obtain⟨n,hn⟩:=hP.size
 obtain⟨tb,ht⟩:=hP.toks
 generalize hg:s.gens.size=gb
 ·have H:=Eq.mpr (lP W p0 vB aF c1 c2 c3 c4 aL aI aW aC aT uW tx ty vW dx dy ws hs epw eph k et n tb gb (fun ev nk tk fin l=>fin=true/\((∃(x0:cA),(ev=(.again (dq (pW W) (bg (ak (pW W)) (A aF) 231 [A c1,A c2,A c3,A c4]) (A aL) (A aI) (A aC)))/\l=ax ([(A aL,ah "dict" [aa (pW W) [119,97,121] (TK tb) (.ref (A aT))] 1),(A aI,aK "list_iterator" [.ref (A aW),.int (Int.ofNat k+1) 0]),(A aW,ab ws epw),(A aC,Obj.mapSeq (·.push (.float (bf dx dy) x0.t)) (ab hs eph)),(A aT,a9 [.int dx tx,.int dy ty] et)])))/\677<=tk)) _ rfl _ rfl) (by
   refine rI (by first|exact⟨rfl,rfl,hit⟩|exact⟨rfl,⟨rfl,rfl,rfl⟩,hsz⟩|exact⟨rfl,rfl⟩|exact⟨rfl,rfl,rfl⟩|exact⟨rfl,⟨rfl,rfl,rfl⟩,⟨rfl,rfl,rfl⟩,rfl⟩) ?_
   refine ag ⟨rfl,rfl,rfl,rfl,fun x0 n0 tb0 gb0 hx0=>⟨rfl,?_⟩⟩ _
   refine rI (by first|exact⟨rfl,rfl,hit⟩|exact⟨rfl,⟨rfl,rfl,rfl⟩,hsz⟩|exact⟨rfl,rfl⟩|exact⟨rfl,rfl,rfl⟩|exact⟨rfl,⟨rfl,rfl,rfl⟩,⟨rfl,rfl,rfl⟩,rfl⟩) ?_
   exact ag ⟨rfl,⟨x0,rfl,rfl⟩,eQ⟩ _)
  obtain⟨ev,s',l,r,⟨⟨x0,rfl,rfl⟩,htk⟩,h3,h4,h5⟩:=dp (is:=[0,1,2,3,4]) (by exact⟨fun _=>bi,fun _=>bx,trivial⟩) (by exact⟨ja rfl (by rw [tK];exact gy W _ _ _ _ _ _ _ _ ⟨⟨138,16,138,29⟩,vB.p3,vB.p4,vB.p5,vB.p6,vB.p7,vB.wt,vB.wb,vB.we,vB.wenv,vB.f1,vB.n1,vB.te,vB.i1,vB.bo1,vB.e1,vB.n3,vB.n4,vB.f2⟩ aT dx dy tx ty et hr),trivial⟩) hP hn ht hg rfl (by rintro ev nk tk l ⟨⟨x0,rfl,rfl⟩,h⟩;exact⟨rfl,h⟩) H
  exact kQ n tb s' x0 hn ht (am rfl r) ⟨h4,ai h3,hP.nd,hP.lo⟩ h5
theorem qF(hP:az (pW W) ([(A aL,ah "dict" [aa (pW W) [119,97,121] uW vW] 1),(A aI,aK "list_iterator" [.ref (A aW),.int (Int.ofNat k) 0]),(A aW,ab ws epw),(A aC,ab hs eph),(A aT,a9 [.int dx tx,.int dy ty] et)]) s){Q:Prop}(kQ:∀(n tb:Nat) (s':Shared) (x0:cA),Hn s n->Ht s tb->br (model pw (Vw W)) (⟨dq (pW W) (bg (ak (pW W)) (A aF) 231 [A c1,A c2,A c3,A c4]) (A aL) (A aI) (A aC),none,none,[(.whileLoop vB.wt vB.wb vB.we vB.wenv,vB.p3),(.func vB.f1 vB.n1,vB.p4),(.forLoop vB.te vB.i1 vB.bo1 vB.e1 vB.n3,vB.p7),(.func vB.f2 vB.n4,vB.p5),(.builtin "claim.caller" {},vB.p6)],none⟩) p0 s s'->az (pW W) ([(A aL,ah "dict" [aa (pW W) [119,97,121] uW (.ref (A aT))] 1),(A aI,aK "list_iterator" [.ref (A aW),.int (Int.ofNat k+1) 0]),(A aW,ab ws epw),(A aC,Obj.mapSeq (·.push (.float (bf dx dy) x0.t)) (ab hs eph)),(A aT,a9 [.int dx tx,.int dy ty] et)]) s'->af ([(A aL,ah "dict" [aa (pW W) [119,97,121] uW vW] 1),(A aI,aK "list_iterator" [.ref (A aW),.int (Int.ofNat k) 0]),(A aW,ab ws epw),(A aC,ab hs eph),(A aT,a9 [.int dx tx,.int dy ty] et)]) s s'->Q):Q:=by
 obtain⟨n,hn⟩:=hP.size
 obtain⟨tb,ht⟩:=hP.toks
 generalize hg:s.gens.size=gb
 ·have H:=Eq.mpr (l9 W p0 vB aF c1 c2 c3 c4 aL aI aW aC aT uW tx ty vW dx dy ws hs epw eph k et n tb gb (fun ev nk tk fin l=>fin=true/\((∃(x0:cA),(ev=(.again (dq (pW W) (bg (ak (pW W)) (A aF) 231 [A c1,A c2,A c3,A c4]) (A aL) (A aI) (A aC)))/\l=ax ([(A aL,ah "dict" [aa (pW W) [119,97,121] uW (.ref (A aT))] 1),(A aI,aK "list_iterator" [.ref (A aW),.int (Int.ofNat k+1) 0]),(A aW,ab ws epw),(A aC,Obj.mapSeq (·.push (.float (bf dx dy) x0.t)) (ab hs eph)),(A aT,a9 [.int dx tx,.int dy ty] et)])))/\677<=tk)) _ rfl _ rfl) (by
   refine rI (by first|exact⟨rfl,rfl,hit⟩|exact⟨rfl,⟨rfl,rfl,rfl⟩,hsz⟩|exact⟨rfl,rfl⟩|exact⟨rfl,rfl,rfl⟩|exact⟨rfl,⟨rfl,rfl,rfl⟩,⟨rfl,rfl,rfl⟩,rfl⟩) ?_
   refine ag ⟨rfl,rfl,rfl,rfl,fun x0 n0 tb0 gb0 hx0=>⟨rfl,?_⟩⟩ _
   refine rI (by first|exact⟨rfl,rfl,hit⟩|exact⟨rfl,⟨rfl,rfl,rfl⟩,hsz⟩|exact⟨rfl,rfl⟩|exact⟨rfl,rfl,rfl⟩|exact⟨rfl,⟨rfl,rfl,rfl⟩,⟨rfl,rfl,rfl⟩,rfl⟩) ?_
   exact ag ⟨rfl,⟨x0,rfl,rfl⟩,eQ⟩ _)
  obtain⟨ev,s',l,r,⟨⟨x0,rfl,rfl⟩,htk⟩,h3,h4,h5⟩:=dp (is:=[0,1,2,3,4]) (by exact⟨fun _=>bi,fun _=>bx,trivial⟩) (by exact⟨ja rfl (by rw [tK];exact gy W _ _ _ _ _ _ _ _ ⟨⟨138,16,138,29⟩,vB.p3,vB.p4,vB.p5,vB.p6,vB.p7,vB.wt,vB.wb,vB.we,vB.wenv,vB.f1,vB.n1,vB.te,vB.i1,vB.bo1,vB.e1,vB.n3,vB.n4,vB.f2⟩ aT dx dy tx ty et hr),trivial⟩) hP hn ht hg rfl (by rintro ev nk tk l ⟨⟨x0,rfl,rfl⟩,h⟩;exact⟨rfl,h⟩) H
  exact kQ n tb s' x0 hn ht (am rfl r) ⟨h4,ai h3,hP.nd,hP.lo⟩ h5
end
theorem vv(loc:List DictEntry)(ws hs:Array Value)(el epw eph k:Nat)(s:Shared)(hit:ws[(Yh k).toNat]? =none)(hP:az (pW W) ([(mw aL loc el),(Y5 aI aW k),(Yk aW ws epw),(Yk aC hs eph)]) s){Q:Prop}(kQ:∀(n tb:Nat) (s':Shared),Hn s n->Ht s tb->Runs (Yt W) (⟨dq (pW W) (bg (ak (pW W)) (A aF) 231 (io c1 c2 c3 c4)) (A aL) (A aI) (A aC),none,none,(pU vB),none⟩) p0 ((Yt W).den (dq (pW W) (bg (ak (pW W)) (A aF) 231 (io c1 c2 c3 c4)) (A aL) (A aI) (A aC))) [] s ft s'->cL (pW W) s'->cG (D2 aL loc el aI k aW ws epw aC hs eph) s'.heap->af ([(mw aL loc el),(Y5 aI aW k),(Yk aW ws epw),(Yk aC hs eph)]) s s'->Q):Q:=by
 obtain⟨n,hn⟩:=hP.size
 obtain⟨tb,ht⟩:=hP.toks
 generalize hg:s.gens.size=gb
 ·have H:=Eq.mpr (oz W p0 vB aF c1 c2 c3 c4 aL aI aW aC loc ws hs el epw eph k n tb gb (fun ev nk tk fin l=>fin=true/\((ev=oW/\l=ax (D2 aL loc el aI k aW ws epw aC hs eph))/\677<=tk)) _ rfl _ rfl) (by
   refine rI (by first|exact⟨rfl,rfl,hit⟩|exact⟨rfl,rfl⟩|exact⟨rfl,rfl,rfl⟩|exact⟨rfl,⟨rfl,rfl,rfl⟩,⟨rfl,rfl,rfl⟩,rfl⟩) ?_
   exact ag ⟨rfl,⟨rfl,rfl⟩,eQ⟩ _)
  obtain⟨ev,s',l,r,⟨⟨rfl,rfl⟩,htk⟩,h3,h4,h5⟩:=dp (is:=[0,1,2,3]) (by exact⟨fun _=>ce,trivial⟩) (by exact trivial) hP hn ht hg rfl (by rintro ev nk tk l ⟨⟨rfl,rfl⟩,h⟩;exact⟨rfl,h⟩) H
  exact kQ n tb s' hn ht (by rw [bG];exact r) h4 (ai h3) h5
end
structure yQ where
 u:Tok
 v:Value
 hs:Array Value
 eph:Nat
 k:Nat
def bC(hs:Array Value)(ds:List cw):Prop:=hs.size=ds.length/\∀(i:Nat) (d:Int×Int),ds[i]? =some d->∃t,hs[i]? =some (.float (bf d.1 d.2) t)
theorem bC.push{hs:Array Value}{ds:List (Int×Int)}{d:Int×Int}{t:Tok}(h:bC hs ds):bC (hs.push (.float (bf d.1 d.2) t)) (ds++[d]):=by
 refine⟨by simp [h.1],fun i l e=>?_⟩
 by_cases q:i<ds.length
 ·rw [getElem?_append_left q] at e
  rw [getElem?_push,if_neg (by rw [h.1];lia)]
  exact h.2 i l e
 ·rw [getElem?_append_right (by lia)] at e
  have hl:=(List.getElem?_eq_some_iff.mp e).1
  have:i=ds.length:=by simp at hl;lia
  subst this
  simp at e
  rw [getElem?_push,if_pos (by rw [h.1])]
  exact⟨t,by rw [<-e]⟩
def ranged(ds:List cw):Prop:=∀d∈ds,eS d.1 d.2
theorem gj{α:Type}{ds:List α}{k:Nat}{q:α}(h:ds[k]? =some q):ds.take (k+1)=ds.take k++[q]:=by
 rw [List.take_add_one,h];rfl
section
variable(W:WW)(vB:FB)(aF c1 c2 c3 c4 aL aI aW aC:Nat)(ws:Array Value)(epw:Nat)(fz:List df)(ds:List cw)(hws:aw ws fz ds)(hr:ranged ds)(hlen:ds.length<=100)
include W vB aF c1 c2 c3 c4 aL aI aW aC ws epw fz ds hws hr hlen
theorem A0:∀(rest:List cw) (k:Nat) (uW:Tok) (vW:Value) (hs:Array Value) (eph:Nat) (p0:Pos) (s:Shared),ds.drop k=rest->bC hs (ds.take k)->az (pW W) ([(A aL,ah "dict" [aa (pW W) [119,97,121] uW vW] 1),(Y5 aI aW k),(Yk aW ws epw),(Yk aC hs eph)]) s->cF fz ([(A aL,ah "dict" [aa (pW W) [119,97,121] uW vW] 1),(Y5 aI aW k),(Yk aW ws epw),(Yk aC hs eph)]) s->
  ∀Q:Prop,(∀(s':Shared) (x:yQ),Runs (Yt W) ⟨dq (pW W) (bg (ak (pW W)) (A aF) 231 (io c1 c2 c3 c4)) (A aL) (A aI) (A aC),none,none,(pU vB),none⟩ p0 ((Yt W).den (dq (pW W) (bg (ak (pW W)) (A aF) 231 (io c1 c2 c3 c4)) (A aL) (A aI) (A aC))) [] s ft s'->cL (pW W) s'->cG ([(A aL,ah "dict" [aa (pW W) [119,97,121] x.u x.v] 1),(A aI,aK "list_iterator" [.none,.int (Int.ofNat x.k) 0]),(Yk aW ws epw),(A aC,ab x.hs x.eph)]) s'.heap->af ([(A aL,ah "dict" [aa (pW W) [119,97,121] uW vW] 1),(Y5 aI aW k),(Yk aW ws epw),(Yk aC hs eph)]) s s'->bC x.hs ds->Q)->Q:=by
 intro rest0
 induction rest0 with
 |nil=>
  intro k uW vW hs eph p0 s hd hh hP hf Q kQ
  apply vv (vB:=vB) (W:=W) (hit:=hws.none hd) (hP:=hP) (p0:=p0) (kQ:=?kz13) ..
  case' kz13=>intro n tb s' _ _ r h1 h2 h3
  exact kQ s' ⟨uW,vW,hs,eph,k⟩ r h1 h2 h3 (by rw [take_of_length_le (List.drop_eq_nil_iff.mp hd)] at hh;exact hh)
 |cons q rest ih=>
  intro k uW vW hs eph p0 s hd hh hP hf Q kQ
  obtain⟨hk,hd'⟩:=bw hd
  obtain⟨aT,tx,ty,et,hit,hx⟩:=hws.some hk
  have hP4:=hP.add hf hx (by show 245<=aT+245;lia)
  have hsz:hs.size<=1000:=by rw [hh.1,List.length_take];lia
  apply qF (vB:=vB) (W:=W) (hit:=hit) (hr:=hr q (mem_of_getElem? hk)) (hsz:=hsz) (hP:=hP4) (p0:=p0) (kQ:=?kz14) ..
  case' kz14=>intro n tb s1 x0 _ _ H hP' K
  have K3:=af.cut (E:=[(A aL,ah "dict" [aa (pW W) [119,97,121] uW vW] 1),(Y5 aI aW k),(Yk aW ws epw),(Yk aC hs eph)]) (x:=(A aT,a9 [.int q.1 tx,.int q.2 ty] et)) K (hf _ hx).1 hP'.has.2.2.2.2.1
  obtain⟨p',H⟩:=H
  refine ih (k+1) _ _ _ _ p' s1 hd' (by rw [gj hk];exact hh.push (t:=x0.t)) (az.cut (x:=(A aT,a9 [.int q.1 tx,.int q.2 ty] et)) hP') (hf.keep K3 rfl) _ fun s2 x r h1 h2 h3 h4=>?_
  exact kQ s2 x (H _ _ r) h1 h2 (K3.trans (h3.cast rfl)) h4
noncomputable def oq(W:WW)(vB:FB)(aF c1 c2 c3 c4:Nat)(aL aI aW aC:Nat)(ws:Array Value)(epw:Nat)(fz:List df)(ds:List cw)(x:yQ):Result×List Obj×ae:=(mV,([(A aL,ah "dict" [aa (pW W) [119,97,121] x.u x.v] 1),(A aI,aK "list_iterator" [.none,.int (Int.ofNat x.k) 0]),(Yk aW ws epw),(A aC,ab x.hs x.eph)]).map (·.2),[])
abbrev Y9 a b c d e f:=[(A a,ah "dict" [] 0),(A b,aK "list_iterator" [.ref (A c),.int (Int.ofNat 0) 0]),(A c,ab d e),(A f,ab ⟨[]⟩ 0)]
theorem ue(hne:ds≠[]):
  bW (Vw W) ⟨dq (pW W) (bg (ak (pW W)) (A aF) 231 (io c1 c2 c3 c4)) (A aL) (A aI) (A aC),none,none,(pU vB),none⟩ ((Y9 aL aI aW ws epw aC)) fz (oq W vB aF c1 c2 c3 c4 aL aI aW aC ws epw fz ds) (fun x=>bC x.hs ds):=by
 intro p0 s hP hf
 refine gQ fun Q zQ=>?_
 obtain⟨q,rest,rfl⟩:∃q rest,ds=q::rest:=by cases ds with|nil=>exact(hne rfl).elim|cons q r=>exact⟨q,r,rfl⟩
 obtain⟨aT,tx,ty,et,hit,hx⟩:=hws.some (k:=0) rfl
 refine zQ ?_
 have hP4:=hP.add hf hx (by show 245<=aT+245;lia)
 apply pI (vB:=vB) (W:=W) (hit:=hit) (hr:=hr q (mem_cons_self ..)) (hsz:=by simp) (hP:=hP4) (p0:=p0) (uW:=0) (vW:=.none) (hs:=⟨[]⟩) (kQ:=?kz15) ..
 case' kz15=>intro n tb s1 x0 _ _ H hP' K
 have K3:=af.cut (E:=(Y9 aL aI aW ws epw aC)) (x:=(A aT,a9 [.int q.1 tx,.int q.2 ty] et)) K (hf _ hx).1 hP'.has.2.2.2.2.1
 obtain⟨p',H⟩:=H
 refine A0 W vB aF c1 c2 c3 c4 aL aI aW aC ws epw fz (q::rest) hws hr hlen rest 1 _ _ _ _ p' s1 rfl (bC.push (ds:=[]) (t:=x0.t) ⟨rfl,fun i d e=>by simp at e⟩) (az.cut (x:=(A aT,a9 [.int q.1 tx,.int q.2 ty] et)) hP') (hf.keep K3 rfl) _ fun s2 x r h1 h2 h3 h4=>?_
 have h3:=K3.trans (h3.cast rfl)
 exact⟨x,s2,H _ _ r,h1,h3,⟨h2.1,h2.2.1,h2.2.2.1,h2.2.2.2.1,trivial⟩,trivial,(fun y hy=>nomatch hy),nodup_nil,h4⟩
end
noncomputable abbrev RK(a:WW):=[]++(cond a.b2 [] [2,2,2,2])++[3000]
abbrev oX a b:=ec (Vw a) b [] [] [] []
noncomputable abbrev Ad:=fun W=>(RK W)
abbrev Aq a b:=sl a 0 (jz b 0 4)
theorem pk(W:WW)(p0:Pos)(vB:FB)(aF c1 c2 c3 c4:Nat)(aL aI aW aC:Nat)(ws:Array Value)(epw:Nat)(s:Shared)(hP:az (pW W) ((Y9 aL aI aW ws epw aC)) s){Q:Prop}(kQ:∀(n tb:Nat) (s':Shared),Hn s n->Ht s tb->cp (Yt W) (⟨ay (dq (pW W) (bg (ak (pW W)) (A aF) 231 (io c1 c2 c3 c4)) (A aL) (A aI) (A aC)),none,none,(pU vB),none⟩) (dq (pW W) (bg (ak (pW W)) (A aF) 231 (io c1 c2 c3 c4)) (A aL) (A aI) (A aC)) p0 s s'->az (pW W) ((Y9 aL aI aW ws epw aC)) s'->af ((Y9 aL aI aW ws epw aC)) s s'->Q):Q:=by
 obtain⟨n,tb,gb,hn,ht,hg⟩:=hP.nt
 have hE:= @rfl qx fun W=>(Y9 aL aI aW ws epw aC)
 refine bT hE hP hn ht hg (fun eX W Z hX=>ch (oX W 4) 52 (⟨ay (dq (pW W) (bg (ak (pW W)) (A aF) 231 (io c1 c2 c3 c4)) (A aL) (A aI) (A aC)),none,none,(pU vB),none⟩) (p0) (a8 (ay (dq (pW W) (bg (ak (pW W)) (A aF) 231 (io c1 c2 c3 c4)) (A aL) (A aI) (A aC)))) [] hX (cN eX n tb gb) (mB Z)) (fun eX W Z hX=>ad (lE eX) (A n) gb (Aq hX W) (Z (.again (dq (pW W) (bg (ak (pW W)) (A aF) 231 (io c1 c2 c3 c4)) (A aL) (A aI) (A aC))) (Y2 n 0) (Y8 tb 0) true (ax ((Y9 aL aI aW ws epw aC))))) Ad (pc (by kernel_rfl)) rfl trivial (by exact trivial) rfl fun hX=>?_
 exact rF fun s' r _ h3 h4 h5=>kQ n tb s' hn ht (cf r) ⟨h4,ai h3,hP.nd,hP.lo⟩ h5
theorem sa(W:WW)(vB:FB)(aF c1 c2 c3 c4:Nat)(aL aI aW aC:Nat)(ws:Array Value)(epw:Nat)(fz:List df)(ds:List cw)(hws:aw ws fz ds)(hr:ranged ds)(hlen:ds.length<=100)(hne:ds≠[]):
  bW (Vw W) ⟨ay (dq (pW W) (bg (ak (pW W)) (A aF) 231 (io c1 c2 c3 c4)) (A aL) (A aI) (A aC)),none,none,(pU vB),none⟩ ((Y9 aL aI aW ws epw aC)) fz (oq W vB aF c1 c2 c3 c4 aL aI aW aC ws epw fz ds) (fun x=>bC x.hs ds):=
 rm (C:=dq (pW W) (bg (ak (pW W)) (A aF) 231 (io c1 c2 c3 c4)) (A aL) (A aI) (A aC)) (ue W vB aF c1 c2 c3 c4 aL aI aW aC ws epw fz ds hws hr hlen hne) fun p s hP=>by
  apply pk (vB:=vB) (W:=W) (p0:=p) (hP:=hP) (kQ:=?k8) ..
  case' k8=>intro n tb s' _ _ H hP' K
  exact⟨s',H,hP',K⟩
noncomputable abbrev Ym:=(.int (Int.ofNat 0) 0:Value)
abbrev kA a b:=(A a,aK "range_iterator" [Ye b,Ym,.int 1 0])
theorem oQ(W:WW)(p0:Pos)(vB:FB)(aF c1 c2 c3 c4:Nat)(aL aI aC:Nat)(loc:List DictEntry)(el:Nat)(js:Array Value)(epj k:Nat)(o3 o4 oH:Obj)(aH:Nat)(n tb gb:Nat)(Z:ZB)(hX:List Nat)(hhX:hX=[2,2,2,2,2,8])(eX:ae)(heX:eX=[(mw aL loc el),(kA aI k),(Yk aC js epj),(A c3,o3),(A c4,o4),(A aH,oH)]):
 ch (oX W 6) 55 (⟨eK (pW W) (bg (ak (pW W)) (A aF) 231 [A c1,A c2,A c3,A c4]) (A aL) (A aI) (A aC),none,none,(pU vB),none⟩) (p0) (a8 (eK (pW W) (bg (ak (pW W)) (A aF) 231 (io c1 c2 c3 c4)) (A aL) (A aI) (A aC))) [] hX (cN eX n tb gb) (kZ [0,1,2,3,4,5] Z)=
ad (lE eX) (A n) gb (sl hX 0 6) (
Z oW (Y2 n 2) (Y8 tb 0) true (ax ([(mw aL loc el),(kA aI k),(Yk aC js epj),(A c3,o3),(A c4,o4),(A aH,oH)]))):=by
 subst hhX;subst heX
 kernel_rfl
abbrev Y6 a b:=((A a,⟨.type "cell",none,.cell (some (sW b)),⟨[]⟩⟩):Nat×Obj)
noncomputable abbrev Yu:=(.type "cell":Value)
abbrev qQ a b c:=(A a,aK "range_iterator" [Ye b,.int (Int.ofNat (Nat.succ c)) 0,.int 1 0])
abbrev IF a b c:=Rf (.builtin "list.__getitem__" ⟨[(Yp a),(.int (Yh b) (TK c))],[]⟩:Code)
abbrev rg a b c:=((A a,⟨Yu,none,.cell (some (.float b c)),⟨[]⟩⟩):Nat×Obj)
noncomputable abbrev wB:=Made.val (Value.bool true)
noncomputable abbrev Hj(a:Nat)(b:Array Value):=(seqIndex? (Yh a) b.size).bind fun j=>b[j]?
noncomputable abbrev jv:=(.int 1 0:Value)
abbrev kh a b:=(.int (Yh a) (TK b):Value)
noncomputable abbrev Ag(a:Nat)(b:Array Value):=seqIndex? (Yh a) b.size
noncomputable abbrev nw a b:=(.float (a) b:Value)
noncomputable abbrev JI a b c d:=(.builtin "float.__eq__" ⟨[(nw a b),(nw c d)],[]⟩:Code)
section
variable(W:WW)(b7:Bool)(p0:Pos)(vB:FB)(aF c1 c2 c3 c4 aL aI aC aH:Nat)(uJ th tl:Tok)(vJ:Value)(hf lf:UInt64)(hs js:Array Value)(eph epj k m:Nat)(s:Shared)(hit:(Ag k hs).bind (fun j=>hs[j]?)=some (.float hf th))(hk:k<=1000)
include W b7 p0 vB aF c1 c2 c3 c4 aL aI aC aH uJ th tl vJ hf lf hs js eph epj k m s hit hk
theorem qD(heq:(Float64.cmp hf lf==some .eq)=true)(hsz:js.size<=1000)(hP:az (pW W) ([(A aL,ah "dict" (cond b7 [] [aa (pW W) [106] uJ vJ]) (cond b7 0 1)),(qQ aI k m),(Yk aC js epj),(Y6 c3 aH),(rg c4 lf tl),(Yk aH hs eph)]) s){Q:Prop}(kQ:∀(n tb:Nat) (s':Shared),Hn s n->Ht s tb->br (Yt W) (⟨eK (pW W) (bg (ak (pW W)) (A aF) 231 [A c1,A c2,A c3,A c4]) (A aL) (A aI) (A aC),none,none,(pU vB),none⟩) p0 s s'->az (pW W) ([(A aL,ah "dict" [aa (pW W) [106] (cond b7 (Y8 tb 1) uJ) (kh k tb)] 1),(A aI,aK "range_iterator" [.int (Int.ofNat k+Int.ofNat 1) 0,.int (Int.ofNat (Nat.succ m)-1) 0,jv]),(A aC,Obj.mapSeq (·.push (kh k tb)) (ab js epj)),(Y6 c3 aH),(rg c4 lf tl),(Yk aH hs eph)]) s'->af ([(A aL,ah "dict" (cond b7 [] [aa (pW W) [106] uJ vJ]) (cond b7 0 1)),(qQ aI k m),(Yk aC js epj),(Y6 c3 aH),(rg c4 lf tl),(Yk aH hs eph)]) s s'->Q):Q:=by
 obtain⟨n,tb,gb,hn,ht,hg⟩:=hP.nt
 have hE:= @rfl qx fun W=>[(A aL,ah "dict" (cond b7 [] [aa (pW W) [106] uJ vJ]) (cond b7 0 1)),(qQ aI k m),(Yk aC js epj),(Y6 c3 aH),(rg c4 lf tl),(Yk aH hs eph)]
 refine bT hE hP hn ht hg (fun eX W Z hX=>ch (ec (Vw W) 6 [(cn 5 (.float hf th)),po,(b9 2)] [] [] []) 88 (⟨eK (pW W) (bg (ak (pW W)) (A aF) 231 [A c1,A c2,A c3,A c4]) (A aL) (A aI) (A aC),none,none,(pU vB),none⟩) (p0) (a8 (eK (pW W) (bg (ak (pW W)) (A aF) 231 (io c1 c2 c3 c4)) (A aL) (A aI) (A aC))) [] hX (cN eX n tb gb) (kZ [0,1,2,3,4,5] Z)) (fun eX W Z hX=>ad (lE eX) (A n) gb (sl hX 0 17) (((IF aH k tb)/\(bN (Yh k)/\(((Hj k hs):i6)=(some (nw hf th)))))/\ad (lE eX) (A n) gb (sl hX 18 1) ((av (JI hf th lf tl) [] wB/\Yc)/\ad (lE eX) (A n) gb (sl hX 20 2) (((Rf (.builtin "list.append" ⟨[(Yp aC),(kh k tb)],[]⟩:Code))/\((Hy/\(Ly/\(Rf ({toList:=[]}:Array i6))))/\(js.size.le 1000)))/\ad (lE eX) (A n) gb (sl hX 23 1) (Z (.again (eK (pW W) (bg (ak (pW W)) (A aF) 231 (io c1 c2 c3 c4)) (A aL) (A aI) (A aC))) (Y2 n 0) (Y8 tb 2) true (ax ([(A aL,ah "dict" [aa (pW W) [106] (cond b7 (Y8 tb 1) uJ) (kh k tb)] 1),(A aI,aK "range_iterator" [.int (Int.ofNat k+Int.ofNat 1) 0,.int (Int.ofNat (Nat.succ m)-1) 0,jv]),(A aC,Obj.mapSeq (·.push (kh k tb)) (ab js epj)),(Y6 c3 aH),(rg c4 lf tl),(Yk aH hs eph)]))))))) (fun _=>(gC [90002,1,1,4,1,40006,4000,5,4001,1,3,4002,3,3000])) (by apply iR b7<;>exact iX (by kernel_rfl)) rfl ⟨fun _=>bA,fun _=>au,fun _=>bx,trivial⟩ trivial rfl fun hX=>?_
 iterate 3 refine rI (by first|exact⟨rfl,bV hk,hit⟩|exact⟨en heq,rfl⟩|exact⟨rfl,⟨rfl,rfl,rfl⟩,hsz⟩|exact⟨rfl,rfl⟩|exact⟨rfl,rfl,rfl⟩|exact⟨rfl,⟨rfl,rfl,rfl⟩,⟨rfl,rfl,rfl⟩,rfl⟩) ?_
 exact rF fun s' r _ h3 h4 h5=>kQ n tb s' hn ht (am rfl r) ⟨h4,ai h3,hP.nd,hP.lo⟩ h5
theorem pP(heq:(Float64.cmp hf lf==some .eq)=false)(hsz:js.size<=1000)(hP:az (pW W) ([(A aL,ah "dict" (cond b7 [] [aa (pW W) [106] uJ vJ]) (cond b7 0 1)),(qQ aI k m),(Yk aC js epj),(Y6 c3 aH),(rg c4 lf tl),(Yk aH hs eph)]) s){Q:Prop}(kQ:∀(n tb:Nat) (s':Shared),Hn s n->Ht s tb->br (Yt W) (⟨eK (pW W) (bg (ak (pW W)) (A aF) 231 [A c1,A c2,A c3,A c4]) (A aL) (A aI) (A aC),none,none,(pU vB),none⟩) p0 s s'->az (pW W) ([(A aL,ah "dict" [aa (pW W) [106] (cond b7 (Y8 tb 1) uJ) (kh k tb)] 1),(A aI,aK "range_iterator" [.int (Int.ofNat k+Int.ofNat 1) 0,.int (Int.ofNat (Nat.succ m)-1) 0,jv]),(Yk aC js epj),(Y6 c3 aH),(rg c4 lf tl),(Yk aH hs eph)]) s'->af ([(A aL,ah "dict" (cond b7 [] [aa (pW W) [106] uJ vJ]) (cond b7 0 1)),(qQ aI k m),(Yk aC js epj),(Y6 c3 aH),(rg c4 lf tl),(Yk aH hs eph)]) s s'->Q):Q:=by
 obtain⟨n,tb,gb,hn,ht,hg⟩:=hP.nt
 have hE:= @rfl qx fun W=>[(A aL,ah "dict" (cond b7 [] [aa (pW W) [106] uJ vJ]) (cond b7 0 1)),(qQ aI k m),(Yk aC js epj),(Y6 c3 aH),(rg c4 lf tl),(Yk aH hs eph)]
 refine bT hE hP hn ht hg (fun eX W Z hX=>ch (ec (Vw W) 6 [(cn 5 (.float hf th)),mu] [] [] []) 81 (⟨eK (pW W) (bg (ak (pW W)) (A aF) 231 [A c1,A c2,A c3,A c4]) (A aL) (A aI) (A aC),none,none,(pU vB),none⟩) (p0) (a8 (eK (pW W) (bg (ak (pW W)) (A aF) 231 (io c1 c2 c3 c4)) (A aL) (A aI) (A aC))) [] hX (cN eX n tb gb) (kZ [0,1,2,3,4,5] Z)) (fun eX W Z hX=>ad (lE eX) (A n) gb (sl hX 0 17) (((IF aH k tb)/\(bN (Yh k)/\(((Hj k hs):i6)=(some (nw hf th)))))/\ad (lE eX) (A n) gb (sl hX 18 1) ((av (JI hf th lf tl) [] wx/\Yc)/\ad (lE eX) (A n) gb (sl hX 19 0) (Z (.again (eK (pW W) (bg (ak (pW W)) (A aF) 231 (io c1 c2 c3 c4)) (A aL) (A aI) (A aC))) (Y2 n 0) (Y8 tb 2) true (ax ([(A aL,ah "dict" [aa (pW W) [106] (cond b7 (Y8 tb 1) uJ) (kh k tb)] 1),(A aI,aK "range_iterator" [.int (Int.ofNat k+Int.ofNat 1) 0,.int (Int.ofNat (Nat.succ m)-1) 0,jv]),(Yk aC js epj),(Y6 c3 aH),(rg c4 lf tl),(Yk aH hs eph)])))))) (fun _=>(gC [90002,1,1,4,1,40006,4000,5,4001,3000])) (by apply iR b7<;>exact iX (by kernel_rfl)) rfl ⟨fun _=>bA,fun _=>au,trivial⟩ trivial rfl fun hX=>?_
 iterate 2 refine rI (by first|exact⟨rfl,bV hk,hit⟩|exact⟨en heq,rfl⟩|exact⟨rfl,⟨rfl,rfl,rfl⟩,hsz⟩|exact⟨rfl,rfl⟩|exact⟨rfl,rfl,rfl⟩|exact⟨rfl,⟨rfl,rfl,rfl⟩,⟨rfl,rfl,rfl⟩,rfl⟩) ?_
 exact rF fun s' r _ h3 h4 h5=>kQ n tb s' hn ht (am rfl r) ⟨h4,ai h3,hP.nd,hP.lo⟩ h5
end
theorem vj(W:WW)(p0:Pos)(vB:FB)(aF c1 c2 c3 c4:Nat)(aL aI aC:Nat)(loc:List DictEntry)(el:Nat)(js:Array Value)(epj k:Nat)(o3 o4 oH:Obj)(aH:Nat)(s:Shared)(hP:az (pW W) ([(mw aL loc el),(kA aI k),(Yk aC js epj),(A c3,o3),(A c4,o4),(A aH,oH)]) s){Q:Prop}(kQ:∀(n tb:Nat) (s':Shared),Hn s n->Ht s tb->Runs (Yt W) (⟨eK (pW W) (bg (ak (pW W)) (A aF) 231 [A c1,A c2,A c3,A c4]) (A aL) (A aI) (A aC),none,none,(pU vB),none⟩) p0 ((Yt W).den (eK (pW W) (bg (ak (pW W)) (A aF) 231 (io c1 c2 c3 c4)) (A aL) (A aI) (A aC))) [] s ft s'->cL (pW W) s'->cG ([(mw aL loc el),(kA aI k),(Yk aC js epj),(A c3,o3),(A c4,o4),(A aH,oH)]) s'.heap->af ([(mw aL loc el),(kA aI k),(Yk aC js epj),(A c3,o3),(A c4,o4),(A aH,oH)]) s s'->Q):Q:=by
 obtain⟨n,hn⟩:=hP.size
 obtain⟨tb,ht⟩:=hP.toks
 generalize hg:s.gens.size=gb
 ·have H:=Eq.mpr (oQ W p0 vB aF c1 c2 c3 c4 aL aI aC loc el js epj k o3 o4 oH aH n tb gb (fun ev nk tk fin l=>fin=true/\((ev=oW/\l=ax ([(mw aL loc el),(kA aI k),(Yk aC js epj),(A c3,o3),(A c4,o4),(A aH,oH)]))/\677<=tk)) _ rfl _ rfl) (by
   exact ag ⟨rfl,⟨rfl,rfl⟩,eQ⟩ _)
  obtain⟨ev,s',l,r,⟨⟨rfl,rfl⟩,htk⟩,h3,h4,h5⟩:=dp (is:=[0,1,2,3,4,5]) (by exact trivial) (by exact trivial) hP hn ht hg rfl (by rintro ev nk tk l ⟨⟨rfl,rfl⟩,h⟩;exact⟨rfl,h⟩) H
  exact kQ n tb s' hn ht (by rw [bG];exact r) h4 (ai h3) h5
structure AP where
 u:Tok
 v:Value
 js:Array Value
 epj:Nat
 k:Nat
def aY(js:Array Value)(l:List Nat):Prop:=js.size=l.length/\∀(i j:Nat),l[i]? =some j->∃t,js[i]? =some (.int (Int.ofNat j) t)
theorem aY.push{js:Array Value}{l:List Nat}{j:Nat}{t:Tok}(h:aY js l):aY (js.push (.int (Int.ofNat j) t)) (l++[j]):=by
 refine⟨by simp [h.1],fun i x e=>?_⟩
 by_cases q:i<l.length
 ·rw [getElem?_append_left q] at e
  rw [getElem?_push,if_neg (by rw [h.1];lia)]
  exact h.2 i x e
 ·rw [getElem?_append_right (by lia)] at e
  have hl:=(List.getElem?_eq_some_iff.mp e).1
  have:i=l.length:=by simp at hl;lia
  subst this
  simp at e
  rw [getElem?_push,if_pos (by rw [h.1])]
  exact⟨t,by rw [<-e]⟩
noncomputable def gF(ds:List (Int×Int))(lf:UInt64)(j:Nat):Bool:=match ds[j]? with
 |some d=>Float64.cmp (bf d.1 d.2) lf==some .eq
 |none=>false
noncomputable def fg(ds:List (Int×Int))(lf:UInt64)(k:Nat):List Nat:=(List.range k).filter (gF ds lf)
theorem gX(ds:List (Int×Int))(lf:UInt64)(k:Nat):fg ds lf (k+1)=if gF ds lf k then fg ds lf k++[k] else fg ds lf k:=by
 unfold fg
 rw [range_succ,List.filter_append]
 by_cases h:gF ds lf k=true
 ·simp [h]
 ·simp [h]
theorem fJ{k n:Nat}(h:k<n):seqIndex? (Int.ofNat k) n=some k:=by
 unfold seqIndex?
 have h1:¬(Int.ofNat k<0):=by simp
 have h2:(0:Int)<=Int.ofNat k:=natCast_nonneg k
 have h3:Int.ofNat k<(n:Int):=by show(k:Int)<n;lia
 simp only [h1,if_false]
 rw [if_pos (by rw [Bool.and_eq_true];exact⟨decide_eq_true h2,decide_eq_true h3⟩)]
 rfl
theorem bC.at{hs:Array Value}{ds:List (Int×Int)}(h:bC hs ds){k:Nat}{d:Int×Int}(e:ds[k]? =some d):∃t,(seqIndex? (Int.ofNat k) hs.size).bind (fun j=>hs[j]?)=some (.float (bf d.1 d.2) t):=by
 obtain⟨t,ht⟩:=h.2 k d e
 have hk:=(List.getElem?_eq_some_iff.mp e).1
 exact⟨t,by rw [fJ (by rw [h.1];exact hk)];exact ht⟩
abbrev Eb a b c:=(A a,aK "range_iterator" [Ye b,Ye c,jv])
abbrev PO(a:AP):=aK "range_iterator" [.int (Int.ofNat a.k) 0,Ym,jv]
section
variable(W:WW)(vB:FB)(aF c1 c2 c3 c4 aL aI aC aH:Nat)(tl:Tok)(lf:UInt64)(hs:Array Value)(eph:Nat)
include W vB aF c1 c2 c3 c4 aL aI aC aH tl lf hs eph
theorem sq(ds:List cw)(hh:bC hs ds)(hlen:ds.length<=100):∀(m k:Nat) (uJ:Tok) (vJ:Value) (js:Array Value) (epj:Nat) (p0:Pos) (s:Shared),k+m=ds.length->aY js (fg ds lf k)->az (pW W) ([(A aL,ah "dict" [aa (pW W) [106] uJ vJ] 1),(Eb aI k m),(Yk aC js epj),(Y6 c3 aH),(rg c4 lf tl),(Yk aH hs eph)]) s->
  ∀Q:Prop,(∀(s':Shared) (x:AP),Runs (Yt W) ⟨eK (pW W) (bg (ak (pW W)) (A aF) 231 [A c1,A c2,A c3,A c4]) (A aL) (A aI) (A aC),none,none,(pU vB),none⟩ p0 ((Yt W).den (eK (pW W) (bg (ak (pW W)) (A aF) 231 (io c1 c2 c3 c4)) (A aL) (A aI) (A aC))) [] s ft s'->cL (pW W) s'->cG ([(A aL,ah "dict" [aa (pW W) [106] x.u x.v] 1),(A aI,PO x),(A aC,ab x.js x.epj),(Y6 c3 aH),(rg c4 lf tl),(Yk aH hs eph)]) s'.heap->af ([(A aL,ah "dict" [aa (pW W) [106] uJ vJ] 1),(Eb aI k m),(Yk aC js epj),(Y6 c3 aH),(rg c4 lf tl),(Yk aH hs eph)]) s s'->aY x.js (fg ds lf ds.length)->Q)->Q:=by
 intro m0
 induction m0 with
 |zero=>
  intro k uJ vJ js epj p0 s hd hj hP Q kQ
  apply vj (vB:=vB) (W:=W) (hP:=hP) (p0:=p0) (kQ:=?kz16) ..
  case' kz16=>intro n tb s' _ _ r h1 h2 h3
  exact kQ s' ⟨uJ,vJ,js,epj,k⟩ r h1 h2 h3 (by rw [<-hd];exact hj)
 |succ m ih=>
  intro k uJ vJ js epj p0 s hd hj hP Q kQ
  obtain⟨d,hd1⟩:∃d,ds[k]? =some d:=⟨_,List.getElem?_eq_getElem (by lia)⟩
  obtain⟨th,hit⟩:=hh.at hd1
  have hsz:js.size<=1000:=by
   rw [hj.1]
   have:(fg ds lf k).length<=k:=by
    have:=List.length_filter_le (gF ds lf) (List.range k)
    rwa [length_range] at this
   lia
  have ee1:Int.ofNat (Nat.succ m)-1=Int.ofNat m:=by show((m+1:Nat):Int)-1=(m:Int);lia
  have ee2:Int.ofNat k+Int.ofNat 1=Int.ofNat (k+1):=rfl
  by_cases he:(Float64.cmp (bf d.1 d.2) lf==some .eq)=true
  ·apply qD (b7:=false) (vB:=vB) (W:=W) (hit:=hit) (hk:=by lia) (heq:=he) (hsz:=hsz) (hP:=hP) (p0:=p0) (kQ:=?k9) ..
   case' k9=>intro n tb s1 _ _ H hP' K
   rw [ee1,ee2] at hP'
   obtain⟨p',H⟩:=H
   refine ih (k+1) _ _ _ _ p' s1 (by lia) (by rw [gX,if_pos (by unfold gF;rw [hd1];exact he)];exact hj.push (t:=(TK tb))) hP' _ fun s2 x r h1 h2 h3 h4=>?_
   exact kQ s2 x (H _ _ r) h1 h2 (K.trans (h3.cast rfl)) h4
  ·have he:(Float64.cmp (bf d.1 d.2) lf==some .eq)=false:=by simpa using he
   apply pP (b7:=false) (vB:=vB) (W:=W) (hit:=hit) (hk:=by lia) (heq:=he) (hsz:=hsz) (hP:=hP) (p0:=p0) (kQ:=?k10) ..
   case' k10=>intro n tb s1 _ _ H hP' K
   rw [ee1,ee2] at hP'
   obtain⟨p',H⟩:=H
   refine ih (k+1) _ _ _ _ p' s1 (by lia) (by rw [gX,if_neg (by unfold gF;rw [hd1];simp [he])];exact hj) hP' _ fun s2 x r h1 h2 h3 h4=>?_
   exact kQ s2 x (H _ _ r) h1 h2 (K.trans (h3.cast rfl)) h4
noncomputable def rC(W:WW)(vB:FB)(aF c1 c2 c3 c4:Nat)(aL aI aC aH:Nat)(tl:Tok)(lf:UInt64)(hs:Array Value)(eph:Nat)(ds:List cw)(x:AP):Result×List Obj×ae:=(mV,([(A aL,ah "dict" [aa (pW W) [106] x.u x.v] 1),(A aI,PO x),(A aC,ab x.js x.epj),(Y6 c3 aH),(rg c4 lf tl),(Yk aH hs eph)]).map (·.2),[])
theorem vN(ds:List (Int×Int))(hh:bC hs ds)(hlen:ds.length<=100)(hne:ds≠[]):cm (Vw W) ⟨eK (pW W) (bg (ak (pW W)) (A aF) 231 [A c1,A c2,A c3,A c4]) (A aL) (A aI) (A aC),none,none,[(.whileLoop vB.wt vB.wb vB.we vB.wenv,vB.p3),(.func vB.f1 vB.n1,vB.p4),(.forLoop vB.te vB.i1 vB.bo1 vB.e1 vB.n3,vB.p7),(.func vB.f2 vB.n4,vB.p5),(.builtin "claim.caller" {},vB.p6)],none⟩ ([(A aL,ah "dict" [] 0),(A aI,aK "range_iterator" [.int (Int.ofNat 0) 0,.int (Int.ofNat ds.length) 0,.int 1 0]),(A aC,ab ⟨[]⟩ 0),(A c3,⟨.type "cell",none,.cell (some (.ref (A aH))),⟨[]⟩⟩),(A c4,⟨.type "cell",none,.cell (some (.float lf tl)),⟨[]⟩⟩),(A aH,ab hs eph)]) (rC W vB aF c1 c2 c3 c4 aL aI aC aH tl lf hs eph ds) (fun x=>aY x.js (fg ds lf ds.length)):=by
 intro p0 s hP
 obtain⟨m,hm⟩:∃m,ds.length=m+1:=by cases ds with|nil=>exact(hne rfl).elim|cons q r=>exact⟨r.length,rfl⟩
 rw [hm] at hP
 obtain⟨d,hd1⟩:∃d,ds[0]? =some d:=⟨_,List.getElem?_eq_getElem (by lia)⟩
 obtain⟨th,hit⟩:=hh.at hd1
 have ee1:Int.ofNat (Nat.succ m)-1=Int.ofNat m:=by show((m+1:Nat):Int)-1=(m:Int);lia
 have ee2:Int.ofNat 0+Int.ofNat 1=Int.ofNat 1:=rfl
 have z:aY (⟨[]⟩:Array Value) []:=⟨rfl,fun i j e=>by simp at e⟩
 by_cases he:(Float64.cmp (bf d.1 d.2) lf==some .eq)=true
 ·apply qD (b7:=true) (vB:=vB) (W:=W) (hit:=hit) (hk:=by lia) (heq:=he) (hsz:=by simp) (hP:=hP) (p0:=p0) (uJ:=0) (vJ:=.none) (js:=⟨[]⟩) (kQ:=?k11) ..
  case' k11=>intro n tb s1 _ _ H hP' K
  rw [ee1,ee2] at hP'
  obtain⟨p',H⟩:=H
  refine sq W vB aF c1 c2 c3 c4 aL aI aC aH tl lf hs eph ds hh hlen m 1 _ _ _ _ p' s1 (by lia) (by rw [gX,if_pos (by unfold gF;rw [hd1];exact he)];exact z.push (j:=0) (t:=(TK tb))) hP' _ fun s2 x r h1 h2 h3 h4=>?_
  have h3:=K.trans (h3.cast rfl)
  exact⟨x,s2,H _ _ r,h1,h3.cast rfl,⟨h2.1,h2.2.1,h2.2.2.1,h2.2.2.2.1,h2.2.2.2.2.1,h2.2.2.2.2.2.1,trivial⟩,trivial,(fun y hy=>nomatch hy),nodup_nil,h4⟩
 ·have he:(Float64.cmp (bf d.1 d.2) lf==some .eq)=false:=by simpa using he
  apply pP (b7:=true) (vB:=vB) (W:=W) (hit:=hit) (hk:=by lia) (heq:=he) (hsz:=by simp) (hP:=hP) (p0:=p0) (uJ:=0) (vJ:=.none) (js:=⟨[]⟩) (kQ:=?k12) ..
  case' k12=>intro n tb s1 _ _ H hP' K
  rw [ee1,ee2] at hP'
  obtain⟨p',H⟩:=H
  refine sq W vB aF c1 c2 c3 c4 aL aI aC aH tl lf hs eph ds hh hlen m 1 _ _ _ _ p' s1 (by lia) (by rw [gX,if_neg (by unfold gF;rw [hd1];simp [he])];exact z) hP' _ fun s2 x r h1 h2 h3 h4=>?_
  have h3:=K.trans (h3.cast rfl)
  exact⟨x,s2,H _ _ r,h1,h3.cast rfl,⟨h2.1,h2.2.1,h2.2.2.1,h2.2.2.2.1,h2.2.2.2.2.1,h2.2.2.2.2.2.1,trivial⟩,trivial,(fun y hy=>nomatch hy),nodup_nil,h4⟩
end
abbrev eG:=ah "dict" [] 0
abbrev ix:=ab ⟨[]⟩ 0
abbrev xU a b:=(A a,aK "range_iterator" [Ym,Ye b,.int 1 0])
theorem qz(W:WW)(p0:Pos)(vB:FB)(aF c1 c2 c3 c4:Nat)(aL aI aC:Nat)(m aH:Nat)(o3 o4 oH:Obj)(s:Shared)(hP:az (pW W) ([(A aL,eG),(xU aI m),(A aC,ix),(A c3,o3),(A c4,o4),(A aH,oH)]) s){Q:Prop}(kQ:∀(n tb:Nat) (s':Shared),Hn s n->Ht s tb->cp (Yt W) (⟨ay (eK (pW W) (bg (ak (pW W)) (A aF) 231 (io c1 c2 c3 c4)) (A aL) (A aI) (A aC)),none,none,(pU vB),none⟩) (eK (pW W) (bg (ak (pW W)) (A aF) 231 (io c1 c2 c3 c4)) (A aL) (A aI) (A aC)) p0 s s'->az (pW W) ([(A aL,eG),(xU aI m),(A aC,ix),(A c3,o3),(A c4,o4),(A aH,oH)]) s'->af ([(A aL,eG),(xU aI m),(A aC,ix),(A c3,o3),(A c4,o4),(A aH,oH)]) s s'->Q):Q:=by
 obtain⟨n,tb,gb,hn,ht,hg⟩:=hP.nt
 have hE:= @rfl qx fun W=>[(A aL,eG),(xU aI m),(A aC,ix),(A c3,o3),(A c4,o4),(A aH,oH)]
 refine bT hE hP hn ht hg (fun eX W Z hX=>ch (oX W 6) 52 (⟨ay (eK (pW W) (bg (ak (pW W)) (A aF) 231 (io c1 c2 c3 c4)) (A aL) (A aI) (A aC)),none,none,(pU vB),none⟩) (p0) (a8 (ay (eK (pW W) (bg (ak (pW W)) (A aF) 231 (io c1 c2 c3 c4)) (A aL) (A aI) (A aC)))) [] hX (cN eX n tb gb) (kZ [0,1,2,3,4,5] Z)) (fun eX W Z hX=>ad (lE eX) (A n) gb (Aq hX W) (Z (.again (eK (pW W) (bg (ak (pW W)) (A aF) 231 (io c1 c2 c3 c4)) (A aL) (A aI) (A aC))) (Y2 n 0) (Y8 tb 0) true (ax ([(A aL,eG),(xU aI m),(A aC,ix),(A c3,o3),(A c4,o4),(A aH,oH)])))) Ad (pc (by kernel_rfl)) rfl trivial (by exact trivial) rfl fun hX=>?_
 exact rF fun s' r _ h3 h4 h5=>kQ n tb s' hn ht (cf r) ⟨h4,ai h3,hP.nd,hP.lo⟩ h5
theorem dT{X:Type}{w':World}{Γ:Ctx}{C:Code}{E:ae}{out:X->Result×List Obj×ae}{cond:X->Prop}(h:cm w' (Γ.goto C) E out cond)
  (g:∀p s,az w'.params E s->∃s',cp (jw w') Γ C p s s'/\az w'.params E s'/\af E s s'):cm w' Γ E out cond:=by
 intro p s hP
 refine gQ fun Q zQ=>?_
 obtain⟨s1,⟨p',H⟩,hP',K⟩:=g p s hP
 obtain⟨x,s2,r,rdy,K2,has,hasN,newN,ndN,cx⟩:=h p' s1 hP'
 refine zQ ?_
 exact⟨x,s2,H _ _ r,rdy,K.trans K2,has,hasN,(fun y hy=>Nat.le_trans K.size (newN y hy)),ndN,cx⟩
theorem rS(W:WW)(vB:FB)(aF c1 c2 c3 c4:Nat)(aL aI aC aH:Nat)(tl:Tok)(lf:UInt64)(hs:Array Value)(eph:Nat)(ds:List cw)(hh:bC hs ds)(hlen:ds.length<=100)(hne:ds≠[]):
  cm (Vw W) ⟨ay (eK (pW W) (bg (ak (pW W)) (A aF) 231 (io c1 c2 c3 c4)) (A aL) (A aI) (A aC)),none,none,(pU vB),none⟩ ([(A aL,eG),(A aI,aK "range_iterator" [Ym,.int (Int.ofNat ds.length) 0,jv]),(A aC,ix),(Y6 c3 aH),(rg c4 lf tl),(Yk aH hs eph)]) (rC W vB aF c1 c2 c3 c4 aL aI aC aH tl lf hs eph ds) (fun x=>aY x.js (fg ds lf ds.length)):=
 dT (C:=eK (pW W) (bg (ak (pW W)) (A aF) 231 (io c1 c2 c3 c4)) (A aL) (A aI) (A aC)) (vN W vB aF c1 c2 c3 c4 aL aI aC aH tl lf hs eph ds hh hlen hne) fun p s hP=>by
  apply qz (vB:=vB) (W:=W) (p0:=p) (hP:=hP) (kQ:=?k13) ..
  case' k13=>intro n tb s' _ _ H hP' K
  exact⟨s',H,hP',K⟩
theorem lB{a b:Int}{t u:Tok}{v:Bool}{l}(h:decide (a>b)=v):av (.builtin "int.__gt__" ⟨[.int a t,.int b u],[]⟩) l (.val (.bool v)):=by
 subst h;exact av.mk PySem.F.entry_int_gt (gives_int_gt a b t u) trivial
theorem Nd{P:Params}{aH n:Nat}{o o1 o2:Obj}{s:Shared}(h:az P [(A aH,o)] s)(hn:s.heap.objs.size=A n):(List.map (fun x=>x.1) ([(A aH,o),(A (Nat.add n 0),o1),(A (Nat.add n 1),o2)]:ae)).Nodup:=by
 have h1:A aH<s.heap.objs.size:=Heap.lt_size h.has.1
 rw [hn] at h1
 have h1:aH+245<n+245:=h1
 simp only [map_cons,map_nil,List.nodup_cons,List.mem_cons,List.not_mem_nil,or_false,not_or,nodup_nil,and_true,not_false_eq_true]
 refine⟨⟨fun e=>?_,fun e=>?_⟩,fun e=>?_⟩
 ·have e:aH+245=n+0+245:=e
  lia
 ·have e:aH+245=n+1+245:=e
  lia
 ·have e:n+0+245=n+1+245:=e
  lia
theorem Mj{P:Params}{aH n:Nat}{o o1 o2:Obj}{s:Shared}(h:az P [(A aH,o)] s):∀a∈List.map (fun x=>x.1) ([(A aH,o),(A (Nat.add n 0),o1),(A (Nat.add n 1),o2)]:ae),(eD P).get a=none:=by
 intro a ha
 simp only [map_cons,map_nil,List.mem_cons,List.not_mem_nil,or_false] at ha
 rcases ha with rfl|rfl|rfl
 ·exact h.lo _ (by simp)
 ·exact jc (.inl (by show 244<=n+0+245;lia))
 ·exact jc (.inl (by show 244<=n+1+245;lia))
abbrev KM a b:=(⟨[fy a,.none,fy b],[]⟩:Args)
noncomputable abbrev xf a b:=(⟨[(.float a b),(.float a b)]⟩:Array Value)
abbrev B5 a b c:=(⟨.builtin "min.loop" (KM a b),none,none,c,none⟩:Ctx)
abbrev Ao a b:=(.builtin "min.loop" (KM a b):Code)
abbrev wz a b:=(A a,ab ⟨[]⟩ b)
section
variable(W:WW)(p0:Pos)(bl:List nV)(aI aH aB:Nat)(hs:Array Value)(eph epb k:Nat)
include W p0 bl aI aH aB hs eph epb k
theorem nM(f g:UInt64)(tf tg:Tok)(n tb gb:Nat)(Z:ZB)(hX:List Nat)(hhX:hX=[3,1,1,4000,1,1,3,3,3,3000])(eX:ae)(heX:eX=[(Y5 aI aH k),(Yk aH hs eph),(wz aB epb)]):
 ch (ec (Vw W) 3 [(bF 0 1 (.float f tf))] [] [] []) 52 ((B5 aI aB bl)) (p0) (a8 (Ao aI aB)) [] hX (cN eX n tb gb) (lY Z)=
ad (lE eX) (A n) gb (sl hX 0 3) (
((Yo aI)/\((Ap aH)/\(((xS hs k):i6)=(some (nw f tf)))))/\ad (lE eX) (A n) gb (sl hX 4 5) (
Z (.again (Ao aI aB)) (Y2 n 0) (Y8 tb 0) true (ax ([(lS aI aH k),(Yk aH hs eph),(A aB,Obj.mapSeq (fun _=>(xf f tf)) (ab ⟨[]⟩ epb))])))):=by
 subst hhX;subst heX
 kernel_rfl
abbrev AW a b c d e f g h i:=[(Y5 a b c),(Yk b d e),(A f,ab (xf g h) i)]
theorem rd(f g:UInt64)(tf tg:Tok)(n tb gb:Nat)(Z:ZB)(hX:List Nat)(hhX:hX=[3,1,1,4000,1,1,5,3,3,3])(eX:ae)(heX:eX=(AW aI aH k hs eph aB g tg epb)):
 ch (ul W 3 0 1) 57 ((B5 aI aB bl)) (p0) (a8 (Ao aI aB)) [] hX (cN eX n tb gb) (lY Z)=
ad (lE eX) (A n) gb (sl hX 0 3) (
(uq aI aH hs k)/\ad (lE eX) (A n) gb (sl hX 4 6) (
Z (.fin (.ret (.ok (.ret (.float g tg))))) (Y2 n 2) (Y8 tb 0) true (ax ([(kd aI k),(Yk aH hs eph),(A aB,Obj.mapSeq (fun _=>⟨[]⟩) (ab (xf g tg) epb))])))):=by
 subst hhX;subst heX
 kernel_rfl
abbrev Hd a b c:=(⟨.builtin "max.loop" (KM a b),none,none,c,none⟩:Ctx)
noncomputable abbrev tp a b:=(⟨[(bY a b),(bY a b)]⟩:Array Value)
abbrev Ey a b:=(.builtin "max.loop" (KM a b):Code)
theorem oA(f g:Int)(tf tg:Tok)(n tb gb:Nat)(Z:ZB)(hX:List Nat)(hhX:hX=[3,1,1,4000,1,1,3,3,3,3000])(eX:ae)(heX:eX=[(Y5 aI aH k),(Yk aH hs eph),(wz aB epb)]):
 ch (ec (Vw W) 3 [(bF 0 1 (bY f tf))] [] [] []) 52 ((Hd aI aB bl)) (p0) (a8 (Ey aI aB)) [] hX (cN eX n tb gb) (lY Z)=
ad (lE eX) (A n) gb (sl hX 0 3) (
((Yo aI)/\((Ap aH)/\(((xS hs k):i6)=(some (iU f tf)))))/\ad (lE eX) (A n) gb (sl hX 4 5) (
Z (.again (Ey aI aB)) (Y2 n 0) (Y8 tb 0) true (ax ([(lS aI aH k),(Yk aH hs eph),(A aB,Obj.mapSeq (fun _=>(tp f tf)) (ab ⟨[]⟩ epb))])))):=by
 subst hhX;subst heX
 kernel_rfl
theorem se(f g:Int)(tf tg:Tok)(n tb gb:Nat)(Z:ZB)(hX:List Nat)(hhX:hX=[3,1,1,4000,1,1,5,3,3,3])(eX:ae)(heX:eX=[(Y5 aI aH k),(Yk aH hs eph),(A aB,ab (tp g tg) epb)]):
 ch (ul W 3 0 1) 57 ((Hd aI aB bl)) (p0) (a8 (Ey aI aB)) [] hX (cN eX n tb gb) (lY Z)=
ad (lE eX) (A n) gb (sl hX 0 3) (
(uq aI aH hs k)/\ad (lE eX) (A n) gb (sl hX 4 6) (
Z (.fin (.ret (.ok (.ret (bY g tg))))) (Y2 n 2) (Y8 tb 0) true (ax ([(kd aI k),(Yk aH hs eph),(A aB,Obj.mapSeq (fun _=>⟨[]⟩) (ab (tp g tg) epb))])))):=by
 subst hhX;subst heX
 kernel_rfl
section
variable(f g:UInt64)(tf tg:Tok)(s:Shared)(hit:hs[(Yh k).toNat]? =some (.float f tf))
include f g tf tg s hit
theorem vq(hP:az (pW W) ([(Y5 aI aH k),(Yk aH hs eph),(wz aB epb)]) s){Q:Prop}(kQ:∀(n tb:Nat) (s':Shared),Hn s n->Ht s tb->br (Yt W) ((B5 aI aB bl)) p0 s s'->az (pW W) ([(lS aI aH k),(Yk aH hs eph),(A aB,Obj.mapSeq (fun _=>(xf f tf)) (ab ⟨[]⟩ epb))]) s'->af ([(Y5 aI aH k),(Yk aH hs eph),(wz aB epb)]) s s'->Q):Q:=by
 obtain⟨n,hn⟩:=hP.size
 obtain⟨tb,ht⟩:=hP.toks
 generalize hg:s.gens.size=gb
 ·have H:=Eq.mpr (nM W p0 bl aI aH aB hs eph epb k f g tf tg n tb gb (fun ev nk tk fin l=>fin=true/\((ev=(.again (Ao aI aB))/\l=ax ([(lS aI aH k),(Yk aH hs eph),(A aB,Obj.mapSeq (fun _=>(xf f tf)) (ab ⟨[]⟩ epb))]))/\677<=tk)) _ rfl _ rfl) (by
   refine rI (by first|exact⟨rfl,rfl,hit⟩|exact⟨rfl,rfl⟩|exact⟨rfl,rfl,rfl⟩|exact⟨rfl,⟨rfl,rfl,rfl⟩,⟨rfl,rfl,rfl⟩,rfl⟩) ?_
   exact ag ⟨rfl,⟨rfl,rfl⟩,eQ⟩ _)
  obtain⟨ev,s',l,r,⟨⟨rfl,rfl⟩,htk⟩,h3,h4,h5⟩:=dp (is:=[0,1,2]) (by exact⟨fun _=>bi,trivial⟩) (by exact trivial) hP hn ht hg rfl (by rintro ev nk tk l ⟨⟨rfl,rfl⟩,h⟩;exact⟨rfl,h⟩) H
  exact kQ n tb s' hn ht (am rfl r) ⟨h4,ai h3,hP.nd,hP.lo⟩ h5
theorem qo(hc:(Float64.cmp f g==some .lt)=true)(hP:az (pW W) ((AW aI aH k hs eph aB g tg epb)) s){Q:Prop}(kQ:∀(n tb:Nat) (s':Shared),Hn s n->Ht s tb->br (Yt W) ((B5 aI aB bl)) p0 s s'->az (pW W) ([(lS aI aH k),(Yk aH hs eph),(A aB,ab (xf f tf) epb)]) s'->af ((AW aI aH k hs eph aB g tg epb)) s s'->Q):Q:=by
 obtain⟨n,tb,gb,hn,ht,hg⟩:=hP.nt
 have hE:= @rfl qx fun W=>(AW aI aH k hs eph aB g tg epb)
 refine bT hE hP hn ht hg (fun eX W Z hX=>ch (ec (Vw W) 3 [(bF 0 1 (.float f tf)),po] [] [] []) 59 ((B5 aI aB bl)) (p0) (a8 (Ao aI aB)) [] hX (cN eX n tb gb) (lY Z)) (fun eX W Z hX=>ad (lE eX) (A n) gb (sl hX 0 3) (((Yo aI)/\((Ap aH)/\(((xS hs k):i6)=(some (nw f tf)))))/\ad (lE eX) (A n) gb (sl hX 4 2) ((av (.builtin "float.__lt__" ⟨[(nw f tf),(nw g tg)],[]⟩) [] wB/\Yc)/\ad (lE eX) (A n) gb (sl hX 7 3) (Z (.again (Ao aI aB)) (Y2 n 0) (Y8 tb 0) true (ax ([(lS aI aH k),(Yk aH hs eph),(A aB,ab (xf f tf) epb)])))))) (fun _=>[3,1,1,4000,1,1,4001,3,3,3,3000]) (iX (by kernel_rfl)) rfl ⟨fun _=>bi,fun _=>au,trivial⟩ trivial rfl fun hX=>?_
 iterate 2 refine rI (by first|exact⟨rfl,rfl,hit⟩|exact⟨fT hc,rfl⟩|exact⟨rfl,rfl⟩|exact⟨rfl,rfl,rfl⟩|exact⟨rfl,⟨rfl,rfl,rfl⟩,⟨rfl,rfl,rfl⟩,rfl⟩) ?_
 exact rF fun s' r _ h3 h4 h5=>kQ n tb s' hn ht (am rfl r) ⟨h4,ai h3,hP.nd,hP.lo⟩ h5
theorem qp(hc:(Float64.cmp f g==some .lt)=false)(hP:az (pW W) ((AW aI aH k hs eph aB g tg epb)) s){Q:Prop}(kQ:∀(n tb:Nat) (s':Shared),Hn s n->Ht s tb->br (Yt W) ((B5 aI aB bl)) p0 s s'->az (pW W) ([(lS aI aH k),(Yk aH hs eph),(A aB,ab (xf g tg) epb)]) s'->af ((AW aI aH k hs eph aB g tg epb)) s s'->Q):Q:=by
 obtain⟨n,tb,gb,hn,ht,hg⟩:=hP.nt
 have hE:= @rfl qx fun W=>(AW aI aH k hs eph aB g tg epb)
 refine bT hE hP hn ht hg (fun eX W Z hX=>ch (ec (Vw W) 3 [(bF 0 1 (.float f tf)),mu] [] [] []) 56 ((B5 aI aB bl)) (p0) (a8 (Ao aI aB)) [] hX (cN eX n tb gb) (lY Z)) (fun eX W Z hX=>ad (lE eX) (A n) gb (sl hX 0 3) (((Yo aI)/\((Ap aH)/\(((xS hs k):i6)=(some (nw f tf)))))/\ad (lE eX) (A n) gb (sl hX 4 2) ((av (.builtin "float.__lt__" ⟨[(nw f tf),(nw g tg)],[]⟩) [] wx/\Yc)/\ad (lE eX) (A n) gb (sl hX 6 0) (Z (.again (Ao aI aB)) (Y2 n 0) (Y8 tb 0) true (ax ([(lS aI aH k),(Yk aH hs eph),(A aB,ab (xf g tg) epb)])))))) (fun _=>[3,1,1,4000,1,1,4001,3000]) (iX (by kernel_rfl)) rfl ⟨fun _=>bi,fun _=>au,trivial⟩ trivial rfl fun hX=>?_
 iterate 2 refine rI (by first|exact⟨rfl,rfl,hit⟩|exact⟨fT hc,rfl⟩|exact⟨rfl,rfl⟩|exact⟨rfl,rfl,rfl⟩|exact⟨rfl,⟨rfl,rfl,rfl⟩,⟨rfl,rfl,rfl⟩,rfl⟩) ?_
 exact rF fun s' r _ h3 h4 h5=>kQ n tb s' hn ht (am rfl r) ⟨h4,ai h3,hP.nd,hP.lo⟩ h5
end
theorem B4(f g:UInt64)(tf tg:Tok)(s:Shared)(hit:hs[(Yh k).toNat]? =none)(hP:az (pW W) ((AW aI aH k hs eph aB g tg epb)) s){Q:Prop}(kQ:∀(n tb:Nat) (s':Shared),Hn s n->Ht s tb->Runs (Yt W) ((B5 aI aB bl)) p0 ((Yt W).den (Ao aI aB)) [] s (.ret (.ok (.ret (.float g tg)))) s'->cL (pW W) s'->cG ([(kd aI k),(Yk aH hs eph),(A aB,Obj.mapSeq (fun _=>⟨[]⟩) (ab (xf g tg) epb))]) s'.heap->af ((AW aI aH k hs eph aB g tg epb)) s s'->Q):Q:=by
 obtain⟨n,hn⟩:=hP.size
 obtain⟨tb,ht⟩:=hP.toks
 generalize hg:s.gens.size=gb
 ·have H:=Eq.mpr (rd W p0 bl aI aH aB hs eph epb k f g tf tg n tb gb (fun ev nk tk fin l=>fin=true/\((ev=(.fin (.ret (.ok (.ret (.float g tg)))))/\l=ax ([(kd aI k),(Yk aH hs eph),(A aB,Obj.mapSeq (fun _=>⟨[]⟩) (ab (xf g tg) epb))]))/\677<=tk)) _ rfl _ rfl) (by
   refine rI (by first|exact⟨rfl,rfl,hit⟩|exact⟨rfl,rfl⟩|exact⟨rfl,rfl,rfl⟩|exact⟨rfl,⟨rfl,rfl,rfl⟩,⟨rfl,rfl,rfl⟩,rfl⟩) ?_
   exact ag ⟨rfl,⟨rfl,rfl⟩,eQ⟩ _)
  obtain⟨ev,s',l,r,⟨⟨rfl,rfl⟩,htk⟩,h3,h4,h5⟩:=dp (is:=[0,1,2]) (by exact⟨fun _=>ce,trivial⟩) (by exact trivial) hP hn ht hg rfl (by rintro ev nk tk l ⟨⟨rfl,rfl⟩,h⟩;exact⟨rfl,h⟩) H
  exact kQ n tb s' hn ht (by rw [bG];exact r) h4 (ai h3) h5
section
variable(f g:Int)(tf tg:Tok)(s:Shared)(hit:hs[(Yh k).toNat]? =some (bY f tf))
include f g tf tg s hit
theorem ut(hP:az (pW W) ([(Y5 aI aH k),(Yk aH hs eph),(wz aB epb)]) s){Q:Prop}(kQ:∀(n tb:Nat) (s':Shared),Hn s n->Ht s tb->br (Yt W) ((Hd aI aB bl)) p0 s s'->az (pW W) ([(lS aI aH k),(Yk aH hs eph),(A aB,Obj.mapSeq (fun _=>(tp f tf)) (ab ⟨[]⟩ epb))]) s'->af ([(Y5 aI aH k),(Yk aH hs eph),(wz aB epb)]) s s'->Q):Q:=by
 obtain⟨n,hn⟩:=hP.size
 obtain⟨tb,ht⟩:=hP.toks
 generalize hg:s.gens.size=gb
 ·have H:=Eq.mpr (oA W p0 bl aI aH aB hs eph epb k f g tf tg n tb gb (fun ev nk tk fin l=>fin=true/\((ev=(.again (Ey aI aB))/\l=ax ([(lS aI aH k),(Yk aH hs eph),(A aB,Obj.mapSeq (fun _=>(tp f tf)) (ab ⟨[]⟩ epb))]))/\677<=tk)) _ rfl _ rfl) (by
   refine rI (by first|exact⟨rfl,rfl,hit⟩|exact⟨rfl,rfl⟩|exact⟨rfl,rfl,rfl⟩|exact⟨rfl,⟨rfl,rfl,rfl⟩,⟨rfl,rfl,rfl⟩,rfl⟩) ?_
   exact ag ⟨rfl,⟨rfl,rfl⟩,eQ⟩ _)
  obtain⟨ev,s',l,r,⟨⟨rfl,rfl⟩,htk⟩,h3,h4,h5⟩:=dp (is:=[0,1,2]) (by exact⟨fun _=>bi,trivial⟩) (by exact trivial) hP hn ht hg rfl (by rintro ev nk tk l ⟨⟨rfl,rfl⟩,h⟩;exact⟨rfl,h⟩) H
  exact kQ n tb s' hn ht (am rfl r) ⟨h4,ai h3,hP.nd,hP.lo⟩ h5
theorem qM(hc:decide (f>g)=true)(hP:az (pW W) ([(Y5 aI aH k),(Yk aH hs eph),(A aB,ab (tp g tg) epb)]) s){Q:Prop}(kQ:∀(n tb:Nat) (s':Shared),Hn s n->Ht s tb->br (Yt W) ((Hd aI aB bl)) p0 s s'->az (pW W) ([(lS aI aH k),(Yk aH hs eph),(A aB,ab (tp f tf) epb)]) s'->af ([(Y5 aI aH k),(Yk aH hs eph),(A aB,ab (tp g tg) epb)]) s s'->Q):Q:=by
 obtain⟨n,tb,gb,hn,ht,hg⟩:=hP.nt
 have hE:= @rfl qx fun W=>[(Y5 aI aH k),(Yk aH hs eph),(A aB,ab (tp g tg) epb)]
 refine bT hE hP hn ht hg (fun eX W Z hX=>ch (ec (Vw W) 3 [(bF 0 1 (bY f tf)),po] [] [] []) 59 ((Hd aI aB bl)) (p0) (a8 (Ey aI aB)) [] hX (cN eX n tb gb) (lY Z)) (fun eX W Z hX=>ad (lE eX) (A n) gb (sl hX 0 3) (((Yo aI)/\((Ap aH)/\(((xS hs k):i6)=(some (iU f tf)))))/\ad (lE eX) (A n) gb (sl hX 4 2) ((av (.builtin "int.__gt__" ⟨[(iU f tf),(iU g tg)],[]⟩) [] wB/\Yc)/\ad (lE eX) (A n) gb (sl hX 7 3) (Z (.again (Ey aI aB)) (Y2 n 0) (Y8 tb 0) true (ax ([(lS aI aH k),(Yk aH hs eph),(A aB,ab (tp f tf) epb)])))))) (fun _=>[3,1,1,4000,1,1,4001,3,3,3,3000]) (iX (by kernel_rfl)) rfl ⟨fun _=>bi,fun _=>au,trivial⟩ trivial rfl fun hX=>?_
 iterate 2 refine rI (by first|exact⟨rfl,rfl,hit⟩|exact⟨lB hc,rfl⟩|exact⟨rfl,rfl⟩|exact⟨rfl,rfl,rfl⟩|exact⟨rfl,⟨rfl,rfl,rfl⟩,⟨rfl,rfl,rfl⟩,rfl⟩) ?_
 exact rF fun s' r _ h3 h4 h5=>kQ n tb s' hn ht (am rfl r) ⟨h4,ai h3,hP.nd,hP.lo⟩ h5
end
theorem Dr(f g:Int)(tf tg:Tok)(s:Shared)(hit:hs[(Yh k).toNat]? =none)(hP:az (pW W) ([(Y5 aI aH k),(Yk aH hs eph),(A aB,ab (tp g tg) epb)]) s){Q:Prop}(kQ:∀(n tb:Nat) (s':Shared),Hn s n->Ht s tb->Runs (Yt W) ((Hd aI aB bl)) p0 ((Yt W).den (Ey aI aB)) [] s (.ret (.ok (.ret (bY g tg)))) s'->cL (pW W) s'->cG ([(kd aI k),(Yk aH hs eph),(A aB,Obj.mapSeq (fun _=>⟨[]⟩) (ab (tp g tg) epb))]) s'.heap->af ([(Y5 aI aH k),(Yk aH hs eph),(A aB,ab (tp g tg) epb)]) s s'->Q):Q:=by
 obtain⟨n,hn⟩:=hP.size
 obtain⟨tb,ht⟩:=hP.toks
 generalize hg:s.gens.size=gb
 ·have H:=Eq.mpr (se W p0 bl aI aH aB hs eph epb k f g tf tg n tb gb (fun ev nk tk fin l=>fin=true/\((ev=(.fin (.ret (.ok (.ret (bY g tg)))))/\l=ax ([(kd aI k),(Yk aH hs eph),(A aB,Obj.mapSeq (fun _=>⟨[]⟩) (ab (tp g tg) epb))]))/\677<=tk)) _ rfl _ rfl) (by
   refine rI (by first|exact⟨rfl,rfl,hit⟩|exact⟨rfl,rfl⟩|exact⟨rfl,rfl,rfl⟩|exact⟨rfl,⟨rfl,rfl,rfl⟩,⟨rfl,rfl,rfl⟩,rfl⟩) ?_
   exact ag ⟨rfl,⟨rfl,rfl⟩,eQ⟩ _)
  obtain⟨ev,s',l,r,⟨⟨rfl,rfl⟩,htk⟩,h3,h4,h5⟩:=dp (is:=[0,1,2]) (by exact⟨fun _=>ce,trivial⟩) (by exact trivial) hP hn ht hg rfl (by rintro ev nk tk l ⟨⟨rfl,rfl⟩,h⟩;exact⟨rfl,h⟩) H
  exact kQ n tb s' hn ht (by rw [bG];exact r) h4 (ai h3) h5
end
abbrev Lk a:=(⟨[.ref (A (cQ a)),.none,.ref (A (dD a))],[]⟩:Args)
abbrev mD a b:=(db a b,ix)
section
variable(W:WW)(p0:Pos)(bl:List nV)(aH:Nat)(hs:Array Value)(eph:Nat)(s:Shared)(hP:az (pW W) ([(Yk aH hs eph)]) s)
include W p0 bl aH hs eph s hP
theorem wf{Q:Prop}(kQ:∀(n tb:Nat) (s':Shared),Hn s n->Ht s tb->cp (Yt W) (⟨.builtin "min" (oV aH),none,none,bl,none⟩) (.builtin "min.loop" (Lk n)) p0 s s'->az (pW W) ([(Yk aH hs eph),(db n 0,Yf aH),(mD n 1)]) s'->af ([(Yk aH hs eph)]) s s'->Q):Q:=by
 obtain⟨n,tb,gb,hn,ht,hg⟩:=hP.nt
 have hE:= @rfl qx fun W=>[(Yk aH hs eph)]
 refine bT hE hP hn ht hg (fun eX W Z hX=>ch (oX W 1) 51 (⟨.builtin "min" (oV aH),none,none,bl,none⟩) (p0) (a8 (.builtin "min" (oV aH))) [] hX (cN eX n tb gb) (lY Z)) (fun eX W Z hX=>ad (lE eX) (A n) gb (sl hX 0 4) (Z (.again (.builtin "min.loop" (Lk n))) (Y2 n 2) (Y8 tb 0) true (ax ([(Yk aH hs eph),(db n 0,Yf aH),(mD n 1)])))) (fun _=>[1,1,1,2,3000]) (iX (by kernel_rfl)) rfl trivial (by exact trivial) rfl fun hX=>?_
 exact rF fun s' r _ h3 h4 h5=>kQ n tb s' hn ht (cf r) ⟨h4,ai h3,Nd hP hn,Mj hP⟩ h5
theorem uM{Q:Prop}(kQ:∀(n tb:Nat) (s':Shared),Hn s n->Ht s tb->cp (Yt W) (⟨.builtin "max" (oV aH),none,none,bl,none⟩) (.builtin "max.loop" (Lk n)) p0 s s'->az (pW W) ([(Yk aH hs eph),(db n 0,Yf aH),(mD n 1)]) s'->af ([(Yk aH hs eph)]) s s'->Q):Q:=by
 obtain⟨n,tb,gb,hn,ht,hg⟩:=hP.nt
 have hE:= @rfl qx fun W=>[(Yk aH hs eph)]
 refine bT hE hP hn ht hg (fun eX W Z hX=>ch (oX W 1) 51 (⟨.builtin "max" (oV aH),none,none,bl,none⟩) (p0) (a8 (.builtin "max" (oV aH))) [] hX (cN eX n tb gb) (lY Z)) (fun eX W Z hX=>ad (lE eX) (A n) gb (sl hX 0 4) (Z (.again (.builtin "max.loop" (Lk n))) (Y2 n 2) (Y8 tb 0) true (ax ([(Yk aH hs eph),(db n 0,Yf aH),(mD n 1)])))) (fun _=>[1,1,1,2,3000]) (iX (by kernel_rfl)) rfl trivial (by exact trivial) rfl fun hX=>?_
 exact rF fun s' r _ h3 h4 h5=>kQ n tb s' hn ht (cf r) ⟨h4,ai h3,Nd hP hn,Mj hP⟩ h5
end
noncomputable def D1(a b:Int×Int×UInt64):Bool:=Float64.cmp a.2.2 b.2.2==some (compare (a.2.1*b.1) (b.2.1*a.1))
noncomputable def iJ:List (Int×Int×UInt64):=[(1,Int.negSucc 9,4584664420663164928),(1,Int.negSucc 8,4585415020601060011),(1,Int.negSucc 7,4586165620538955093),(1,Int.negSucc 6,4586916220476850176),(1,Int.negSucc 5,4587666820414745259),(1,Int.negSucc 4,4588417420352640341),(1,Int.negSucc 3,4589168020290535424),(1,Int.negSucc 2,4589543320259482965),(1,Int.negSucc 1,4589918620228430507),(1,Int.negSucc 0,4590293920197378048),(1,0,4590669220166325589),(1,1,4591044520135273131),(1,2,4591419820104220672),(1,3,4591795120073168213),(1,4,4592170420042115755),(1,5,4592545720011063296),(1,6,4592921019980010837),(1,7,4593296319948958379),(1,8,4593671619917905920),(1,9,4593859269902379691),(1,10,4594046919886853461),(2,Int.negSucc 9,4588417420352640341),(2,Int.negSucc 8,4588792720321587883),(2,Int.negSucc 7,4589168020290535424),(2,Int.negSucc 6,4589355670275009195),(2,Int.negSucc 5,4589543320259482965),(2,Int.negSucc 4,4589730970243956736),(2,Int.negSucc 3,4589918620228430507),(2,Int.negSucc 2,4590106270212904277),(2,Int.negSucc 1,4590293920197378048),(2,Int.negSucc 0,4590481570181851819),(2,0,4590669220166325589),(2,1,4590856870150799360),(2,2,4591044520135273131),(2,3,4591232170119746901),(2,4,4591419820104220672),(2,5,4591607470088694443),(2,6,4591795120073168213),(2,7,4591982770057641984),(2,8,4592170420042115755),(2,9,4592358070026589525),(2,10,4592545720011063296),(3,Int.negSucc 9,4589418220269833785),(3,Int.negSucc 8,4589543320259482965),(3,Int.negSucc 7,4589668420249132145),(3,Int.negSucc 6,4589793520238781327),(3,Int.negSucc 5,4589918620228430507),(3,Int.negSucc 4,4590043720218079687),(3,Int.negSucc 3,4590168820207728868),(3,Int.negSucc 2,4590293920197378048),(3,Int.negSucc 1,4590419020187027228),(3,Int.negSucc 0,4590544120176676409),(3,0,4590669220166325589),(3,1,4590794320155974771),(3,2,4590919420145623949),(3,3,4591044520135273131),(3,4,4591169620124922312),(3,5,4591294720114571491),(3,6,4591419820104220672),(3,7,4591544920093869853),(3,8,4591670020083519032),(3,9,4591795120073168213),(3,10,4591920220062817395),(4,Int.negSucc 9,4589730970243956736),(4,Int.negSucc 8,4589824795236193621),(4,Int.negSucc 7,4589918620228430507),(4,Int.negSucc 6,4590012445220667392),(4,Int.negSucc 5,4590106270212904277),(4,Int.negSucc 4,4590200095205141163),(4,Int.negSucc 3,4590293920197378048),(4,Int.negSucc 2,4590387745189614933),(4,Int.negSucc 1,4590481570181851819),(4,Int.negSucc 0,4590575395174088704),(4,0,4590669220166325589),(4,1,4590763045158562475),(4,2,4590856870150799360),(4,3,4590950695143036245),(4,4,4591044520135273131),(4,5,4591138345127510016),(4,6,4591232170119746901),(4,7,4591325995111983787),(4,8,4591419820104220672),(4,9,4591513645096457557),(4,10,4591607470088694443),(5,Int.negSucc 9,4589918620228430507),(5,Int.negSucc 8,4589993680222220015),(5,Int.negSucc 7,4590068740216009523),(5,Int.negSucc 6,4590143800209799032),(5,Int.negSucc 5,4590218860203588540),(5,Int.negSucc 4,4590293920197378048),(5,Int.negSucc 3,4590368980191167556),(5,Int.negSucc 2,4590444040184957064),(5,Int.negSucc 1,4590519100178746573),(5,Int.negSucc 0,4590594160172536081),(5,0,4590669220166325589),(5,1,4590744280160115097),(5,2,4590819340153904605),(5,3,4590894400147694115),(5,4,4590969460141483623),(5,5,4591044520135273131),(5,6,4591119580129062639),(5,7,4591194640122852147),(5,8,4591269700116641656),(5,9,4591344760110431164),(5,10,4591419820104220672)]
theorem wn:(iJ.all fun a=>bf a.1 a.2.1==a.2.2)=true:=by decide+kernel
theorem qq:((List.range 5).all fun i=>(List.range 21).all fun j=>iJ.any fun a=>a.1==Int.ofNat i+1&&a.2.1==Int.ofNat j-10)=true:=by decide+kernel
theorem BG:(iJ.all fun a=>iJ.all fun b=>D1 a b)=true:=by decide+kernel
def cV(d:Int×Int):Prop:=1<=d.1/\d.1<=5/\-10<=d.2/\d.2<=10
theorem cV.range{d:Int×Int}(h:cV d):eS d.1 d.2:=by obtain⟨a,b,c,e⟩:=h;exact⟨a,b,by lia,by lia⟩
theorem ig{d:Int×Int}(h:cV d):∃a∈iJ,a.1=d.1/\a.2.1=d.2/\a.2.2=bf d.1 d.2:=by
 obtain⟨h1,h2,h3,h4⟩:=h
 have a:=List.all_eq_true.mp qq (d.1-1).toNat (List.mem_range.mpr (by lia))
 have b:=List.all_eq_true.mp a (d.2+10).toNat (List.mem_range.mpr (by lia))
 obtain⟨x,hx,e⟩:=List.any_eq_true.mp b
 rw [Bool.and_eq_true] at e
 have e1:=beq_iff_eq.mp e.1
 have e2:=beq_iff_eq.mp e.2
 have q1:Int.ofNat (d.1-1).toNat=d.1-1:=toNat_of_nonneg (by lia)
 have q2:Int.ofNat (d.2+10).toNat=d.2+10:=toNat_of_nonneg (by lia)
 have e1:x.1=d.1:=by lia
 have e2:x.2.1=d.2:=by lia
 refine⟨x,hx,e1,e2,?_⟩
 have z:=beq_iff_eq.mp (List.all_eq_true.mp wn x hx)
 rw [e1,e2] at z
 exact z.symm
theorem tC{d e:Int×Int}(hd:cV d)(he:cV e):Float64.cmp (bf d.1 d.2) (bf e.1 e.2)=some (compare (d.2*e.1) (e.2*d.1)):=by
 refine gQ fun Q zQ=>?_
 obtain⟨a,ha,a1,a2,a3⟩:=ig hd
 obtain⟨b,hb,b1,b2,b3⟩:=ig he
 refine zQ ?_
 have z:=List.all_eq_true.mp (List.all_eq_true.mp BG a ha) b hb
 unfold D1 at z
 have z:=beq_iff_eq.mp z
 rw [a1,a2,a3,b1,b2,b3] at z
 exact z
def aX(d e:Int×Int):Prop:=d.2*e.1<=e.2*d.1
theorem cq{a b c:Int×Int}(hb:0<b.1)(ha:0<a.1)(hc:0<c.1)(h1:aX a b)(h2:aX b c):aX a c:=by
 unfold aX at*
 have e1:a.2*b.1*c.1<=b.2*a.1*c.1:=mul_le_mul_of_nonneg_right h1 (by lia)
 have e2:b.2*c.1*a.1<=c.2*b.1*a.1:=mul_le_mul_of_nonneg_right h2 (by lia)
 have e3:(a.2*c.1)*b.1<=(c.2*a.1)*b.1:=by
  have:b.2*a.1*c.1=b.2*c.1*a.1:=by rw [Int.mul_assoc,Int.mul_comm a.1 c.1,<-Int.mul_assoc]
  have q1:(a.2*c.1)*b.1=a.2*b.1*c.1:=by rw [Int.mul_assoc,Int.mul_comm c.1 b.1,<-Int.mul_assoc]
  have q2:(c.2*a.1)*b.1=c.2*b.1*a.1:=by rw [Int.mul_assoc,Int.mul_comm a.1 b.1,<-Int.mul_assoc]
  lia
 exact Int.le_of_mul_le_mul_right e3 hb
theorem lR(a:Int×Int):aX a a:=Int.le_refl _
def cb(ds:List cw):Prop:=∀d∈ds,cV d
def cI(ds:List cw)(d:Int×Int):Prop:=d∈ds/\∀e∈ds,aX d e
theorem y0{d e:Int×Int}(hd:cV d)(he:cV e):(Float64.cmp (bf d.1 d.2) (bf e.1 e.2)==some .lt)=decide (d.2*e.1<e.2*d.1):=by
 rw [tC hd he]
 by_cases h:d.2*e.1<e.2*d.1
 ·rw [decide_eq_true h,show compare (d.2*e.1) (e.2*d.1)=.lt from Int.compare_eq_lt.mpr h];rfl
 ·rw [decide_eq_false h]
  have:compare (d.2*e.1) (e.2*d.1)≠.lt:=fun q=>h (Int.compare_eq_lt.mp q)
  revert this
  cases compare (d.2*e.1) (e.2*d.1)<;>intro this<;>first|rfl|exact absurd rfl this
theorem iw{d e:Int×Int}(hd:cV d)(he:cV e):(Float64.cmp (bf d.1 d.2) (bf e.1 e.2)==some .eq)=decide (d.2*e.1=e.2*d.1):=by
 rw [tC hd he]
 by_cases h:d.2*e.1=e.2*d.1
 ·rw [decide_eq_true h,show compare (d.2*e.1) (e.2*d.1)=.eq from Int.compare_eq_eq.mpr h];rfl
 ·rw [decide_eq_false h]
  have:compare (d.2*e.1) (e.2*d.1)≠.eq:=fun q=>h (Int.compare_eq_eq.mp q)
  revert this
  cases compare (d.2*e.1) (e.2*d.1)<;>intro this<;>first|rfl|exact absurd rfl this
theorem af.grow{E E':ae}{s s1 s2:Shared}(K1:af E s s1)(K2:af E' s1 s2)(h:∀a∈E'.map (·.1),a∈E.map (·.1)\/s.heap.objs.size<=a):af E s s2:=by
 refine⟨fun b o e hb=>K2.keep b o (K1.keep b o e hb) fun hm=>?_,K2.drawn.trans K1.drawn,K2.os.trans K1.os,Nat.le_trans K1.size K2.size⟩
 rcases h b hm with h|h
 ·exact hb h
 ·exact absurd (Heap.lt_size e) (Nat.not_lt.mpr h)
theorem az.swap{P:Params}{a b c:Nat×Obj}{s:Shared}(h:az P [a,b,c] s):az P [b,a,c] s:=by
 refine⟨h.rdy,⟨h.has.2.1,h.has.1,h.has.2.2.1,trivial⟩,?_,fun x hx=>h.lo x ?_⟩
 ·have:=h.nd
  simp only [map_cons,map_nil,List.nodup_cons,List.mem_cons,List.not_mem_nil,or_false,not_or,nodup_nil,and_true,not_false_eq_true] at this⊢
  obtain⟨⟨p,q⟩,r⟩:=this
  exact⟨⟨fun e=>p e.symm,r⟩,q⟩
 ·simp only [map_cons,map_nil,List.mem_cons,List.not_mem_nil,or_false] at hx⊢
  rcases hx with h|h|h
  ·exact .inr (.inl h)
  ·exact .inl h
  ·exact .inr (.inr h)
theorem bC.get{hs:Array Value}{ds:List (Int×Int)}(h:bC hs ds){k:Nat}{d:Int×Int}(e:ds[k]? =some d):∃t,hs[(Int.ofNat k).toNat]? =some (.float (bf d.1 d.2) t):=h.2 k d e
theorem bC.none{hs:Array Value}{ds:List (Int×Int)}(h:bC hs ds){k:Nat}(e:ds.drop k=[]):hs[(Int.ofNat k).toNat]? =none:=
 Array.getElem?_eq_none (by rw [h.1];exact List.drop_eq_nil_iff.mp e)
theorem cI.snoc{l:List cw}{d q:Int×Int}(h10:cb (l++[q]))(h:cI l d):cI (l++[q]) (if q.2*d.1<d.2*q.1 then q else d):=by
 have hd:=h10 d (mem_append_left _ h.1)
 have hq:=h10 q (mem_append_right _ (List.mem_singleton.mpr rfl))
 split
 ·rename_i hc
  refine⟨mem_append_right _ (List.mem_singleton.mpr rfl),fun e he=>?_⟩
  rcases List.mem_append.mp he with he|he
  ·have hee:=h10 e (mem_append_left _ he)
   exact cq (by have:=hd.1;lia) (by have:=hq.1;lia) (by have:=hee.1;lia) (show q.2*d.1<=d.2*q.1 by lia) (h.2 e he)
  ·rw [List.mem_singleton.mp he];exact lR q
 ·rename_i hc
  refine⟨mem_append_left _ h.1,fun e he=>?_⟩
  rcases List.mem_append.mp he with he|he
  ·exact h.2 e he
  ·rw [List.mem_singleton.mp he];show d.2*q.1<=q.2*d.1;lia
abbrev Hw(a:Int×Int)(b:Tok):Value:=.float (bf a.1 a.2) b
theorem Da(W:WW)(bl:List nV)(aI aH aB:Nat)(hs:Array Value)(eph:Nat)(ds:List cw)(hh:bC hs ds)(h10:cb ds):∀(rest:List cw) (k:Nat) (d:Int×Int) (t:Tok) (epb:Nat) (p0:Pos) (s:Shared),
  ds.drop k=rest->cI (ds.take k) d->az (pW W) [(Y5 aI aH k),(Yk aH hs eph),(A aB,ab ⟨[Hw d t,Hw d t]⟩ epb)] s->
  ∀Q:Prop,(∀(s':Shared) (d':Int×Int) (t':Tok),Runs (Yt W) (B5 aI aB bl) p0 ((Yt W).den (Ao aI aB)) [] s (.ret (.ok (.ret (.float (bf d'.1 d'.2) t')))) s'->cL (pW W) s'->s'.heap.get? (A aH)=some (ab hs eph)->af [(Y5 aI aH k),(Yk aH hs eph),(A aB,ab ⟨[Hw d t,Hw d t]⟩ epb)] s s'->cI ds d'->Q)->Q:=by
 intro rest0
 induction rest0 with
 |nil=>
  intro k d t epb p0 s hd hl hP Q kQ
  apply B4 (W:=W) (hit:=hh.none hd) (hP:=hP) (p0:=p0) (bl:=bl) (f:=0) (tf:=0) (kQ:=?kz17) ..
  case' kz17=>intro n tb s' _ _ r h1 h2 h3
  exact kQ s' d t r h1 h2.2.1 h3 (by rw [take_of_length_le (List.drop_eq_nil_iff.mp hd)] at hl;exact hl)
 |cons q rest ih=>
  intro k d t epb p0 s hd hl hP Q kQ
  obtain⟨hk,hd'⟩:=bw hd
  obtain⟨tq,hit⟩:=hh.get hk
  have hq10:=h10 q (mem_of_getElem? hk)
  have hd10:=h10 d (List.mem_of_mem_take hl.1)
  have hl':=cI.snoc (q:=q) (fun e he=>by
   rw [<-gj hk] at he
   exact h10 e (List.mem_of_mem_take he)) hl
  rw [<-gj hk] at hl'
  have hc:=y0 hq10 hd10
  by_cases hlt:q.2*d.1<d.2*q.1
  ·rw [if_pos hlt] at hl'
   apply qo (W:=W) (hit:=hit) (hc:=by rw [hc,decide_eq_true hlt]) (hP:=hP) (p0:=p0) (bl:=bl) (kQ:=?k14) ..
   case' k14=>intro n tb s1 _ _ H hP' K
   obtain⟨p',H⟩:=H
   refine ih (k+1) q tq epb p' s1 hd' hl' hP' _ fun s2 d2 t2 r h1 h2 h3 h4=>?_
   exact kQ s2 d2 t2 (H _ _ r) h1 h2 (K.trans (h3.cast rfl)) h4
  ·rw [if_neg hlt] at hl'
   apply qp (W:=W) (hit:=hit) (hc:=by rw [hc,decide_eq_false hlt]) (hP:=hP) (p0:=p0) (bl:=bl) (kQ:=?k15) ..
   case' k15=>intro n tb s1 _ _ H hP' K
   obtain⟨p',H⟩:=H
   refine ih (k+1) d t epb p' s1 hd' hl' hP' _ fun s2 d2 t2 r h1 h2 h3 h4=>?_
   exact kQ s2 d2 t2 (H _ _ r) h1 h2 (K.trans (h3.cast rfl)) h4
structure lQ where
 d:Int×Int
 t:Tok
theorem vf(W:WW)(bl:List nV)(aH:Nat)(hs:Array Value)(eph:Nat)(ds:List cw)(hh:bC hs ds)(h10:cb ds)(hne:ds≠[]):
  cm (Vw W) ⟨.builtin "min" (oV aH),none,none,bl,none⟩ [(Yk aH hs eph)] (fun x:lQ=>(.ok (.ret (.float (bf x.d.1 x.d.2) x.t)),[ab hs eph],[])) (fun x=>cI ds x.d):=by
 intro p s hP
 obtain⟨q,rest,rfl⟩:∃q rest,ds=q::rest:=by cases ds with|nil=>exact(hne rfl).elim|cons q r=>exact⟨q,r,rfl⟩
 apply wf (W:=W) (bl:=bl) (p0:=p) (hP:=hP) (kQ:=?k17) ..
 case' k17=>intro n tb s1 hn _ zp16 hP1 K1
 obtain⟨p1,H1⟩:=zp16
 obtain⟨tq,hit⟩:=hh.get (k:=0) rfl
 apply vq (W:=W) (bl:=bl) (p0:=p1) (hit:=hit) (hP:=hP1.swap) (g:=0) (tg:=0) (kQ:=?kz18) ..
 case' kz18=>intro n2 tb2 s2 _ _ H2 hP2 K2
 obtain⟨p2,H2⟩:=H2
 refine Da W bl (cQ n) aH (dD n) hs eph (q::rest) hh h10 rest 1 q tq _ p2 s2 rfl ⟨by simp,fun e he=>by simp at he;rw [he];exact lR q⟩ hP2 _ fun s3 d3 t3 r h1 h2 K3 h4=>?_
 have K:af [(Yk aH hs eph)] s s3:=af.grow K1 (K2.trans (K3.cast rfl)) (by
  intro a ha
  simp only [map_cons,map_nil,List.mem_cons,List.not_mem_nil,or_false] at ha⊢
  rcases ha with rfl|rfl|rfl
  ·right;rw [hn];show n+245<=n+0+245;lia
  ·left;rfl
  ·right;rw [hn];show n+245<=n+1+245;lia)
 exact⟨⟨d3,t3⟩,s3,H1 _ _ (H2 _ _ r),h1,K,⟨h2,trivial⟩,trivial,(fun y hy=>nomatch hy),nodup_nil,h4⟩
noncomputable def rh(ds:List (Int×Int))(i mm ro:Nat):bL:=fun Γ p c st K=>match st.T.get i with
 |some ⟨cl,dd,.seq items ep,sl⟩=>((c=.builtin "min" ⟨[.ref (bm st.L st.n i)],[]⟩/\Γ.handled=none/\Γ.own=none/\Γ.past=none)/\Nat.ble 245 (bm st.L st.n i)=true/\(⟨cl,dd,.seq items ep,sl⟩:Obj)=ab items ep/\bC items ds)/\
   qe (X:=lQ) [(bm st.L st.n i,ab items ep)] [i] mm ro (fun x=>(.ok (.ret (.float (bf x.d.1 x.d.2) x.t)),[ab items ep],[])) (fun x=>cI ds x.d) st K
 |_=>False
theorem uz{w:World}{b1 b2:Bool}{ds:List (Int×Int)}{i:Nat}{V:XV}(hk:V.kt=eD (W2 w b1 b2).params)(h10:cb ds)(hne:ds≠[]):bX V (model pw (W2 w b1 b2)) (rh ds i V.mm V.ro):=by
 intro h0 d os Γ p c st K s H hΓ R
 unfold rh at H
 split at H
 ·rename_i cl dd items ep sl e1
  obtain⟨⟨⟨q,g1,g2,g3⟩,hb,-,hh⟩,H⟩:=H
  obtain⟨aH,ha⟩:∃aH,bm st.L st.n i=A aH:=⟨bm st.L st.n i-245,by have:245<=bm st.L st.n i:=le_of_ble_eq_true hb;show _=_+245;omega⟩
  rw [<-hΓ]
  refine fu hk (fun hP _=>?_) H R
  obtain⟨gc,gh,go,gb,gp⟩:=Γ
  have hΓ:gc=c:=hΓ
  have g1:gh=none:=g1
  have g2:go=none:=g2
  have g3:gp=none:=g3
  subst hΓ g1 g2 g3
  rw [q]
  rw [ha] at hP⊢
  exact vf ⟨w,b1,b2⟩ gb aH items ep ds hh h10 hne p s hP
 ·exact H.elim
theorem aY.get{js:Array Value}{l:List Nat}(h:aY js l){k j:Nat}(e:l[k]? =some j):∃t,js[(Int.ofNat k).toNat]? =some (.int (Int.ofNat j) t):=h.2 k j e
theorem aY.none{js:Array Value}{l:List Nat}(h:aY js l){k:Nat}(e:l.drop k=[]):js[(Int.ofNat k).toNat]? =none:=
 Array.getElem?_eq_none (by rw [h.1];exact List.drop_eq_nil_iff.mp e)
theorem DE(W:WW)(bl:List nV)(aI aH aB:Nat)(js:Array Value)(eph:Nat)(l:List Nat)(hh:aY js l):∀(rest:List Nat) (k g:Nat) (t:Tok) (epb:Nat) (p0:Pos) (s:Shared),
  l.drop k=rest->List.Pairwise (·<·) (g::rest)->az (pW W) [(Y5 aI aH k),(Yk aH js eph),(A aB,ab ⟨[.int (Yh g) t,.int (Yh g) t]⟩ epb)] s->
  ∀Q:Prop,(∀(s':Shared) (t':Tok),Runs (Yt W) (Hd aI aB bl) p0 ((Yt W).den (Ey aI aB)) [] s (.ret (.ok (.ret (.int (Int.ofNat ((g::rest).getLast (by simp))) t')))) s'->cL (pW W) s'->s'.heap.get? (A aH)=some (ab js eph)->af [(Y5 aI aH k),(Yk aH js eph),(A aB,ab ⟨[.int (Yh g) t,.int (Yh g) t]⟩ epb)] s s'->Q)->Q:=by
 intro rest0
 induction rest0 with
 |nil=>
  intro k g t epb p0 s hd hl hP Q kQ
  apply Dr (W:=W) (hit:=hh.none hd) (hP:=hP) (p0:=p0) (bl:=bl) (f:=0) (tf:=0) (kQ:=?kz19) ..
  case' kz19=>intro n tb s' _ _ r h1 h2 h3
  exact kQ s' t r h1 h2.2.1 h3
 |cons q rest ih=>
  intro k g t epb p0 s hd hl hP Q kQ
  obtain⟨hk,hd'⟩:=bw hd
  obtain⟨tq,hit⟩:=hh.get hk
  have hl2:=List.pairwise_cons.mp hl
  have hgt:g<q:=hl2.1 q (mem_cons_self ..)
  apply qM (W:=W) (hit:=hit) (hc:=decide_eq_true (show Int.ofNat q>Int.ofNat g from Int.ofNat_lt.mpr hgt)) (hP:=hP) (p0:=p0) (bl:=bl) (kQ:=?k18) ..
  case' k18=>intro n tb s1 _ _ H hP' K
  obtain⟨p',H⟩:=H
  refine ih (k+1) q tq epb p' s1 hd' hl2.2 hP' _ fun s2 t2 r h1 h2 h3=>?_
  exact kQ s2 t2 (by rw [List.getLast_cons (by simp)];exact H _ _ r) h1 h2 (K.trans (h3.cast rfl))
theorem vX(W:WW)(bl:List nV)(aH:Nat)(js:Array Value)(eph:Nat)(l:List Nat)(hh:aY js l)(hp:List.Pairwise (·<·) l)(hne:l≠[]):
  cm (Vw W) ⟨.builtin "max" (oV aH),none,none,bl,none⟩ [(Yk aH js eph)] (fun x:cA=>(.ok (.ret (.int (Int.ofNat (l.getLast hne)) x.t)),[ab js eph],[])) (fun _=>True):=by
 intro p s hP
 obtain⟨q,rest,rfl⟩:∃q rest,l=q::rest:=by cases l with|nil=>exact(hne rfl).elim|cons q r=>exact⟨q,r,rfl⟩
 apply uM (W:=W) (bl:=bl) (p0:=p) (hP:=hP) (kQ:=?k20) ..
 case' k20=>intro n tb s1 hn _ zp19 hP1 K1
 obtain⟨p1,H1⟩:=zp19
 obtain⟨tq,hit⟩:=hh.get (k:=0) rfl
 apply ut (W:=W) (bl:=bl) (p0:=p1) (hit:=hit) (hP:=hP1.swap) (g:=0) (tg:=0) (kQ:=?kz20) ..
 case' kz20=>intro n2 tb2 s2 _ _ H2 hP2 K2
 obtain⟨p2,H2⟩:=H2
 refine DE W bl (cQ n) aH (dD n) js eph (q::rest) hh rest 1 q tq _ p2 s2 rfl hp hP2 _ fun s3 t3 r h1 h2 K3=>?_
 have K:af [(Yk aH js eph)] s s3:=af.grow K1 (K2.trans (K3.cast rfl)) (by
  intro a ha
  simp only [map_cons,map_nil,List.mem_cons,List.not_mem_nil,or_false] at ha⊢
  rcases ha with rfl|rfl|rfl
  ·right;rw [hn];show n+245<=n+0+245;lia
  ·left;rfl
  ·right;rw [hn];show n+245<=n+1+245;lia)
 exact⟨⟨t3⟩,s3,H1 _ _ (H2 _ _ r),h1,K,⟨h2,trivial⟩,trivial,(fun y hy=>nomatch hy),nodup_nil,trivial⟩
structure jn where
 j:Nat
 t:Tok
noncomputable def rW(ds:List (Int×Int))(i mm ro:Nat):bL:=fun Γ p c st K=>match st.T.get i with
 |some ⟨cl,dd,.seq items ep,sl⟩=>((c=.builtin "max" ⟨[.ref (bm st.L st.n i)],[]⟩/\Γ.handled=none/\Γ.own=none/\Γ.past=none)/\Nat.ble 245 (bm st.L st.n i)=true/\(⟨cl,dd,.seq items ep,sl⟩:Obj)=ab items ep/\(∃d,cI ds d/\aY items (fg ds (bf d.1 d.2) ds.length)))/\
   qe (X:=jn) [(bm st.L st.n i,ab items ep)] [i] mm ro (fun x=>(.ok (.ret (.int (Int.ofNat x.j) x.t)),[ab items ep],[])) (fun x=>∃d,cI ds d/\(fg ds (bf d.1 d.2) ds.length).getLast? =some x.j) st K
 |_=>False
theorem ir(ds:List (Int×Int))(lf:UInt64)(k:Nat):List.Pairwise (·<·) (fg ds lf k):=List.Pairwise.filter _ List.pairwise_lt_range
theorem CO{ds:List (Int×Int)}(h10:cb ds){d:Int×Int}(h:d∈ds):fg ds (bf d.1 d.2) ds.length≠[]:=by
 obtain⟨i,hi⟩:=List.mem_iff_getElem?.mp h
 have hlt:=(List.getElem?_eq_some_iff.mp hi).1
 refine List.ne_nil_of_mem (a:=i) (List.mem_filter.mpr ⟨List.mem_range.mpr hlt,?_⟩)
 unfold gF
 rw [hi]
 show(Float64.cmp (bf d.1 d.2) (bf d.1 d.2)==some .eq)=true
 rw [iw (h10 d h) (h10 d h)]
 exact decide_eq_true rfl
theorem uu{w:World}{b1 b2:Bool}{ds:List cw}{i:Nat}{V:XV}(hk:V.kt=eD (W2 w b1 b2).params)(h10:cb ds):bX V (model pw (W2 w b1 b2)) (rW ds i V.mm V.ro):=by
 intro h0 dr os Γ p c st K s H hΓ R
 unfold rW at H
 split at H
 ·rename_i cl dd items ep sl e1
  obtain⟨⟨⟨q,g1,g2,g3⟩,hb,-,⟨d,hd,hh⟩⟩,H⟩:=H
  obtain⟨aH,ha⟩:∃aH,bm st.L st.n i=A aH:=⟨bm st.L st.n i-245,by have:245<=bm st.L st.n i:=le_of_ble_eq_true hb;show _=_+245;omega⟩
  rw [<-hΓ]
  refine fu hk (fun hP _=>?_) H R
  obtain⟨gc,gh,go,gb,gp⟩:=Γ
  have hΓ:gc=c:=hΓ
  have g1:gh=none:=g1
  have g2:go=none:=g2
  have g3:gp=none:=g3
  subst hΓ g1 g2 g3
  rw [q]
  rw [ha] at hP⊢
  have hne:=CO h10 hd.1
  obtain⟨x,s',r,h1,h2,h3,h4,h5,h6,_⟩:=vX ⟨w,b1,b2⟩ gb aH items ep _ hh (ir _ _ _) hne p s hP
  exact⟨⟨(fg ds (bf d.1 d.2) ds.length).getLast hne,x.t⟩,s',r,h1,h2,h3,h4,h5,h6,⟨d,hd,List.getLast?_eq_some_getLast hne⟩⟩
 ·exact H.elim
noncomputable def od:Value->Bool
 |.none=>true
 |.int _ _=>true
 |_=>false
noncomputable def bS:Value->Option Int
 |.int i _=>some i
 |_=>none
theorem nl{v:Value}(h:od v=true):IsPart v (bS v):=by
 cases v<;>first|exact IsPart.none|exact IsPart.int _ _|cases h
noncomputable def gP(i j:Nat)(vs:Array Value):bD:=fun Γ c st=>wA (st.T.get i) nO fun cl dd items _ _=>OK (st.T.get j) nO fun cl' vl vu v3=>
  (c=.builtin "list.__getitem__" ⟨[.ref (bm st.L st.n i),.ref (bm st.L st.n j)],[]⟩/\(cl=.type "list"/\cl'=.type "slice"/\v3=.none)/\(od vl&&od vu)=true/\items.size<=1000/\slicePick items (bS vl) (bS vu) none=vs,
   .alloc ⟨.type "list",none,.seq vs 0, #[]⟩ fun a=>ret (.ref a))
theorem jY{V:XV}{pr:Program}{w:World}{i j:Nat}{vs:Array Value}:bE V (model pr w) (gP i j vs):=by
 refine dQ fun{h0 d os Γ c st s p r s'} hΓ R=>e8 fW fun cl dd items n sl e1=>yE fW fun cl' vl vu v3 dd' sl' e2=>?_
 rintro⟨rfl,⟨rfl,rfl,rfl⟩,hp,hsz,rfl⟩ H
 rw [Bool.and_eq_true] at hp
 obtain⟨rfl,rfl⟩:=cK H
 have ho:=i9 R e1
 have hos:=i9 R e2
 have hTs:s.TypeIs (.ref (bm st.L st.n j)) "slice":=⟨_,hos,rfl⟩
 refine dw PySem.entry_list_getitem (by rw [hΓ];rfl) ?_
 show wpAny _ _ (Builtin.List.listSubscript? (.ref (bm st.L st.n j))>>=_) _ _ s
 refine wpAny_bind ?_
 unfold Builtin.List.listSubscript?
 refine wpAny_bind (wpAny_specialOf hTs slice_no_index ?_)
 simp only [Option.isNone_none,if_true]
 refine wpAny_pure ?_
 show wpAny _ _ (typeOf (.ref (bm st.L st.n j))>>=_) _ _ s
 refine wpAny_bind (wpAny_typeOf hTs ?_)
 rw [if_neg (by decide)]
 rw [listSliceParts_eq]
 have hstep:¬((rawPart none==rawInt 0)=true):=Bool.false_ne_true
 refine wpAny_bind (wpAny_bind (wpAny_field hos rfl (x:=.none) rfl (wpAny_bind (wpAny_listPart IsPart.none ?_))))
 rw [if_neg hstep]
 refine wpAny_bind (wpAny_field hos rfl (x:=vl) rfl (wpAny_bind (wpAny_listPart (nl hp.1) ?_)))
 refine wpAny_bind (wpAny_field hos rfl (x:=vu) rfl (wpAny_bind (wpAny_listPart (nl hp.2) (wpAny_pure ?_))))
 refine wpAny_bind (m:=Builtin.List.listItems (.ref (bm st.L st.n i))) ?_
 unfold Builtin.List.listItems
 refine wpAny_bind (wpAny_seqItems ho rfl (wpAny_pure ?_))
 refine wpAny_bind (wpAny_of_eq (sliceIndices_raw (bS vl) (bS vu) none items.size (by simp)) ?_)
 exact wpAny_bind (wpAny_newObj_type (wpAny_pure ⟨rfl,rfl⟩) (Nat.le_trans (slicePick_size_le items _ _ _) (by rw [sizeLine_eq];lia)))
noncomputable def kE(items:Array Value)(k:Int):Value:=((seqIndex? k items.size).bind fun j=>items[j]?).getD .none
noncomputable def zW(W:WW)(vB:FB)(aF c1 c2 c3 c4:Nat)(ds:List (Int×Int))(iL iI iC i3 i4 iH mm ro:Nat):bL:=fun Γ p c st K=>wA (st.T.get iH) False fun _ _ items ep _=>M6 (st.T.get i4) False fun lf tl=>bC items ds/\
  kk (Vw W) ⟨ay (eK (pW W) (bg (ak (pW W)) (A aF) 231 [A c1,A c2,A c3,A c4]) (A (Nat.sub (bm st.L st.n iL) 245)) (A (Nat.sub (bm st.L st.n iI) 245)) (A (Nat.sub (bm st.L st.n iC) 245))),none,none,[(.whileLoop vB.wt vB.wb vB.we vB.wenv,vB.p3),(.func vB.f1 vB.n1,vB.p4),(.forLoop vB.te vB.i1 vB.bo1 vB.e1 vB.n3,vB.p7),(.func vB.f2 vB.n4,vB.p5),(.builtin "claim.caller" {},vB.p6)],none⟩ ([(A (Nat.sub (bm st.L st.n iL) 245),ah "dict" [] 0),(A (Nat.sub (bm st.L st.n iI) 245),aK "range_iterator" [.int (Int.ofNat 0) 0,.int (Int.ofNat ds.length) 0,.int 1 0]),(A (Nat.sub (bm st.L st.n iC) 245),ab ⟨[]⟩ 0),(A c3,⟨.type "cell",none,.cell (some (.ref (A (Nat.sub (bm st.L st.n iH) 245)))),⟨[]⟩⟩),(A c4,⟨.type "cell",none,.cell (some (.float lf tl)),⟨[]⟩⟩),(A (Nat.sub (bm st.L st.n iH) 245),ab items ep)]) [iL,iI,iC,i3,i4,iH] mm ro (rC W vB aF c1 c2 c3 c4 (Nat.sub (bm st.L st.n iL) 245) (Nat.sub (bm st.L st.n iI) 245) (Nat.sub (bm st.L st.n iC) 245) (Nat.sub (bm st.L st.n iH) 245) tl lf items ep ds) (fun x=>aY x.js (fg ds lf ds.length)) Γ p c st K
theorem vK(W:WW)(vB:FB)(aF c1 c2 c3 c4:Nat)(ds:List (Int×Int)){iL iI iC i3 i4 iH:Nat}{V:XV}(hk:V.kt=eD (pW W))(hlen:ds.length<=100)(hne:ds≠[]):bX V (model pw (Vw W)) (zW W vB aF c1 c2 c3 c4 ds iL iI iC i3 i4 iH V.mm V.ro):=by
 intro h0 d os Γ p c st K s H hΓ R
 revert H
 refine e8 (P:=(·->_)) (fun h=>h.elim) fun _ _ items ep _ _=>Gg (P:=(·->_)) (fun h=>h.elim) fun lf tl H=>?_
 exact ja hk (rS W vB aF c1 c2 c3 c4 (Nat.sub (bm st.L st.n iL) 245) (Nat.sub (bm st.L st.n iI) 245) (Nat.sub (bm st.L st.n iC) 245) (Nat.sub (bm st.L st.n iH) 245) tl lf items ep ds H.1 hlen hne) h0 d os Γ p c st K s H.2 hΓ R
noncomputable def kc(items:Array Value)(k:Int):Nat:=match kE items k with
 |.ref a=>a
 |_=>0
noncomputable def jh(i:Nat):bD:=fun Γ c st=>wA (st.T.get i) nO fun _ _ items _ _=>wO (AA c) nO fun b=>cn i (.ref (kc items b.1)) Γ c st
theorem rG{V:XV}{pr:Program}{w:World}{i:Nat}:bE V (model pr w) (jh i):=
 dQ fun hΓ R=>e8 fW fun _ _ _ _ _ _=>fA fW fun _ hc H=>bA _ _ _ _ _ _ _ _ _ _ hc hΓ R H
noncomputable def zR:Value->Bool
 |.ref _=>true
 |_=>false
theorem CW{l:List Value}{j:Nat}(h:j<l.length)(hr:l.all zR=true):(seqIndex? (Int.ofNat j) (Array.mk l).size).bind (fun i=>(Array.mk l)[i]?)=some (.ref (kc (Array.mk l) (Int.ofNat j))):=by
 have e:(seqIndex? (Int.ofNat j) (Array.mk l).size).bind (fun i=>(Array.mk l)[i]?)=some l[j]:=by
  rw [fJ (n:=(Array.mk l).size) h]
  show(Array.mk l)[j]? =some l[j]
  simp [h]
 have hd:kE (Array.mk l) (Int.ofNat j)=l[j]:=by unfold kE;rw [e];rfl
 rw [e]
 unfold kc
 rw [hd]
 have:=List.all_eq_true.mp hr l[j] (getElem_mem h)
 revert this
 cases l[j]<;>intro this<;>first|rfl|cases this
theorem sH{ds:List (Int×Int)}{j:Nat}(h:∃d,cI ds d/\(fg ds (bf d.1 d.2) (List.length ds)).getLast? =some j):j<ds.length:=by
 obtain⟨d,_,e⟩:=h
 have:=List.mem_of_getLast? e
 unfold fg at this
 exact List.mem_range.mp (List.mem_filter.mp this).1
abbrev Tr:=Ev->Nat->Nat->Bool->List wX->List df->Prop
noncomputable def Ce{X:Type}(w':World)(G:Ctx)(E:ae)(is:List Nat)(mm ro:Nat)(out:X->Result×List Obj×ae)(fo:X->ae)(cond:X->Prop):bL:=fun Γ p c st K=>Γ=G/\tQ E is mm ro out fo cond st K
theorem oo{X:Type}{w':World}{G:Ctx}{E:ae}{is:List Nat}{V:XV}{fz:List (Nat×Obj)}{out:X->Result×List Obj×ae}{fo:X->ae}{cond:X->Prop}(hk:V.kt=eD w'.params)(hc:cv w' G E fz out fo cond)(hm:∀x∈fz,x∈V.fz):bX V (model pw w') (Ce w' G E is V.mm V.ro out fo cond):=by
 intro h0 d os Γ p c st K s H hΓ R
 obtain⟨rfl,H⟩:=H
 subst hΓ
 exact kR hk (fun hP hf=>hc p s hP fun x hx=>hf x (mem_append_left _ (hm x hx))) H R
noncomputable def cY(v:Value)(xs:Array Value):Array Value:=⟨v::xs.toList⟩
noncomputable def yh(i:Nat):bD:=fun Γ c st=>wA (st.T.get i) nO fun cl dd items _ sl=>wO (DO c) nO fun b=>
  (c=.builtin "list.insert" ⟨[.ref (bm st.L st.n i),.int 0 b.2.1,b.2.2],[]⟩/\(cl=.type "list"/\dd=none/\sl=⟨[]⟩)/\items.size<=1000,.update (bm st.L st.n i) none (Obj.mapSeq (cY b.2.2)) fun _=>ret .none)
theorem pz(v:Value):(fun xs:Array Value=>have k:=if(0:Int)<0 then((0:Int)+((xs.size:Nat):Int)).toNat else min (0:Int).toNat xs.size;(xs.extract 0 k).push v++xs.extract k)=cY v:=by
 funext xs
 unfold cY
 apply Array.ext'
 simp
theorem wh{V:XV}{pr:Program}{w:World}{i:Nat}:bE V (model pr w) (yh i):=by
 refine dQ fun hΓ R=>e8 fW fun cl dd items n sl e1=>fA fW fun b=>?_
 rintro⟨rfl,⟨rfl,rfl,rfl⟩,hb⟩ H
 obtain⟨_,rfl,rfl⟩:=cK H
 rw [bh PySem.F.entry_list_insert]
 have hm:=fun a=>PySem.AutoListH.list_insert_list_int_val_1 a items n 0 b.2.1 b.2.2 (by decide) (by rw [sizeLine_eq];lia)
 rw [pz] at hm
 exact bu (hm _) (by rw [hΓ];rfl) ⟨i9 R e1,rfl,rfl⟩
noncomputable def dF(P:Params):Stmt:=fH (be (gK P)) 1
noncomputable def jM(P:Params):List Stmt:=bk (fH (bk (dF P)) 0)
noncomputable def bj(P:Params)(aF c1:Nat):Env:=bg (gK P) (A aF) 219 [A c1]
noncomputable def fj(P:Params)(aF c1 it:Nat):Code:=gm (dF P) (A it) (bj P aF c1)
noncomputable def gL(P:Params)(aF c1:Nat):Code:=.whileLoop (kH (fH (jM P) 2)) (bk (fH (jM P) 2)) (kF (fH (jM P) 2)) (bj P aF c1)
noncomputable def fi(P:Params):Expr:=nf (mH (fH (jM P) 4))
noncomputable def eB(P:Params):Expr:=nf (mH (fH (jM P) 5))
noncomputable def GK:Stmt->Expr
 |.If t _ _ _=>t
 |_=>.Constant .none 0 default
noncomputable def BO:Expr->Expr
 |.Compare _ _ (r::_) _=>r
 |e=>e
noncomputable def Fp:Expr->Expr
 |.Subscript v _ _=>v
 |e=>e
noncomputable def ff(P:Params):Expr:=nf (Fp (BO (GK (fH (jM P) 6))))
noncomputable def ao(e:Expr)(outer:Env)(L it acc:Nat):Code:=.compLoop e 0 (Yp it) (Yp acc) (lk e outer (A L))
theorem m5{L B:Nat}{t u:Tok}{l}(hB:B=2\/B=3):av (.builtin "int.__mod__" ⟨[.int (Int.ofNat L) t,.int (Int.ofNat B) u],[]⟩) l (.int (Int.ofNat (L % B))):=by
 refine av.mk PySem.F.entry_int_mod ?_ trivial
 have e:∀(b:Nat),(Int.ofNat L).fmod (Int.ofNat b)=Int.ofNat (L % b):=fun b=>by cases L<;>cases b<;>simp [Int.fmod]<;>rfl
 rcases hB with rfl|rfl
 ·rw [<-e];exact PySem.AutoIntG6.int___mod___int_int_1 (Int.ofNat L) t (Int.ofNat 2) u (by decide)
 ·rw [<-e];exact PySem.AutoIntG6.int___mod___int_int_1 (Int.ofNat L) t (Int.ofNat 3) u (by decide)
theorem wg{L B:Nat}{t u:Tok}{l}(hB:B=2\/B=3):av (.builtin "int.__floordiv__" ⟨[.int (Int.ofNat L) t,.int (Int.ofNat B) u],[]⟩) l (.int (Int.ofNat (L/B))):=by
 refine av.mk PySem.F.entry_int_floordiv ?_ trivial
 have e:∀(b:Nat),(Int.ofNat L).fdiv (Int.ofNat b)=Int.ofNat (L/b):=fun b=>by cases L<;>cases b<;>simp [Int.fdiv]<;>rfl
 rcases hB with rfl|rfl
 ·rw [<-e];exact PySem.AutoIntG4.int___floordiv___int_int_1 (Int.ofNat L) t (Int.ofNat 2) u (by decide) (fun h=>Bool.false_ne_true h)
 ·rw [<-e];exact PySem.AutoIntG4.int___floordiv___int_int_1 (Int.ofNat L) t (Int.ofNat 3) u (by decide) (fun h=>Bool.false_ne_true h)
abbrev Yi:=(Rf (.type "list":Value))/\((Rf (none:Option Addr))/\(Rf (Array.mk []:Array (Option Value))))
noncomputable abbrev eH:=[98,97,115,101]
noncomputable abbrev gE:=[112,111,108,121]
noncomputable abbrev iZ:=[102,105,103,117,114,101,115]
noncomputable abbrev co a b:=(.int (Yh a) b:Value)
noncomputable abbrev iT:=[108,101,102,116]
abbrev rJ(a:Array Value):=Yi/\(a.size.le 1000)
noncomputable abbrev G4:=[116,101,120,116]
noncomputable abbrev Ga:=[116,111,108,100]
section
variable(W:WW)(b7:Bool)(p0:Pos)(vA:FA)(aF c1 aV aO aG B L:Nat)(u1 u2 u3 u4 u5 u6 u7 u8 tB tL:Tok)(vPl vTx vTo:Value)(gs:Array Value)(epG:Nat)(s:Shared)
include W b7 p0 vA aF c1 aV aO aG B L u1 u2 u3 u4 u5 u6 u7 u8 tB tL vPl vTx vTo gs epG s
theorem tD(hgt:decide (Int.ofNat L>0)=true)(hB:B=2\/B=3)(hsz:gs.size<=1000)(E:WW->ae)(hE:E=fun W=>[(A aF,ah "frame" ([aa (pW W) gE u1 (Yp aV),aa (pW W) eH u2 (co B tB),aa (pW W) Yq u3 (Yp aO),aa (pW W) mj u4 vPl,aa (pW W) iZ u5 (Yp aG),aa (pW W) iT u6 (co L tL)]++(cond b7 [] [aa (pW W) G4 u7 vTx,aa (pW W) Ga u8 vTo])) (cond b7 6 8)),(Yk aG gs epG)])(hP:az (pW W) (E W) s){Q:Prop}(kQ:∀(n tb:Nat) (s':Shared),Hn s n->Ht s tb->br (Yt W) (⟨gL (pW W) aF c1,none,none,(Y1 vA),none⟩) p0 s s'->az (pW W) ([(A aF,ah "frame" ([aa (pW W) gE u1 (Yp aV),aa (pW W) eH u2 (co B tB),aa (pW W) Yq u3 (Yp aO),aa (pW W) mj u4 vPl,aa (pW W) iZ u5 (Yp aG),aa (pW W) iT u6 (.int (Int.ofNat (L/B)) (Y8 tb 3))]++(cond b7 [] [aa (pW W) G4 u7 vTx,aa (pW W) Ga u8 vTo])) (cond b7 6 8)),(A aG,Obj.mapSeq (cY (.int (Int.ofNat (L % B)) (Y8 tb 2))) (ab gs epG))]) s'->af (E W) s s'->Q):Q:=by
 obtain⟨n,tb,gb,hn,ht,hg⟩:=hP.nt
 refine bT hE hP hn ht hg (fun E W Z hs=>ch (ec (Vw W) 2 [po,(gf [] (.int (Int.ofNat (L % B)))),(yh 1),(gf [] (.int (Int.ofNat (L/B))))] [] [] []) 92 (⟨gL (pW W) aF c1,none,none,(Y1 vA),none⟩) (p0) (a8 (gL (pW W) aF c1)) [] hs (cN E n tb gb) (kZ [0,1] Z)) (fun E W Z hs=>ad (lE E) (A n) gb (sl hs 0 1) ((av (.builtin "int.__gt__" ⟨[(co L tL),(.int Yx (TK tb))],[]⟩) [] wB/\Yc)/\ad (lE E) (A n) gb (sl hs 2 7) ((av (.builtin "int.__mod__" ⟨[(co L tL),(co B tB)],[]⟩) [] (Made.int (Int.ofNat (L % B)))/\Yc)/\ad (lE E) (A n) gb (sl hs 10 1) (((Rf (.builtin "list.insert" ⟨[(Yp aG),(.int Yx (Y8 tb 1)),(.int (Int.ofNat (L % B)) (Y8 tb 2))],[]⟩:Code))/\(rJ gs))/\ad (lE E) (A n) gb (sl hs 12 3) ((av (.builtin "int.__floordiv__" ⟨[(co L tL),(co B tB)],[]⟩) [] (Made.int (Int.ofNat (L/B)))/\Yc)/\ad (lE E) (A n) gb (sl hs 16 2) (Z (.again (gL (pW W) aF c1)) (Y2 n 0) (Y8 tb 5) true (ax ([(A aF,ah "frame" ([aa (pW W) gE u1 (Yp aV),aa (pW W) eH u2 (co B tB),aa (pW W) Yq u3 (Yp aO),aa (pW W) mj u4 vPl,aa (pW W) iZ u5 (Yp aG),aa (pW W) iT u6 (.int (Int.ofNat (L/B)) (Y8 tb 3))]++(cond b7 [] [aa (pW W) G4 u7 vTx,aa (pW W) Ga u8 vTo])) (cond b7 6 8)),(A aG,Obj.mapSeq (cY (.int (Int.ofNat (L % B)) (Y8 tb 2))) (ab gs epG))])))))))) (fun _=>[1,4000,1,2,2,2,2,1,1,4001,2,4002,2,1,1,4003,1,1,3000]) (by apply iR b7<;>exact iX (by kernel_rfl)) rfl ⟨fun _=>au,fun _=>au,fun _=>wh,fun _=>au,trivial⟩ trivial rfl fun hs=>?_
 refine rI ⟨lB hgt,rfl⟩ ?_
 refine rI ⟨m5 hB,rfl⟩ ?_
 refine rI ⟨rfl,⟨rfl,rfl,rfl⟩,hsz⟩ ?_
 refine rI ⟨wg hB,rfl⟩ ?_
 exact rF fun s' r _ h3 h4 h5=>kQ n tb s' hn ht (am rfl r) ⟨h4,ai h3,(nx hE hP).nd,(nx hE hP).lo⟩ h5
theorem tS(hgt:decide (Int.ofNat L>0)=false)(E:WW->ae)(hE:E=fun W=>[(A aF,ah "frame" ([aa (pW W) gE u1 (Yp aV),aa (pW W) eH u2 (co B tB),aa (pW W) Yq u3 (Yp aO),aa (pW W) mj u4 vPl,aa (pW W) iZ u5 (Yp aG),aa (pW W) iT u6 (co L tL)]++(cond b7 [] [aa (pW W) G4 u7 vTx,aa (pW W) Ga u8 vTo])) (cond b7 6 8)),(Yk aG gs epG)])(hP:az (pW W) (E W) s){Q:Prop}(kQ:∀(n tb:Nat) (s':Shared),Hn s n->Ht s tb->Runs (Yt W) (⟨gL (pW W) aF c1,none,none,(Y1 vA),none⟩) p0 ((Yt W).den (gL (pW W) aF c1)) [] s ft s'->cL (pW W) s'->cG ([(A aF,ah "frame" ([aa (pW W) gE u1 (Yp aV),aa (pW W) eH u2 (co B tB),aa (pW W) Yq u3 (Yp aO),aa (pW W) mj u4 vPl,aa (pW W) iZ u5 (Yp aG),aa (pW W) iT u6 (co L tL)]++(cond b7 [] [aa (pW W) G4 u7 vTx,aa (pW W) Ga u8 vTo])) (cond b7 6 8)),(Yk aG gs epG)]) s'.heap->af (E W) s s'->Q):Q:=by
 obtain⟨n,tb,gb,hn,ht,hg⟩:=hP.nt
 refine bT hE hP hn ht hg (fun E W Z hs=>ch (ec (Vw W) 2 [mu] [] [] []) 49 (⟨gL (pW W) aF c1,none,none,(Y1 vA),none⟩) (p0) (a8 (gL (pW W) aF c1)) [] hs (cN E n tb gb) (kZ [0,1] Z)) (fun E W Z hs=>ad (lE E) (A n) gb (sl hs 0 1) ((av (.builtin "int.__gt__" ⟨[(co L tL),(.int Yx (TK tb))],[]⟩) [] wx/\Yc)/\ad (lE E) (A n) gb [] (Z oW (Y2 n 0) (Y8 tb 1) true (ax ([(A aF,ah "frame" ([aa (pW W) gE u1 (Yp aV),aa (pW W) eH u2 (co B tB),aa (pW W) Yq u3 (Yp aO),aa (pW W) mj u4 vPl,aa (pW W) iZ u5 (Yp aG),aa (pW W) iT u6 (co L tL)]++(cond b7 [] [aa (pW W) G4 u7 vTx,aa (pW W) Ga u8 vTo])) (cond b7 6 8)),(Yk aG gs epG)]))))) (fun _=>[1,4000]) (by apply iR b7<;>exact iX (by kernel_rfl)) rfl ⟨fun _=>au,trivial⟩ trivial rfl fun hs=>?_
 refine rI ⟨lB hgt,rfl⟩ ?_
 exact rF fun s' r _ h3 h4 h5=>kQ n tb s' hn ht (by rw [bG];exact r) h4 (ai h3) h5
end
noncomputable def jJ(P:Params)(aV aO:Nat)(u1 u2 u3 u4 tB:Tok)(B:Nat)(vPl:Value)(rest:List DictEntry)(bP:Nat):Obj:=ah "frame" ([aa P gE u1 (Yp aV),aa P eH u2 (co B tB),aa P Yq u3 (Yp aO),aa P mj u4 vPl]++rest) bP
noncomputable abbrev Ea:=G4
noncomputable abbrev EG:=Ea
noncomputable abbrev D4:=Ga
noncomputable abbrev Et:=D4
def Ii(P:Params)(tl:List DictEntry)(bP:Nat):Prop:=(tl=[]/\bP=6)\/∃u7 u8 v7 v8,tl=[aa P EG u7 v7,aa P Et u8 v8]/\bP=8
noncomputable def dk(B:Nat):Nat->Nat->List Nat->List Nat
 |0,_,acc=>acc
 |f+1,L,acc=>if L=0 then acc else dk B f (L/B) (L % B::acc)
theorem jT(B:Nat):∀f acc,dk B f 0 acc=acc
 |0,_=>rfl
 |_+1,_=>if_pos rfl
theorem ml{gs:Array Value}{acc:List Nat}{d:Nat}{t:Tok}(h:aY gs acc):aY (cY (.int (Int.ofNat d) t) gs) (d::acc):=by
 refine⟨by simp [cY,h.1],fun i j e=>?_⟩
 cases i with
 |zero=>simp at e;subst e;exact⟨t,rfl⟩
 |succ i=>
  obtain⟨t',e'⟩:=h.2 i j (by simpa using e)
  exact⟨t',by simpa [cY] using e'⟩
section
variable(W:WW)(vA:FA)(aF c1 aV aO aG B:Nat)(u1 u2 u3 u4 u5 u6 tB:Tok)(vPl:Value)(tl:List DictEntry)(bP:Nat)(hB:B=2\/B=3)(htl:Ii (pW W) tl bP)
include W vA aF c1 aV aO aG B u1 u2 u3 u4 u5 u6 tB vPl tl bP hB htl
theorem Dp:∀(f L:Nat) (acc:List Nat) (gs:Array Value) (ep:Nat) (tL:Tok) (p0:Pos) (s:Shared),L<2^f->aY gs acc->gs.size+f<=900->az (pW W) [(A aF,jJ (pW W) aV aO u1 u2 u3 u4 tB B vPl ([aa (pW W) iZ u5 (Yp aG),aa (pW W) iT u6 (co L tL)]++tl) bP),(Yk aG gs ep)] s->
  ∀Q:Prop,(∀s' gs' ep' tL',Runs (Yt W) ⟨gL (pW W) aF c1,none,none,(Y1 vA),none⟩ p0 ((Yt W).den (gL (pW W) aF c1)) [] s ft s'->cL (pW W) s'->cG [(A aF,jJ (pW W) aV aO u1 u2 u3 u4 tB B vPl ([aa (pW W) iZ u5 (Yp aG),aa (pW W) iT u6 (.int Yx tL')]++tl) bP),(Yk aG gs' ep')] s'.heap->af [(A aF,jJ (pW W) aV aO u1 u2 u3 u4 tB B vPl ([aa (pW W) iZ u5 (Yp aG),aa (pW W) iT u6 (co L tL)]++tl) bP),(Yk aG gs ep)] s s'->aY gs' (dk B f L acc)->gs'.size<=900->Q)->Q:=by
 have fin:∀(acc:List Nat) (gs:Array Value) (ep:Nat) (tL:Tok) (p0:Pos) (s:Shared),aY gs acc->gs.size<=900->az (pW W) [(A aF,jJ (pW W) aV aO u1 u2 u3 u4 tB B vPl ([aa (pW W) iZ u5 (Yp aG),aa (pW W) iT u6 (.int Yx tL)]++tl) bP),(Yk aG gs ep)] s->
  ∀Q:Prop,(∀s' gs' ep' tL',Runs (Yt W) ⟨gL (pW W) aF c1,none,none,(Y1 vA),none⟩ p0 ((Yt W).den (gL (pW W) aF c1)) [] s ft s'->cL (pW W) s'->cG [(A aF,jJ (pW W) aV aO u1 u2 u3 u4 tB B vPl ([aa (pW W) iZ u5 (Yp aG),aa (pW W) iT u6 (.int Yx tL')]++tl) bP),(Yk aG gs' ep')] s'.heap->af [(A aF,jJ (pW W) aV aO u1 u2 u3 u4 tB B vPl ([aa (pW W) iZ u5 (Yp aG),aa (pW W) iT u6 (.int Yx tL)]++tl) bP),(Yk aG gs ep)] s s'->aY gs' acc->gs'.size<=900->Q)->Q:=by
  intro acc gs ep tL p0 s hg hsz hP Q kQ
  rcases htl with⟨rfl,rfl⟩|⟨u7,u8,v7,v8,rfl,rfl⟩
  ·apply tS (b7:=true) (L:=0) (u7:=0) (u8:=0) (vTx:=.none) (vTo:=.none) (p0:=p0) (hgt:=rfl) (hE:=rfl) (hP:=hP) (kQ:=?k21) ..
   case' k21=>intro n tb s' _ _ r h1 h2 h3
   exact kQ s' gs ep tL r h1 h2 h3 hg hsz
  ·apply tS (b7:=false) (L:=0) (p0:=p0) (hgt:=rfl) (hE:=rfl) (hP:=hP) (kQ:=?k22) ..
   case' k22=>intro n tb s' _ _ r h1 h2 h3
   exact kQ s' gs ep tL r h1 h2 h3 hg hsz
 intro f
 induction f with
 |zero=>
  intro L acc gs ep tL p0 s hL hg hsz hP Q kQ
  have:L=0:=by simpa using hL
  subst this
  exact fin acc gs ep tL p0 s hg (by lia) hP Q kQ
 |succ f ih=>
  intro L acc gs ep tL p0 s hL hg hsz hP Q kQ
  by_cases h0:L=0
  ·subst h0
   rw [jT] at kQ
   exact fin acc gs ep tL p0 s hg (by lia) hP Q kQ
  ·have hd:dk B (f+1) L acc=dk B f (L/B) (L % B::acc):=if_neg h0
   have hlt:L/B<2^f:=by
    have h2:L/B<=L/2:=Nat.div_le_div_left (by lia) (by lia)
    have:2^(f+1)=2*2^f:=by rw [Nat.pow_succ,Nat.mul_comm]
    lia
   have hsz':∀t,(cY (.int (Int.ofNat (L % B)) t) gs).size+f<=900:=fun t=>by simp [cY];lia
   rw [hd] at kQ
   have step:∀G:Prop,(∀s1 t ep' tL',br (Yt W) ⟨gL (pW W) aF c1,none,none,(Y1 vA),none⟩ p0 s s1->az (pW W) [(A aF,jJ (pW W) aV aO u1 u2 u3 u4 tB B vPl ([aa (pW W) iZ u5 (Yp aG),aa (pW W) iT u6 (.int (Int.ofNat (L/B)) tL')]++tl) bP),(A aG,ab (cY (.int (Int.ofNat (L % B)) t) gs) ep')] s1->af [(A aF,jJ (pW W) aV aO u1 u2 u3 u4 tB B vPl ([aa (pW W) iZ u5 (Yp aG),aa (pW W) iT u6 (co L tL)]++tl) bP),(Yk aG gs ep)] s s1->G)->G:=by
    intro G kG
    rcases htl with⟨rfl,rfl⟩|⟨u7,u8,v7,v8,rfl,rfl⟩
    ·apply tD (b7:=true) (L:=L) (u7:=0) (u8:=0) (vTx:=.none) (vTo:=.none) (p0:=p0) (hgt:=decide_eq_true (Int.ofNat_lt.mpr (Nat.pos_of_ne_zero h0))) (hB:=hB) (hsz:=by lia) (hE:=rfl) (hP:=hP) (kQ:=?k23) ..
     case' k23=>intro n tb s1 _ _ H hP1 K
     exact kG s1 _ _ _ H hP1 K
    ·apply tD (b7:=false) (L:=L) (p0:=p0) (hgt:=decide_eq_true (Int.ofNat_lt.mpr (Nat.pos_of_ne_zero h0))) (hB:=hB) (hsz:=by lia) (hE:=rfl) (hP:=hP) (kQ:=?k24) ..
     case' k24=>intro n tb s1 _ _ H hP1 K
     exact kG s1 _ _ _ H hP1 K
   refine step _ fun s1 t ep1 tL1 zq1 hP1 K1=>?_
   obtain⟨p',H⟩:=zq1
   refine ih (L/B) (L % B::acc) _ ep1 tL1 p' s1 hlt (ml hg) (hsz' t) hP1 _ fun s2 gs2 ep2 tL2 r h1 h2 h3 h4 h5=>?_
   exact kQ s2 gs2 ep2 tL2 (H _ _ r) h1 h2 (K1.trans (h3.cast rfl)) h4 h5
structure B2 where
 gs:Array Value
 ep:Nat
 tL:Tok
noncomputable def xh(W:WW)(vA:FA)(aF c1 aV aO aG B:Nat)(u1 u2 u3 u4 u5 u6 tB:Tok)(vPl:Value)(tl:List DictEntry)(bP:Nat)(x:B2):Result×List Obj×ae:=(mV,([(A aF,jJ (pW W) aV aO u1 u2 u3 u4 tB B vPl ([aa (pW W) iZ u5 (Yp aG),aa (pW W) iT u6 (.int Yx x.tL)]++tl) bP),(A aG,ab x.gs x.ep)]:ae).map (·.2),[])
theorem vi(f L:Nat)(tL:Tok)(hL:L<2^f)(hf:f<=800):
  cm (Vw W) ⟨gL (pW W) aF c1,none,none,(Y1 vA),none⟩ [(A aF,jJ (pW W) aV aO u1 u2 u3 u4 tB B vPl ([aa (pW W) iZ u5 (Yp aG),aa (pW W) iT u6 (co L tL)]++tl) bP),(A aG,ix)] (xh W vA aF c1 aV aO aG B u1 u2 u3 u4 u5 u6 tB vPl tl bP) (fun x=>aY x.gs (dk B f L [])/\x.gs.size<=900):=by
 intro p0 s hP
 refine Dp W vA aF c1 aV aO aG B u1 u2 u3 u4 u5 u6 tB vPl tl bP hB htl f L [] ⟨[]⟩ 0 tL p0 s hL ⟨rfl,fun i j e=>by simp at e⟩ (by simp;lia) hP _ fun s' gs' ep' tL' r h1 h2 h3 h4 h5=>?_
 exact⟨⟨gs',ep',tL'⟩,s',r,h1,h3,⟨h2.1,h2.2.1,trivial⟩,trivial,(fun y hy=>nomatch hy),nodup_nil,h4,h5⟩
end
noncomputable abbrev tO:=[102,105,103,117,114,101]
noncomputable abbrev Ed:=tO
abbrev wI a b c:=((A a,⟨Yu,none,.cell (some (pG b c)),⟨[]⟩⟩):Nat×Obj)
theorem jD(W:WW)(b7:Bool){d7:Nat}{d8:Nat}(hz:d7=0/\d8=917536\/d7=1/\d8=917553\/d7=2/\d8=917631)(p0:Pos)(vA:FA)(aF c1 aL aI aC aG bc:Nat)(uF tf tbs:Tok)(vF:Value)(k:Nat)(gs as:Array Value)(epG epA:Nat)(s:Shared)(hit:gs[(Yh k).toNat]? =some (co d7 tf))(hsz:as.size<=1000)(E:WW->ae)(hE:E=fun W=>[(A aL,ah "dict" (cond b7 [] [aa (pW W) Ed uF vF]) (cond b7 0 1)),(Y5 aI aG k),(Yk aG gs epG),(Yk aC as epA),(wI c1 bc tbs)])(hP:az (pW W) (E W) s){Q:Prop}(kQ:∀(n tb:Nat) (s':Shared),Hn s n->Ht s tb->br (Yt W) (⟨ao (fi (pW W)) (bj (pW W) aF c1) aL aI aC,none,none,(Y1 vA),none⟩) p0 s s'->az (pW W) ([(A aL,ah "dict" [aa (pW W) Ed (cond b7 (TK tb) uF) (co d7 tf)] 1),(lS aI aG k),(Yk aG gs epG),(A aC,Obj.mapSeq (·.push (.str ⟨⟨[bc,d8]⟩⟩ (Y8 tb 5))) (ab as epA)),(wI c1 bc tbs)]) s'->af (E W) s s'->Q):Q:=by
 obtain⟨n,tb,gb,hn,ht,hg⟩:=hP.nt
 refine bT hE hP hn ht hg (fun E W Z hs=>ch (ec (Vw W) 5 [(bF 1 2 (co d7 tf)),(b9 3)] [] [] []) 96 (⟨ao (fi (pW W)) (bj (pW W) aF c1) aL aI aC,none,none,(Y1 vA),none⟩) (p0) (a8 (ao (fi (pW W)) (bj (pW W) aF c1) aL aI aC)) [] hs (cN E n tb gb) (kZ [0,1,2,3,4] Z)) (fun E W Z hs=>ad (lE E) (A n) gb (sl hs 0 2) (((Yo aI)/\((Ap aG)/\(((xS gs k):i6)=(some (co d7 tf)))))/\ad (lE E) (A n) gb (sl hs 3 14) (((Rf (.builtin "list.append" ⟨[(Yp aC),(.str (Str.mk ⟨[bc,d8]⟩) (Y8 tb 5))],[]⟩:Code))/\(rJ as))/\ad (lE E) (A n) gb (sl hs 18 1) (Z (.again (ao (fi (pW W)) (bj (pW W) aF c1) aL aI aC)) (Y2 n 1) (Y8 tb 6) true (ax ([(A aL,ah "dict" [aa (pW W) Ed (cond b7 (TK tb) uF) (co d7 tf)] 1),(lS aI aG k),(Yk aG gs epG),(A aC,Obj.mapSeq (·.push (.str ⟨⟨[bc,d8]⟩⟩ (Y8 tb 5))) (ab as epA)),(wI c1 bc tbs)])))))) (fun _=>[2,2,4000,2,2,1,1,5,0,0,1,6,6,6,6,6,4,4001,4,3000]) (by apply iR b7<;>(rcases hz with h|h|h<;>apply G0 h)<;>exact oU (by kernel_rfl)) rfl ⟨fun _=>bi,fun _=>bx,trivial⟩ trivial rfl fun hs=>?_
 refine rI ⟨rfl,rfl,hit⟩ ?_
 refine rI ⟨rfl,⟨rfl,rfl,rfl⟩,hsz⟩ ?_
 exact rF fun s' r _ h3 h4 h5=>kQ n tb s' hn ht (am rfl r) ⟨h4,ai h3,(nx hE hP).nd,(nx hE hP).lo⟩ h5
theorem ET(W:WW)(p0:Pos)(vA:FA)(aF c1 aL aI aC aG:Nat)(loc:List DictEntry)(k el:Nat)(gs as:Array Value)(epG epA:Nat)(s:Shared)(hit:gs[(Yh k).toNat]? =none)(E:WW->ae)(hE:E=fun W=>[(mw aL loc el),(Y5 aI aG k),(Yk aG gs epG),(Yk aC as epA)])(hP:az (pW W) (E W) s){Q:Prop}(kQ:∀(n tb:Nat) (s':Shared),Hn s n->Ht s tb->Runs (Yt W) (⟨ao (fi (pW W)) (bj (pW W) aF c1) aL aI aC,none,none,(Y1 vA),none⟩) p0 ((Yt W).den (ao (fi (pW W)) (bj (pW W) aF c1) aL aI aC)) [] s ft s'->cL (pW W) s'->cG (D2 aL loc el aI k aG gs epG aC as epA) s'.heap->af (E W) s s'->Q):Q:=by
 obtain⟨n,tb,gb,hn,ht,hg⟩:=hP.nt
 refine bT hE hP hn ht hg (fun E W Z hs=>ch (ul W 4 1 2) 53 (⟨ao (fi (pW W)) (bj (pW W) aF c1) aL aI aC,none,none,(Y1 vA),none⟩) (p0) (a8 (ao (fi (pW W)) (bj (pW W) aF c1) aL aI aC)) [] hs (cN E n tb gb) (mB Z)) (fun E W Z hs=>ad (lE E) (A n) gb (sl hs 0 2) ((uq aI aG gs k)/\ad (lE E) (A n) gb (sl hs 3 3) (Z (.fin ft) (Y2 n 2) (Y8 tb 0) true (ax ((Hr aL loc el aI k aG gs epG aC as epA)))))) (fun _=>[2,2,4000,2,2,6]) (oU (by kernel_rfl)) rfl ⟨fun _=>ce,trivial⟩ trivial rfl fun hs=>?_
 refine rI ⟨rfl,rfl,hit⟩ ?_
 exact rF fun s' r _ h3 h4 h5=>kQ n tb s' hn ht (by rw [bG];exact r) h4 (ai h3) h5
theorem EX(W:WW)(p0:Pos)(vA:FA)(aF c1 aL aI aC aG:Nat)(gs:Array Value)(epG:Nat)(s:Shared)(E:WW->ae)(hE:E=fun W=>(Y9 aL aI aG gs epG aC))(hP:az (pW W) (E W) s){Q:Prop}(kQ:∀(n tb:Nat) (s':Shared),Hn s n->Ht s tb->cp (Yt W) (⟨ay (ao (fi (pW W)) (bj (pW W) aF c1) aL aI aC),none,none,(Y1 vA),none⟩) (ao (fi (pW W)) (bj (pW W) aF c1) aL aI aC) p0 s s'->az (pW W) ((Y9 aL aI aG gs epG aC)) s'->af (E W) s s'->Q):Q:=by
 obtain⟨n,tb,gb,hn,ht,hg⟩:=hP.nt
 refine bT hE hP hn ht hg (fun E W Z hs=>ch (oX W 4) 52 (⟨ay (ao (fi (pW W)) (bj (pW W) aF c1) aL aI aC),none,none,(Y1 vA),none⟩) (p0) (a8 (ay (ao (fi (pW W)) (bj (pW W) aF c1) aL aI aC))) [] hs (cN E n tb gb) (mB Z)) (fun E W Z hs=>ad (lE E) (A n) gb (Aq hs W) (Z (.again (ao (fi (pW W)) (bj (pW W) aF c1) aL aI aC)) (Y2 n 0) (Y8 tb 0) true (ax ((Y9 aL aI aG gs epG aC))))) Ad (pc (by kernel_rfl)) rfl trivial (by exact trivial) rfl fun hs=>?_
 exact rF fun s' r _ h3 h4 h5=>kQ n tb s' hn ht (cf r) ⟨h4,ai h3,(nx hE hP).nd,(nx hE hP).lo⟩ h5
theorem jO(W:WW)(b7:Bool){d7:Nat}{d8:List Nat}{d9:Nat}(hz:d7=0/\d8=[32]/\d9=1\/d7=1/\d8=[124,49]/\d9=2\/d7=2/\d8=[124,127]/\d9=6)(p0:Pos)(vA:FA)(aF c1 aL aI aC aG:Nat)(uF tf:Tok)(vF:Value)(k:Nat)(gs as:Array Value)(epG epA:Nat)(s:Shared)(hit:gs[(Yh k).toNat]? =some (co d7 tf))(hsz:as.size<=1000)(E:WW->ae)(hE:E=fun W=>[(A aL,ah "dict" (cond b7 [] [aa (pW W) Ed uF vF]) (cond b7 0 1)),(Y5 aI aG k),(Yk aG gs epG),(Yk aC as epA)])(hP:az (pW W) (E W) s){Q:Prop}(kQ:∀(n tb:Nat) (s':Shared),Hn s n->Ht s tb->br (Yt W) (⟨ao (ff (pW W)) (bj (pW W) aF c1) aL aI aC,none,none,(Y1 vA),none⟩) p0 s s'->az (pW W) ([(A aL,ah "dict" [aa (pW W) Ed (cond b7 (TK tb) uF) (co d7 tf)] 1),(lS aI aG k),(Yk aG gs epG),(A aC,Obj.mapSeq (·.push (.str ⟨⟨d8⟩⟩ (Nat.add (TK tb) d9))) (ab as epA))]) s'->af (E W) s s'->Q):Q:=by
 obtain⟨n,tb,gb,hn,ht,hg⟩:=hP.nt
 refine bT hE hP hn ht hg (fun E W Z hs=>ch (ec (Vw W) 4 [(bF 1 2 (co d7 tf)),(b9 3)] [] [] []) 95 (⟨ao (ff (pW W)) (bj (pW W) aF c1) aL aI aC,none,none,(Y1 vA),none⟩) (p0) (a8 (ao (ff (pW W)) (bj (pW W) aF c1) aL aI aC)) [] hs (cN E n tb gb) (mB Z)) (fun E W Z hs=>ad (lE E) (A n) gb (sl hs 0 2) (((Yo aI)/\((Ap aG)/\(((xS gs k):i6)=(some (co d7 tf)))))/\ad (lE E) (A n) gb (sl hs 3 13) (((Rf (.builtin "list.append" ⟨[(Yp aC),(.str (Str.mk ⟨d8⟩) (Nat.add (TK tb) d9))],[]⟩:Code))/\(rJ as))/\ad (lE E) (A n) gb (sl hs 17 1) (Z (.again (ao (ff (pW W)) (bj (pW W) aF c1) aL aI aC)) (Y2 n 1) (Y8 tb 7) true (ax ([(A aL,ah "dict" [aa (pW W) Ed (cond b7 (TK tb) uF) (co d7 tf)] 1),(lS aI aG k),(Yk aG gs epG),(A aC,Obj.mapSeq (·.push (.str ⟨⟨d8⟩⟩ (Nat.add (TK tb) d9))) (ab as epA))])))))) (fun _=>[2,2,4000,2,2,1,1,0,0,1,5,5,5,5,5,4,4001,4,3000]) (by apply iR b7<;>(rcases hz with h|h|h<;>apply oK h)<;>exact oU (by kernel_rfl)) rfl ⟨fun _=>bi,fun _=>bx,trivial⟩ trivial rfl fun hs=>?_
 refine rI ⟨rfl,rfl,hit⟩ ?_
 refine rI ⟨rfl,⟨rfl,rfl,rfl⟩,hsz⟩ ?_
 exact rF fun s' r _ h3 h4 h5=>kQ n tb s' hn ht (am rfl r) ⟨h4,ai h3,(nx hE hP).nd,(nx hE hP).lo⟩ h5
theorem Fa(W:WW)(p0:Pos)(vA:FA)(aF c1 aL aI aC aG:Nat)(loc:List DictEntry)(k el:Nat)(gs as:Array Value)(epG epA:Nat)(s:Shared)(hit:gs[(Yh k).toNat]? =none)(E:WW->ae)(hE:E=fun W=>[(mw aL loc el),(Y5 aI aG k),(Yk aG gs epG),(Yk aC as epA)])(hP:az (pW W) (E W) s){Q:Prop}(kQ:∀(n tb:Nat) (s':Shared),Hn s n->Ht s tb->Runs (Yt W) (⟨ao (ff (pW W)) (bj (pW W) aF c1) aL aI aC,none,none,(Y1 vA),none⟩) p0 ((Yt W).den (ao (ff (pW W)) (bj (pW W) aF c1) aL aI aC)) [] s ft s'->cL (pW W) s'->cG (D2 aL loc el aI k aG gs epG aC as epA) s'.heap->af (E W) s s'->Q):Q:=by
 obtain⟨n,tb,gb,hn,ht,hg⟩:=hP.nt
 refine bT hE hP hn ht hg (fun E W Z hs=>ch (ul W 4 1 2) 53 (⟨ao (ff (pW W)) (bj (pW W) aF c1) aL aI aC,none,none,(Y1 vA),none⟩) (p0) (a8 (ao (ff (pW W)) (bj (pW W) aF c1) aL aI aC)) [] hs (cN E n tb gb) (mB Z)) (fun E W Z hs=>ad (lE E) (A n) gb (sl hs 0 2) ((uq aI aG gs k)/\ad (lE E) (A n) gb (sl hs 3 3) (Z (.fin ft) (Y2 n 2) (Y8 tb 0) true (ax ((Hr aL loc el aI k aG gs epG aC as epA)))))) (fun _=>[2,2,4000,2,2,6]) (oU (by kernel_rfl)) rfl ⟨fun _=>ce,trivial⟩ trivial rfl fun hs=>?_
 refine rI ⟨rfl,rfl,hit⟩ ?_
 exact rF fun s' r _ h3 h4 h5=>kQ n tb s' hn ht (by rw [bG];exact r) h4 (ai h3) h5
theorem GV(W:WW)(p0:Pos)(vA:FA)(aF c1 aL aI aC aG:Nat)(gs:Array Value)(epG:Nat)(s:Shared)(E:WW->ae)(hE:E=fun W=>(Y9 aL aI aG gs epG aC))(hP:az (pW W) (E W) s){Q:Prop}(kQ:∀(n tb:Nat) (s':Shared),Hn s n->Ht s tb->cp (Yt W) (⟨ay (ao (ff (pW W)) (bj (pW W) aF c1) aL aI aC),none,none,(Y1 vA),none⟩) (ao (ff (pW W)) (bj (pW W) aF c1) aL aI aC) p0 s s'->az (pW W) ((Y9 aL aI aG gs epG aC)) s'->af (E W) s s'->Q):Q:=by
 obtain⟨n,tb,gb,hn,ht,hg⟩:=hP.nt
 refine bT hE hP hn ht hg (fun E W Z hs=>ch (oX W 4) 52 (⟨ay (ao (ff (pW W)) (bj (pW W) aF c1) aL aI aC),none,none,(Y1 vA),none⟩) (p0) (a8 (ay (ao (ff (pW W)) (bj (pW W) aF c1) aL aI aC))) [] hs (cN E n tb gb) (mB Z)) (fun E W Z hs=>ad (lE E) (A n) gb (Aq hs W) (Z (.again (ao (ff (pW W)) (bj (pW W) aF c1) aL aI aC)) (Y2 n 0) (Y8 tb 0) true (ax ((Y9 aL aI aG gs epG aC))))) Ad (pc (by kernel_rfl)) rfl trivial (by exact trivial) rfl fun hs=>?_
 exact rF fun s' r _ h3 h4 h5=>kQ n tb s' hn ht (cf r) ⟨h4,ai h3,(nx hE hP).nd,(nx hE hP).lo⟩ h5
theorem af.up{E:ae}{x:Nat×Obj}{s s':Shared}(h:af E s s'):af (E++[x]) s s':=
 ⟨fun b o q hb=>h.keep b o q (fun hm=>hb (by rw [map_append];exact mem_append_left _ hm)),h.drawn,h.os,h.size⟩
theorem az.uncut{P:Params}{E E':ae}{x:Nat×Obj}{s s':Shared}(hP:az P (E++[x]) s)(hP':az P E' s')(K:af E s s')(e:E'.map (·.1)=E.map (·.1):=by rfl):az P (E'++[x]) s':=by
 have nd:=hP.nd
 rw [map_append] at nd
 have hx:s.heap.get? x.1=some x.2:=(cg.mp hP.has).2.1
 refine⟨hP'.rdy,cg.mpr ⟨hP'.has,K.keep _ _ hx (fun hm=>(List.nodup_append.mp nd).2.2 _ hm _ (List.mem_singleton.mpr rfl) rfl),trivial⟩,?_,?_⟩
 ·rw [map_append,e];exact nd
 ·intro a ha
  rw [map_append,e,<-map_append] at ha
  exact hP.lo a ha
theorem aQ.pushS{lines:Array Value}{ls:List (List Nat)}{cs:List Nat}{t:Tok}(h:aQ lines ls):aQ (lines.push (.str ⟨⟨cs⟩⟩ t)) (ls++[cs]):=by
 refine⟨by simp [h.1],fun i l e=>?_⟩
 by_cases q:i<ls.length
 ·rw [getElem?_append_left q] at e
  rw [getElem?_push,if_neg (by rw [h.1];lia)]
  exact h.2 i l e
 ·rw [getElem?_append_right (by lia)] at e
  have hl:=(List.getElem?_eq_some_iff.mp e).1
  have:i=ls.length:=by simp at hl;lia
  subst this
  simp at e
  rw [getElem?_push,if_pos (by rw [h.1])]
  exact⟨t,by rw [<-e]⟩
noncomputable def c7(bc:Nat)(d:Nat):List Nat:=[bc,if d=0 then 917536 else if d=1 then 917553 else 917631]
abbrev uv a b c:=(A a,aK "list_iterator" [fy b,.int (Int.ofNat (c+1)) 0])
section
variable(W:WW)(vA:FA)(aF c1 aL aI aC aG:Nat)
include W vA aF c1 aL aI aC aG
section
variable(bc:Nat)(tbs:Tok)(gs:Array Value)(epG:Nat)(ds:List Nat)(hgs:aY gs ds)(h3:∀d∈ds,d<3)
include bc tbs gs epG ds hgs h3
theorem Du:∀(rest:List Nat) (k:Nat) (pre:List (List Nat)) (as:Array Value) (ep:Nat) (uF:Tok) (vF:Value) (p0:Pos) (s:Shared),ds.drop k=rest->aQ as pre->as.size+rest.length<=1000->az (pW W) [(A aL,ah "dict" [aa (pW W) tO uF vF] 1),(Y5 aI aG k),(Yk aG gs epG),(Yk aC as ep),(wI c1 bc tbs)] s->
  ∀Q:Prop,(∀s' uF' vF' k' ep' as',Runs (Yt W) ⟨ao (fi (pW W)) (bj (pW W) aF c1) aL aI aC,none,none,(Y1 vA),none⟩ p0 ((Yt W).den (ao (fi (pW W)) (bj (pW W) aF c1) aL aI aC)) [] s ft s'->cL (pW W) s'->cG [(A aL,ah "dict" [aa (pW W) tO uF' vF'] 1),(kd aI k'),(Yk aG gs epG),(Yk aC as' ep'),(wI c1 bc tbs)] s'.heap->af [(A aL,ah "dict" [aa (pW W) tO uF vF] 1),(Y5 aI aG k),(Yk aG gs epG),(Yk aC as ep),(wI c1 bc tbs)] s s'->aQ as' (pre++rest.map (c7 bc))->Q)->Q:=by
 intro rest0
 induction rest0 with
 |nil=>
  intro k pre as ep uF vF p0 s hd hls hsz hP Q kQ
  apply ET (W:=W) (hit:=hgs.none hd) (hE:=rfl) (hP:=az.cut (E:=[(A aL,ah "dict" [aa (pW W) tO uF vF] 1),(Y5 aI aG k),(Yk aG gs epG),(Yk aC as ep)]) hP) (p0:=p0) (kQ:=?k25) ..
  case' k25=>intro n tb s' _ _ r h1 h2 h3
  have hc:=h3.keep _ _ hP.has.2.2.2.2.1 (by have:=hP.nd;simp only [map_cons,map_nil,List.nodup_cons,List.mem_cons,List.not_mem_nil,or_false] at this⊢;rintro(e|e|e|e)<;>rw [e] at this<;>simp at this)
  exact kQ s' uF vF k ep as r h1 ⟨h2.1,h2.2.1,h2.2.2.1,h2.2.2.2.1,hc,trivial⟩ h3.up (by simpa using hls)
 |cons q rest ih=>
  intro k pre as ep uF vF p0 s hd hls hsz hP Q kQ
  obtain⟨hk,hd'⟩:=bw hd
  obtain⟨tf,hit⟩:=hgs.get hk
  have hq:=h3 q (mem_of_getElem? hk)
  have hsz':as.size<=1000:=by simp at hsz;lia
  have step:∀G:Prop,(∀s1 u t v ep1,br (Yt W) ⟨ao (fi (pW W)) (bj (pW W) aF c1) aL aI aC,none,none,(Y1 vA),none⟩ p0 s s1->az (pW W) [(A aL,ah "dict" [aa (pW W) tO u v] 1),(uv aI aG k),(Yk aG gs epG),(A aC,ab (as.push (.str ⟨⟨c7 bc q⟩⟩ t)) ep1),(wI c1 bc tbs)] s1->af [(A aL,ah "dict" [aa (pW W) tO uF vF] 1),(Y5 aI aG k),(Yk aG gs epG),(Yk aC as ep),(wI c1 bc tbs)] s s1->G)->G:=by
   intro G kG
   have:q=0\/q=1\/q=2:=by lia
   rcases this with rfl|rfl|rfl
   ·apply jD (b7:=false) (hz:=(.inl ⟨rfl,rfl⟩)) (W:=W) (hit:=hit) (hsz:=by lia) (hE:=rfl) (hP:=hP) (p0:=p0) (kQ:=?k26) ..
    case' k26=>intro n tb s1 _ _ H hP1 K
    exact kG s1 _ _ _ _ H hP1 K
   ·apply jD (b7:=false) (hz:=(.inr (.inl ⟨rfl,rfl⟩))) (W:=W) (hit:=hit) (hsz:=by lia) (hE:=rfl) (hP:=hP) (p0:=p0) (kQ:=?k27) ..
    case' k27=>intro n tb s1 _ _ H hP1 K
    exact kG s1 _ _ _ _ H hP1 K
   ·apply jD (b7:=false) (hz:=(.inr (.inr ⟨rfl,rfl⟩))) (W:=W) (hit:=hit) (hsz:=by lia) (hE:=rfl) (hP:=hP) (p0:=p0) (kQ:=?k28) ..
    case' k28=>intro n tb s1 _ _ H hP1 K
    exact kG s1 _ _ _ _ H hP1 K
  refine step _ fun s1 u t v ep1 zq2 hP1 K1=>?_
  obtain⟨p',H⟩:=zq2
  refine ih (k+1) (pre++[c7 bc q]) _ ep1 u v p' s1 hd' hls.pushS (by simp at hsz⊢;lia) hP1 _ fun s2 u2 v2 k2 ep2 as2 r h4 h5 h6 h7=>?_
  exact kQ s2 u2 v2 k2 ep2 as2 (H _ _ r) h4 h5 (K1.trans (h6.cast rfl)) (by simpa using h7)
structure pd where
 u:Tok
 v:Value
 k:Nat
 ep:Nat
 ls:Array Value
noncomputable def xV(W:WW)(vA:FA)(aF c1 aL aI aC aG:Nat)(bc:Nat)(tbs:Tok)(gs:Array Value)(epG:Nat)(x:pd):Result×List Obj×ae:=(mV,([(A aL,ah "dict" [aa (pW W) Ed x.u x.v] 1),(A aI,aK "list_iterator" [.none,.int (Int.ofNat x.k) 0]),(Yk aG gs epG),(A aC,ab x.ls x.ep),(wI c1 bc tbs)]:ae).map (·.2),[])
theorem wm(hne:ds≠[])(hlen:ds.length<=900):
  cm (Vw W) ⟨ay (ao (fi (pW W)) (bj (pW W) aF c1) aL aI aC),none,none,(Y1 vA),none⟩ [(A aL,eG),(A aI,Yf aG),(Yk aG gs epG),(A aC,ix),(wI c1 bc tbs)] (xV W vA aF c1 aL aI aC aG bc tbs gs epG) (fun x=>aQ x.ls (ds.map (c7 bc))):=
 dT (C:=ao (fi (pW W)) (bj (pW W) aF c1) aL aI aC) (fun p0 s hP=>by
  obtain⟨q,rest,rfl⟩:∃q rest,ds=q::rest:=by cases ds with|nil=>exact(hne rfl).elim|cons q r=>exact⟨q,r,rfl⟩
  obtain⟨tf,hit⟩:=hgs.get (k:=0) rfl
  have hq:=h3 q (mem_cons_self ..)
  have step:∀G:Prop,(∀s1 u t v ep1,br (Yt W) ⟨ao (fi (pW W)) (bj (pW W) aF c1) aL aI aC,none,none,(Y1 vA),none⟩ p0 s s1->az (pW W) [(A aL,ah "dict" [aa (pW W) tO u v] 1),(A aI,aK "list_iterator" [fy aG,.int (Int.ofNat 1) 0]),(Yk aG gs epG),(A aC,ab ((⟨[]⟩:Array Value).push (.str ⟨⟨c7 bc q⟩⟩ t)) ep1),(wI c1 bc tbs)] s1->af [(A aL,eG),(A aI,Yf aG),(Yk aG gs epG),(A aC,ix),(wI c1 bc tbs)] s s1->G)->G:=by
   intro G kG
   have:q=0\/q=1\/q=2:=by lia
   rcases this with rfl|rfl|rfl
   ·apply jD (b7:=true) (hz:=(.inl ⟨rfl,rfl⟩)) (W:=W) (hit:=hit) (hsz:=zero_le _) (hE:=rfl) (hP:=hP) (uF:=0) (vF:=.none) (p0:=p0) (kQ:=?k29) ..
    case' k29=>intro n tb s1 _ _ H hP1 K
    exact kG s1 _ _ _ _ H hP1 K
   ·apply jD (b7:=true) (hz:=(.inr (.inl ⟨rfl,rfl⟩))) (W:=W) (hit:=hit) (hsz:=zero_le _) (hE:=rfl) (hP:=hP) (uF:=0) (vF:=.none) (p0:=p0) (kQ:=?k30) ..
    case' k30=>intro n tb s1 _ _ H hP1 K
    exact kG s1 _ _ _ _ H hP1 K
   ·apply jD (b7:=true) (hz:=(.inr (.inr ⟨rfl,rfl⟩))) (W:=W) (hit:=hit) (hsz:=zero_le _) (hE:=rfl) (hP:=hP) (uF:=0) (vF:=.none) (p0:=p0) (kQ:=?k31) ..
    case' k31=>intro n tb s1 _ _ H hP1 K
    exact kG s1 _ _ _ _ H hP1 K
  refine step _ fun s1 u t v ep1 zq3 hP1 K1=>?_
  obtain⟨p',H⟩:=zq3
  refine Du W vA aF c1 aL aI aC aG bc tbs gs epG (q::rest) hgs h3 rest 1 ([]++[c7 bc q]) _ ep1 u v p' s1 rfl (aQ.pushS (lines:=⟨[]⟩) (ls:=[]) ⟨rfl,fun i l e=>by simp at e⟩) (by simp at hlen⊢;lia) hP1 _ fun s2 u2 v2 k2 ep2 as2 r h4 h5 h6 h7=>?_
  exact⟨⟨u2,v2,k2,ep2,as2⟩,s2,H _ _ r,h4,K1.trans (h6.cast rfl),⟨h5.1,h5.2.1,h5.2.2.1,h5.2.2.2.1,h5.2.2.2.2.1,trivial⟩,trivial,(fun y hy=>nomatch hy),nodup_nil,by simpa using h7⟩) fun p s hP=>by
  apply EX (W:=W) (p0:=p) (hE:=rfl) (hP:=az.cut (E:=(Y9 aL aI aG gs epG aC)) hP) (kQ:=?k32) ..
  case' k32=>intro n tb s' _ _ H hP' K
  exact⟨s',H,(az.uncut hP hP' K),K.up⟩
end
noncomputable def di(d:Nat):List Nat:=if d=0 then [32] else if d=1 then [124,49] else [124,127]
section
variable(gs:Array Value)(epG:Nat)(ds:List Nat)(hgs:aY gs ds)(h3:∀d∈ds,d<3)
include gs epG ds hgs h3
theorem A7:∀(rest:List Nat) (k:Nat) (pre:List (List Nat)) (as:Array Value) (ep:Nat) (uF:Tok) (vF:Value) (p0:Pos) (s:Shared),ds.drop k=rest->aQ as pre->as.size+rest.length<=1000->az (pW W) [(A aL,ah "dict" [aa (pW W) tO uF vF] 1),(Y5 aI aG k),(Yk aG gs epG),(Yk aC as ep)] s->
  ∀Q:Prop,(∀s' uF' vF' k' ep' as',Runs (Yt W) ⟨ao (ff (pW W)) (bj (pW W) aF c1) aL aI aC,none,none,(Y1 vA),none⟩ p0 ((Yt W).den (ao (ff (pW W)) (bj (pW W) aF c1) aL aI aC)) [] s ft s'->cL (pW W) s'->cG [(A aL,ah "dict" [aa (pW W) tO uF' vF'] 1),(kd aI k'),(Yk aG gs epG),(Yk aC as' ep')] s'.heap->af [(A aL,ah "dict" [aa (pW W) tO uF vF] 1),(Y5 aI aG k),(Yk aG gs epG),(Yk aC as ep)] s s'->aQ as' (pre++rest.map (di))->Q)->Q:=by
 intro rest0
 induction rest0 with
 |nil=>
  intro k pre as ep uF vF p0 s hd hls hsz hP Q kQ
  apply Fa (W:=W) (hit:=hgs.none hd) (hE:=rfl) (hP:=hP) (p0:=p0) (kQ:=?k33) ..
  case' k33=>intro n tb s' _ _ r h1 h2 h3
  exact kQ s' uF vF k ep as r h1 h2 h3 (by simpa using hls)
 |cons q rest ih=>
  intro k pre as ep uF vF p0 s hd hls hsz hP Q kQ
  obtain⟨hk,hd'⟩:=bw hd
  obtain⟨tf,hit⟩:=hgs.get hk
  have hq:=h3 q (mem_of_getElem? hk)
  have hsz':as.size<=1000:=by simp at hsz;lia
  have step:∀G:Prop,(∀s1 u t v ep1,br (Yt W) ⟨ao (ff (pW W)) (bj (pW W) aF c1) aL aI aC,none,none,(Y1 vA),none⟩ p0 s s1->az (pW W) [(A aL,ah "dict" [aa (pW W) tO u v] 1),(uv aI aG k),(Yk aG gs epG),(A aC,ab (as.push (.str ⟨⟨di q⟩⟩ t)) ep1)] s1->af [(A aL,ah "dict" [aa (pW W) tO uF vF] 1),(Y5 aI aG k),(Yk aG gs epG),(Yk aC as ep)] s s1->G)->G:=by
   intro G kG
   have:q=0\/q=1\/q=2:=by lia
   rcases this with rfl|rfl|rfl
   ·apply jO (b7:=false) (hz:=(.inl ⟨rfl,rfl,rfl⟩)) (W:=W) (hit:=hit) (hsz:=by lia) (hE:=rfl) (hP:=hP) (p0:=p0) (kQ:=?k34) ..
    case' k34=>intro n tb s1 _ _ H hP1 K
    exact kG s1 _ _ _ _ H hP1 K
   ·apply jO (b7:=false) (hz:=(.inr (.inl ⟨rfl,rfl,rfl⟩))) (W:=W) (hit:=hit) (hsz:=by lia) (hE:=rfl) (hP:=hP) (p0:=p0) (kQ:=?k35) ..
    case' k35=>intro n tb s1 _ _ H hP1 K
    exact kG s1 _ _ _ _ H hP1 K
   ·apply jO (b7:=false) (hz:=(.inr (.inr ⟨rfl,rfl,rfl⟩))) (W:=W) (hit:=hit) (hsz:=by lia) (hE:=rfl) (hP:=hP) (p0:=p0) (kQ:=?k36) ..
    case' k36=>intro n tb s1 _ _ H hP1 K
    exact kG s1 _ _ _ _ H hP1 K
  refine step _ fun s1 u t v ep1 zq4 hP1 K1=>?_
  obtain⟨p',H⟩:=zq4
  refine ih (k+1) (pre++[di q]) _ ep1 u v p' s1 hd' hls.pushS (by simp at hsz⊢;lia) hP1 _ fun s2 u2 v2 k2 ep2 as2 r h4 h5 h6 h7=>?_
  exact kQ s2 u2 v2 k2 ep2 as2 (H _ _ r) h4 h5 (K1.trans (h6.cast rfl)) (by simpa using h7)
structure u0 where
 u:Tok
 v:Value
 k:Nat
 ep:Nat
 ls:Array Value
noncomputable def xB(W:WW)(vA:FA)(aF c1 aL aI aC aG:Nat)(gs:Array Value)(epG:Nat)(x:u0):Result×List Obj×ae:=(mV,([(A aL,ah "dict" [aa (pW W) Ed x.u x.v] 1),(A aI,aK "list_iterator" [.none,.int (Int.ofNat x.k) 0]),(Yk aG gs epG),(A aC,ab x.ls x.ep)]:ae).map (·.2),[])
theorem uR(hne:ds≠[])(hlen:ds.length<=900):
  cm (Vw W) ⟨ay (ao (ff (pW W)) (bj (pW W) aF c1) aL aI aC),none,none,(Y1 vA),none⟩ (Y9 aL aI aG gs epG aC) (xB W vA aF c1 aL aI aC aG gs epG) (fun x=>aQ x.ls (ds.map (di))):=
 dT (C:=ao (ff (pW W)) (bj (pW W) aF c1) aL aI aC) (fun p0 s hP=>by
  obtain⟨q,rest,rfl⟩:∃q rest,ds=q::rest:=by cases ds with|nil=>exact(hne rfl).elim|cons q r=>exact⟨q,r,rfl⟩
  obtain⟨tf,hit⟩:=hgs.get (k:=0) rfl
  have hq:=h3 q (mem_cons_self ..)
  have step:∀G:Prop,(∀s1 u t v ep1,br (Yt W) ⟨ao (ff (pW W)) (bj (pW W) aF c1) aL aI aC,none,none,(Y1 vA),none⟩ p0 s s1->az (pW W) [(A aL,ah "dict" [aa (pW W) tO u v] 1),(A aI,aK "list_iterator" [fy aG,.int (Int.ofNat 1) 0]),(Yk aG gs epG),(A aC,ab ((⟨[]⟩:Array Value).push (.str ⟨⟨di q⟩⟩ t)) ep1)] s1->af (Y9 aL aI aG gs epG aC) s s1->G)->G:=by
   intro G kG
   have:q=0\/q=1\/q=2:=by lia
   rcases this with rfl|rfl|rfl
   ·apply jO (b7:=true) (hz:=(.inl ⟨rfl,rfl,rfl⟩)) (W:=W) (hit:=hit) (hsz:=zero_le _) (hE:=rfl) (hP:=hP) (uF:=0) (vF:=.none) (p0:=p0) (kQ:=?k37) ..
    case' k37=>intro n tb s1 _ _ H hP1 K
    exact kG s1 _ _ _ _ H hP1 K
   ·apply jO (b7:=true) (hz:=(.inr (.inl ⟨rfl,rfl,rfl⟩))) (W:=W) (hit:=hit) (hsz:=zero_le _) (hE:=rfl) (hP:=hP) (uF:=0) (vF:=.none) (p0:=p0) (kQ:=?k38) ..
    case' k38=>intro n tb s1 _ _ H hP1 K
    exact kG s1 _ _ _ _ H hP1 K
   ·apply jO (b7:=true) (hz:=(.inr (.inr ⟨rfl,rfl,rfl⟩))) (W:=W) (hit:=hit) (hsz:=zero_le _) (hE:=rfl) (hP:=hP) (uF:=0) (vF:=.none) (p0:=p0) (kQ:=?k39) ..
    case' k39=>intro n tb s1 _ _ H hP1 K
    exact kG s1 _ _ _ _ H hP1 K
  refine step _ fun s1 u t v ep1 zq5 hP1 K1=>?_
  obtain⟨p',H⟩:=zq5
  refine A7 W vA aF c1 aL aI aC aG gs epG (q::rest) hgs h3 rest 1 ([]++[di q]) _ ep1 u v p' s1 rfl (aQ.pushS (lines:=⟨[]⟩) (ls:=[]) ⟨rfl,fun i l e=>by simp at e⟩) (by simp at hlen⊢;lia) hP1 _ fun s2 u2 v2 k2 ep2 as2 r h4 h5 h6 h7=>?_
  exact⟨⟨u2,v2,k2,ep2,as2⟩,s2,H _ _ r,h4,K1.trans (h6.cast rfl),⟨h5.1,h5.2.1,h5.2.2.1,h5.2.2.2.1,trivial⟩,trivial,(fun y hy=>nomatch hy),nodup_nil,by simpa using h7⟩) fun p s hP=>by
  apply GV (W:=W) (p0:=p) (hE:=rfl) (hP:=hP) (kQ:=?k40) ..
  case' k40=>intro n tb s' _ _ H hP' K
  exact⟨s',H,hP',K⟩
end
end
noncomputable def mR(k:PN)(it:Value)(i:Int)(c:Nat):Sem Fin:=do
 k.sf it 1 (rawInt (i+1))
 retStr ⟨⟨[c]⟩⟩
theorem zY{M:Model}{Γ:Ctx}{a:Addr}{o:Obj}{s:Shared}{x:Str}{t:Tok}{i:Int}{tk:Tok}{c:Nat}(ho:s.heap.get? a=some o)(hd:o.data=.fields #[.str x t,.int i tk])
  (hx:x.cps[i.toNat]? =some c) {Q E p} (H:Sem.wp M Γ (mR HI (.ref a) i c) Q E p s):Sem.wp M Γ (Builtin.«str_iterator.__next__» ⟨[.ref a],[]⟩) Q E p s:=by
 show Sem.wp M Γ (field (.ref a) 0>>=_) _ _ _ _
 rw [Sem.wp_bind']
 refine ej ho hd (x:=.str x t) rfl ?_
 show Sem.wp M Γ (if(Value.str x t==Value.none)=true then _ else _) _ _ _ _
 rw [if_neg (show¬((Value.str x t==Value.none)=true) from Bool.false_ne_true)]
 show Sem.wp M Γ (field (.ref a) 1>>=_) _ _ _ _
 rw [Sem.wp_bind']
 refine ej ho hd (x:=.int i tk) rfl ?_
 simp only [hx]
 exact H
theorem Dg{M:Model}{Γ:Ctx}{a:Addr}{o:Obj}{s:Shared}{x:Str}{t:Tok}{i:Int}{tk:Tok}(ho:s.heap.get? a=some o)(hd:o.data=.fields #[.str x t,.int i tk])
  (hx:x.cps[i.toNat]? =none) {Q E p} (H:Sem.wp M Γ (ky HI (.ref a)) Q E p s):Sem.wp M Γ (Builtin.«str_iterator.__next__» ⟨[.ref a],[]⟩) Q E p s:=by
 show Sem.wp M Γ (field (.ref a) 0>>=_) _ _ _ _
 rw [Sem.wp_bind']
 refine ej ho hd (x:=.str x t) rfl ?_
 show Sem.wp M Γ (if(Value.str x t==Value.none)=true then _ else _) _ _ _ _
 rw [if_neg (show¬((Value.str x t==Value.none)=true) from Bool.false_ne_true)]
 show Sem.wp M Γ (field (.ref a) 1>>=_) _ _ _ _
 rw [Sem.wp_bind']
 refine ej ho hd (x:=.int i tk) rfl ?_
 simp only [hx]
 show Sem.wp M Γ (setField (.ref a) 0 .none>>=fun _=>letGo [.str x t]>>=fun _=>newExc (.type "StopIteration") []>>=raiseNew) _ _ _ _
 have H:Sem.wp M Γ (setField (.ref a) 0 .none>>=fun _=>newExc (.type "StopIteration") []>>=raiseNew) Q E p s:=H
 rw [Sem.wp_bind'] at H⊢
 exact H
noncomputable def kW(i c:Nat):bD:=fun Γ cd st=>wF (st.T.get i) nO fun l=>w2 l nO fun u v=>ws u nO fun x=>wi v nO fun k=>
  (cd=.builtin "str_iterator.__next__" ⟨[.ref (bm st.L st.n i)],[]⟩/\x.cps[k.toNat]? =some c,mR HE (.ref (bm st.L st.n i)) k c)
noncomputable def tR(i:Nat):bD:=fun Γ cd st=>wF (st.T.get i) nO fun l=>w2 l nO fun u v=>ws u nO fun x=>wi v nO fun k=>
  (cd=.builtin "str_iterator.__next__" ⟨[.ref (bm st.L st.n i)],[]⟩/\x.cps[k.toNat]? =none,ky HE (.ref (bm st.L st.n i)))
theorem kf{V:XV}{pr:Program}{w:World}{i c:Nat}:bE V (model pr w) (kW i c):=by
 refine dQ fun hΓ R=>zu fW fun _ cl dd sl e1=>qk fW fun _ _ e2=>sD fW fun x t e3=>kb fW fun k tk e4=>?_
 subst e3;subst e4;subst e2
 rintro⟨rfl,hx⟩ H
 rw [sn] at H
 rw [bh PySem.F.entry_str_iterator_next]
 exact ib (fun Q E h=>zY (i9 R e1) rfl hx h) H
theorem rH{V:XV}{pr:Program}{w:World}{i:Nat}:bE V (model pr w) (tR i):=by
 refine dQ fun hΓ R=>zu fW fun _ cl dd sl e1=>qk fW fun _ _ e2=>sD fW fun x t e3=>kb fW fun k tk e4=>?_
 subst e3;subst e4;subst e2
 rintro⟨rfl,hx⟩ H
 rw [sn] at H
 rw [bh PySem.F.entry_str_iterator_next]
 exact ib (fun Q E h=>Dg (i9 R e1) rfl hx h) H
noncomputable abbrev Kb a:=(.int (Int.ofNat a+1) 0:Value)
abbrev HG a b c d:=(A a,aK "str_iterator" [.str b c,Ye d])
abbrev LX a:=Rf (.builtin "str_iterator.__next__" ⟨[(Yp a)],[]⟩:Code)
theorem ko(W:WW)(b7:Bool){d7:Nat}{d8:List Nat}(hz:d7=917535/\d8=[917535]\/d7=917632/\d8=[917632])(p0:Pos)(vA:FA)(aF c1 aL aI aC:Nat)(uF tx:Tok)(vF:Value)(k:Nat)(xs:Str)(as:Array Value)(epA:Nat)(s:Shared)(hit:xs.cps[(Yh k).toNat]? =some d7)(hsz:as.size<=1000)(E:WW->ae)(hE:E=fun W=>[(A aL,ah "dict" (cond b7 [] [aa (pW W) EA uF vF]) (cond b7 0 1)),(HG aI xs tx k),(Yk aC as epA)])(hP:az (pW W) (E W) s){Q:Prop}(kQ:∀(n tb:Nat) (s':Shared),Hn s n->Ht s tb->br (Yt W) (⟨ao (eB (pW W)) (bj (pW W) aF c1) aL aI aC,none,none,(Y1 vA),none⟩) p0 s s'->az (pW W) ([(A aL,ah "dict" [aa (pW W) EA (cond b7 (Y8 tb 1) uF) (.str ⟨⟨d8⟩⟩ (TK tb))] 1),(A aI,aK "str_iterator" [.str xs tx,Kb k]),(Yk aC as epA)]) s'->af (E W) s s'->Q):Q:=by
 obtain⟨n,tb,gb,hn,ht,hg⟩:=hP.nt
 refine bT hE hP hn ht hg (fun E W Z hs=>ch (ec (Vw W) 3 [(kW 1 d7)] [] [] []) 106 (⟨ao (eB (pW W)) (bj (pW W) aF c1) aL aI aC,none,none,(Y1 vA),none⟩) (p0) (a8 (ao (eB (pW W)) (bj (pW W) aF c1) aL aI aC)) [] hs (cN E n tb gb) (lY Z)) (fun E W Z hs=>ad (lE E) (A n) gb (sl hs 0 2) (((LX aI)/\(((xs.cps[(Yh k).toNat]?):(Option Nat))=(some d7)))/\ad (lE E) (A n) gb (sl hs 3 20) (Z (.again (ao (eB (pW W)) (bj (pW W) aF c1) aL aI aC)) (Y2 n 1) (Y8 tb 5) true (ax ([(A aL,ah "dict" [aa (pW W) EA (cond b7 (Y8 tb 1) uF) (.str ⟨⟨d8⟩⟩ (TK tb))] 1),(A aI,aK "str_iterator" [.str xs tx,Kb k]),(Yk aC as epA)]))))) (fun _=>[2,2,4000,2,2,1,1,0,1,0,0,0,4,4,0,0,0,4,0,0,0,0,0,3000]) (by apply iR b7<;>(rcases hz with h|h<;>apply G0 h)<;>exact iX (by kernel_rfl)) rfl ⟨fun _=>kf,trivial⟩ trivial rfl fun hs=>?_
 refine rI ⟨rfl,hit⟩ ?_
 exact rF fun s' r _ h3 h4 h5=>kQ n tb s' hn ht (am rfl r) ⟨h4,ai h3,(nx hE hP).nd,(nx hE hP).lo⟩ h5
theorem nr(W:WW){d7:Nat}{d8:List Nat}{d9:List Nat}(hz:d7=917536/\d8=[917536]/\d9=[32]\/d7=917553/\d8=[917553]/\d9=[49]\/d7=917631/\d8=[917631]/\d9=[127])(p0:Pos)(vA:FA)(aF c1 aL aI aC:Nat)(uF tx:Tok)(vF:Value)(k:Nat)(xs:Str)(as:Array Value)(epA:Nat)(s:Shared)(hit:xs.cps[(Yh k).toNat]? =some d7)(hsz:as.size<=1000)(E:WW->ae)(hE:E=fun W=>[(A aL,ah "dict" [aa (pW W) EJ uF vF] 1),(HG aI xs tx k),(Yk aC as epA)])(hP:az (pW W) (E W) s){Q:Prop}(kQ:∀(n tb:Nat) (s':Shared),Hn s n->Ht s tb->br (Yt W) (⟨ao (eB (pW W)) (bj (pW W) aF c1) aL aI aC,none,none,(Y1 vA),none⟩) p0 s s'->az (pW W) ([(A aL,ah "dict" [aa (pW W) EA uF (.str ⟨⟨d8⟩⟩ (TK tb))] 1),(A aI,aK "str_iterator" [.str xs tx,Kb k]),(A aC,Obj.mapSeq (·.push (.str ⟨⟨d9⟩⟩ (Y8 tb 8))) (ab as epA))]) s'->af (E W) s s'->Q):Q:=by
 obtain⟨n,tb,gb,hn,ht,hg⟩:=hP.nt
 refine bT hE hP hn ht hg (fun E W Z hs=>ch (ec (Vw W) 3 [(kW 1 d7),(b9 2)] [] [] []) 143 (⟨ao (eB (pW W)) (bj (pW W) aF c1) aL aI aC,none,none,(Y1 vA),none⟩) (p0) (a8 (ao (eB (pW W)) (bj (pW W) aF c1) aL aI aC)) [] hs (cN E n tb gb) (lY Z)) (fun E W Z hs=>ad (lE E) (A n) gb (sl hs 0 2) (((LX aI)/\(((xs.cps[(Yh k).toNat]?):(Option Nat))=(some d7)))/\ad (lE E) (A n) gb (sl hs 3 28) (((Rf (.builtin "list.append" ⟨[(Yp aC),(.str (Str.mk ⟨d9⟩) (Y8 tb 8))],[]⟩:Code))/\(rJ as))/\ad (lE E) (A n) gb (sl hs 32 1) (Z (.again (ao (eB (pW W)) (bj (pW W) aF c1) aL aI aC)) (Y2 n 1) (Y8 tb 9) true (ax ([(A aL,ah "dict" [aa (pW W) EA uF (.str ⟨⟨d8⟩⟩ (TK tb))] 1),(A aI,aK "str_iterator" [.str xs tx,Kb k]),(A aC,Obj.mapSeq (·.push (.str ⟨⟨d9⟩⟩ (Y8 tb 8))) (ab as epA))])))))) (fun _=>(gC [2,2,4000,2,2,1,1,0,1,0,0,0,4,4,0,0,0,4,110000,1,3,4001,3,3000])) (by rcases hz with h|h|h<;>apply oK h<;>exact iX (by kernel_rfl)) rfl ⟨fun _=>kf,fun _=>bx,trivial⟩ trivial rfl fun hs=>?_
 refine rI ⟨rfl,hit⟩ ?_
 refine rI ⟨rfl,⟨rfl,rfl,rfl⟩,hsz⟩ ?_
 exact rF fun s' r _ h3 h4 h5=>kQ n tb s' hn ht (am rfl r) ⟨h4,ai h3,(nx hE hP).nd,(nx hE hP).lo⟩ h5
theorem G1(W:WW)(p0:Pos)(vA:FA)(aF c1 aL aI aC:Nat)(tx:Tok)(loc:List DictEntry)(k el:Nat)(xs:Str)(as:Array Value)(epA:Nat)(s:Shared)(hit:xs.cps[(Yh k).toNat]? =none)(E:WW->ae)(hE:E=fun W=>[(mw aL loc el),(HG aI xs tx k),(Yk aC as epA)])(hP:az (pW W) (E W) s){Q:Prop}(kQ:∀(n tb:Nat) (s':Shared),Hn s n->Ht s tb->Runs (Yt W) (⟨ao (eB (pW W)) (bj (pW W) aF c1) aL aI aC,none,none,(Y1 vA),none⟩) p0 ((Yt W).den (ao (eB (pW W)) (bj (pW W) aF c1) aL aI aC)) [] s ft s'->cL (pW W) s'->cG ([(mw aL loc el),(A aI,aK "str_iterator" [.none,Ye k]),(Yk aC as epA)]) s'.heap->af (E W) s s'->Q):Q:=by
 obtain⟨n,tb,gb,hn,ht,hg⟩:=hP.nt
 refine bT hE hP hn ht hg (fun E W Z hs=>ch (ec (Vw W) 3 [(tR 1)] [] [] []) 53 (⟨ao (eB (pW W)) (bj (pW W) aF c1) aL aI aC,none,none,(Y1 vA),none⟩) (p0) (a8 (ao (eB (pW W)) (bj (pW W) aF c1) aL aI aC)) [] hs (cN E n tb gb) (lY Z)) (fun E W Z hs=>ad (lE E) (A n) gb (sl hs 0 2) (((LX aI)/\(((xs.cps[(Yh k).toNat]?):(Option Nat))=(none)))/\ad (lE E) (A n) gb (sl hs 3 3) (Z oW (Y2 n 2) (Y8 tb 0) true (ax ([(mw aL loc el),(A aI,aK "str_iterator" [.none,Ye k]),(Yk aC as epA)]))))) (fun _=>[2,2,4000,2,2,5]) (oU (by kernel_rfl)) rfl ⟨fun _=>rH,trivial⟩ trivial rfl fun hs=>?_
 refine rI ⟨rfl,hit⟩ ?_
 exact rF fun s' r _ h3 h4 h5=>kQ n tb s' hn ht (by rw [bG];exact r) h4 (ai h3) h5
abbrev ID a b c d e:=[(A a,eG),(A b,aK "str_iterator" [.str c d,Ym]),(A e,ix)]
theorem FS(W:WW)(p0:Pos)(vA:FA)(aF c1 aL aI aC:Nat)(tx:Tok)(xs:Str)(s:Shared)(E:WW->ae)(hE:E=fun W=>(ID aL aI xs tx aC))(hP:az (pW W) (E W) s){Q:Prop}(kQ:∀(n tb:Nat) (s':Shared),Hn s n->Ht s tb->cp (Yt W) (⟨ay (ao (eB (pW W)) (bj (pW W) aF c1) aL aI aC),none,none,(Y1 vA),none⟩) (ao (eB (pW W)) (bj (pW W) aF c1) aL aI aC) p0 s s'->az (pW W) ((ID aL aI xs tx aC)) s'->af (E W) s s'->Q):Q:=by
 obtain⟨n,tb,gb,hn,ht,hg⟩:=hP.nt
 refine bT hE hP hn ht hg (fun E W Z hs=>ch (oX W 3) 52 (⟨ay (ao (eB (pW W)) (bj (pW W) aF c1) aL aI aC),none,none,(Y1 vA),none⟩) (p0) (a8 (ay (ao (eB (pW W)) (bj (pW W) aF c1) aL aI aC))) [] hs (cN E n tb gb) (lY Z)) (fun E W Z hs=>ad (lE E) (A n) gb (Aq hs W) (Z (.again (ao (eB (pW W)) (bj (pW W) aF c1) aL aI aC)) (Y2 n 0) (Y8 tb 0) true (ax ((ID aL aI xs tx aC))))) Ad (pc (by kernel_rfl)) rfl trivial (by exact trivial) rfl fun hs=>?_
 exact rF fun s' r _ h3 h4 h5=>kQ n tb s' hn ht (cf r) ⟨h4,ai h3,(nx hE hP).nd,(nx hE hP).lo⟩ h5
noncomputable def R6(c:Nat):Option Nat:=if c=917536 then some 32 else if c=917553 then some 49 else if c=917631 then some 127 else none
def sz(c:Nat):Prop:=c=917535\/c=917632\/c=917536\/c=917553\/c=917631
noncomputable def bR(cs:List Nat):List (List Nat):=(cs.filterMap R6).map fun c=>[c]
noncomputable abbrev qS a:=(.int (Int.ofNat (a+1)) 0:Value)
section
variable(W:WW)(vA:FA)(aF c1 aL aI aC:Nat)(xs:Str)(tx:Tok)(cs:List Nat)(hxs:xs.cps.toList=cs)(ht:∀c∈cs,sz c)
include W vA aF c1 aL aI aC xs tx cs hxs ht
theorem C4:∀(rest:List Nat) (k:Nat) (pre:List (List Nat)) (as:Array Value) (ep:Nat) (uF:Tok) (vF:Value) (p0:Pos) (s:Shared),cs.drop k=rest->aQ as pre->as.size+rest.length<=1000->az (pW W) [(A aL,ah "dict" [aa (pW W) EJ uF vF] 1),(HG aI xs tx k),(Yk aC as ep)] s->
  ∀Q:Prop,(∀s' uF' vF' k' ep' as',Runs (Yt W) ⟨ao (eB (pW W)) (bj (pW W) aF c1) aL aI aC,none,none,(Y1 vA),none⟩ p0 ((Yt W).den (ao (eB (pW W)) (bj (pW W) aF c1) aL aI aC)) [] s ft s'->cL (pW W) s'->cG [(A aL,ah "dict" [aa (pW W) EJ uF' vF'] 1),(A aI,aK "str_iterator" [.none,Ye k']),(Yk aC as' ep')] s'.heap->af [(A aL,ah "dict" [aa (pW W) EJ uF vF] 1),(HG aI xs tx k),(Yk aC as ep)] s s'->aQ as' (pre++bR rest)->Q)->Q:=by
 intro rest0
 induction rest0 with
 |nil=>
  intro k pre as ep uF vF p0 s hd hls hsz hP Q kQ
  have hit:xs.cps[(Yh k).toNat]? =none:=by
   rw [<-getElem?_toList,hxs];exact List.getElem?_eq_none (List.drop_eq_nil_iff.mp hd)
  apply G1 (W:=W) (hit:=hit) (hE:=rfl) (hP:=hP) (p0:=p0) (kQ:=?k41) ..
  case' k41=>intro n tb s' _ _ r h1 h2 h3
  exact kQ s' uF vF k ep as r h1 h2 h3 (by simpa [bR] using hls)
 |cons q rest ih=>
  intro k pre as ep uF vF p0 s hd hls hsz hP Q kQ
  obtain⟨hk,hd'⟩:=bw hd
  have hit:xs.cps[(Yh k).toNat]? =some q:=by
   rw [<-getElem?_toList,hxs];exact hk
  have hq:=ht q (mem_of_getElem? hk)
  have hsz':as.size<=1000:=by simp at hsz;lia
  have step:∀G:Prop,(∀s1 u v as1 ep1,br (Yt W) ⟨ao (eB (pW W)) (bj (pW W) aF c1) aL aI aC,none,none,(Y1 vA),none⟩ p0 s s1->az (pW W) [(A aL,ah "dict" [aa (pW W) EJ u v] 1),(A aI,aK "str_iterator" [.str xs tx,qS k]),(Yk aC as1 ep1)] s1->af [(A aL,ah "dict" [aa (pW W) EJ uF vF] 1),(HG aI xs tx k),(Yk aC as ep)] s s1->aQ as1 (pre++bR [q])->G)->G:=by
   intro G kG
   rcases hq with rfl|rfl|rfl|rfl|rfl
   ·apply ko (b7:=false) (hz:=(.inl ⟨rfl,rfl⟩)) (W:=W) (hit:=hit) (hsz:=hsz') (hE:=rfl) (hP:=hP) (p0:=p0) (kQ:=?k42) ..
    case' k42=>intro n tb s1 _ _ H hP1 K
    exact kG s1 _ _ _ _ H hP1 K (by rw [show bR [917535]=[] from rfl];simpa using hls)
   ·apply ko (b7:=false) (hz:=(.inr ⟨rfl,rfl⟩)) (W:=W) (hit:=hit) (hsz:=hsz') (hE:=rfl) (hP:=hP) (p0:=p0) (kQ:=?k43) ..
    case' k43=>intro n tb s1 _ _ H hP1 K
    exact kG s1 _ _ _ _ H hP1 K (by rw [show bR [917632]=[] from rfl];simpa using hls)
   ·apply nr (hz:=(.inl ⟨rfl,rfl,rfl⟩)) (W:=W) (hit:=hit) (hsz:=hsz') (hE:=rfl) (hP:=hP) (p0:=p0) (kQ:=?k44) ..
    case' k44=>intro n tb s1 _ _ H hP1 K
    exact kG s1 _ _ _ _ H hP1 K (by rw [show bR [917536]=[[32]] from rfl];simpa using hls.pushS (cs:=[32]))
   ·apply nr (hz:=(.inr (.inl ⟨rfl,rfl,rfl⟩))) (W:=W) (hit:=hit) (hsz:=hsz') (hE:=rfl) (hP:=hP) (p0:=p0) (kQ:=?k45) ..
    case' k45=>intro n tb s1 _ _ H hP1 K
    exact kG s1 _ _ _ _ H hP1 K (by rw [show bR [917553]=[[49]] from rfl];simpa using hls.pushS (cs:=[49]))
   ·apply nr (hz:=(.inr (.inr ⟨rfl,rfl,rfl⟩))) (W:=W) (hit:=hit) (hsz:=hsz') (hE:=rfl) (hP:=hP) (p0:=p0) (kQ:=?k46) ..
    case' k46=>intro n tb s1 _ _ H hP1 K
    exact kG s1 _ _ _ _ H hP1 K (by rw [show bR [917631]=[[127]] from rfl];simpa using hls.pushS (cs:=[127]))
  refine step _ fun s1 u v as1 ep1 zq6 hP1 K1 hl1=>?_
  obtain⟨p',H⟩:=zq6
  have hsz1:as1.size<=as.size+1:=by
   rw [hl1.1,hls.1,List.length_append]
   have:(bR [q]).length<=1:=by unfold bR;rw [length_map];exact List.length_filterMap_le _ _
   lia
  refine ih (k+1) (pre++bR [q]) as1 ep1 u v p' s1 hd' hl1 (by simp at hsz⊢;lia) hP1 _ fun s2 u2 v2 k2 ep2 as2 r h4 h5 h6 h7=>?_
  exact kQ s2 u2 v2 k2 ep2 as2 (H _ _ r) h4 h5 (K1.trans (h6.cast rfl)) (by
   have e:bR (q::rest)=bR [q]++bR rest:=by
    unfold bR
    rw [<-map_append,<-List.filterMap_append];rfl
   rw [e,<-append_assoc];exact h7)
structure BS where
 u:Tok
 v:Value
 k:Nat
 ep:Nat
 ls:Array Value
noncomputable def yT(W:WW)(vA:FA)(aF c1 aL aI aC:Nat)(xs:Str)(tx:Tok)(x:BS):Result×List Obj×ae:=(mV,([(A aL,ah "dict" [aa (pW W) EA x.u x.v] 1),(A aI,aK "str_iterator" [.none,.int (Int.ofNat x.k) 0]),(A aC,ab x.ls x.ep)]:ae).map (·.2),[])
theorem uh(h0:cs[0]? =some 917535\/cs[0]? =some 917632)(hlen:cs.length<=900):
  cm (Vw W) ⟨ay (ao (eB (pW W)) (bj (pW W) aF c1) aL aI aC),none,none,(Y1 vA),none⟩ (ID aL aI xs tx aC) (yT W vA aF c1 aL aI aC xs tx) (fun x=>aQ x.ls (bR cs)):=
 dT (C:=ao (eB (pW W)) (bj (pW W) aF c1) aL aI aC) (fun p0 s hP=>by
  obtain⟨q,rest,rfl⟩:∃q rest,cs=q::rest:=by cases cs with|nil=>simp at h0|cons q r=>exact⟨q,r,rfl⟩
  have hit:xs.cps[(Yx).toNat]? =some q:=by rw [<-getElem?_toList,hxs];rfl
  have h0:q=917535\/q=917632:=by simpa using h0
  have hls:aQ ⟨[]⟩ []:=⟨rfl,fun i l e=>by simp at e⟩
  have step:∀G:Prop,(∀s1 u v as1 ep1,br (Yt W) ⟨ao (eB (pW W)) (bj (pW W) aF c1) aL aI aC,none,none,(Y1 vA),none⟩ p0 s s1->az (pW W) [(A aL,ah "dict" [aa (pW W) EJ u v] 1),(A aI,aK "str_iterator" [.str xs tx,.int (Int.ofNat 1) 0]),(Yk aC as1 ep1)] s1->af (ID aL aI xs tx aC) s s1->aQ as1 (bR [q])->G)->G:=by
   intro G kG
   rcases h0 with rfl|rfl
   ·apply ko (b7:=true) (hz:=(.inl ⟨rfl,rfl⟩)) (W:=W) (hit:=hit) (hsz:=zero_le _) (hE:=rfl) (hP:=hP) (uF:=0) (vF:=.none) (p0:=p0) (kQ:=?k47) ..
    case' k47=>intro n tb s1 _ _ H hP1 K
    exact kG s1 _ _ _ _ H hP1 K (by rw [show bR [917535]=[] from rfl];simpa using hls)
   ·apply ko (b7:=true) (hz:=(.inr ⟨rfl,rfl⟩)) (W:=W) (hit:=hit) (hsz:=zero_le _) (hE:=rfl) (hP:=hP) (uF:=0) (vF:=.none) (p0:=p0) (kQ:=?k48) ..
    case' k48=>intro n tb s1 _ _ H hP1 K
    exact kG s1 _ _ _ _ H hP1 K (by rw [show bR [917632]=[] from rfl];simpa using hls)
  refine step _ fun s1 u v as1 ep1 zq7 hP1 K1 hl1=>?_
  obtain⟨p',H⟩:=zq7
  have hsz1:as1.size<=1:=by
   rw [hl1.1];unfold bR;rw [length_map];exact List.length_filterMap_le _ _
  refine C4 W vA aF c1 aL aI aC xs tx (q::rest) hxs ht rest 1 (bR [q]) as1 ep1 u v p' s1 rfl hl1 (by simp at hlen⊢;lia) hP1 _ fun s2 u2 v2 k2 ep2 as2 r h4 h5 h6 h7=>?_
  exact⟨⟨u2,v2,k2,ep2,as2⟩,s2,H _ _ r,h4,K1.trans (h6.cast rfl),⟨h5.1,h5.2.1,h5.2.2.1,trivial⟩,trivial,(fun y hy=>nomatch hy),nodup_nil,by
   have e:bR (q::rest)=bR [q]++bR rest:=by
    unfold bR
    rw [<-map_append,<-List.filterMap_append];rfl
   rw [e];exact h7⟩) fun p s hP=>by
  apply FS (W:=W) (p0:=p) (hE:=rfl) (hP:=hP) (kQ:=?k49) ..
  case' k49=>intro n tb s' _ _ H hP' K
  exact⟨s',H,hP',K⟩
end
noncomputable def b8(st:St)(i:Nat):Nat:=Nat.sub (bm st.L st.n i) 245
noncomputable def C2(st:St)(i:Nat):Array Value:=match st.T.get i with
 |some ⟨_,_,.seq items _,_⟩=>items
 |_=>⟨[]⟩
noncomputable def fc(st:St)(i:Nat):Nat:=match st.T.get i with
 |some ⟨_,_,.seq _ ep,_⟩=>ep
 |_=>0
noncomputable def nI{X:Type}(w':World)(pre:St->Prop)(G:St->Ctx)(E:St->ae)(is:List Nat)(mm ro:Nat)(out:St->X->Result×List Obj×ae)(cond:St->X->Prop):bL:=fun Γ p c st K=>pre st/\kk w' (G st) (E st) is mm ro (out st) (cond st) Γ p c st K
theorem fn{X:Type}{w':World}{pre:St->Prop}{G:St->Ctx}{E:St->ae}{is:List Nat}{V:XV}{out:St->X->Result×List Obj×ae}{cond:St->X->Prop}(hk:V.kt=eD w'.params)(hc:∀st,pre st->bW w' (G st) (E st) V.fz (out st) (cond st)):bX V (model pw w') (nI w' pre G E is V.mm V.ro out cond):=by
 intro h0 d os Γ p c st K s H hΓ R
 exact ju hk (hc st H.1) h0 d os Γ p c st K s H.2 hΓ R
theorem cm.toF{X:Type}{w':World}{G:Ctx}{E:ae}{fz:List (Nat×Obj)}{out:X->Result×List Obj×ae}{cond:X->Prop}(h:cm w' G E out cond):bW w' G E fz out cond:=fun p s hP _=>h p s hP
noncomputable def em:Stmt->Expr
 |.For t _ _ _ _=>t
 |_=>.Constant .none 0 default
noncomputable def cH:Stmt->List Stmt
 |.For _ _ _ o _=>o
 |_=>[]
noncomputable def sV(st:St)(i:Nat):Tok:=match st.T.get i with
 |some ⟨_,_,.cell (some (.str _ t)),_⟩=>t
 |_=>0
noncomputable def r8(st:St)(i:Nat):Str:=match st.T.get i with
 |some ⟨_,_,.fields ⟨.str x _::_⟩,_⟩=>x
 |_=>⟨⟨[]⟩⟩
noncomputable def xK(st:St)(i:Nat):Tok:=match st.T.get i with
 |some ⟨_,_,.fields ⟨.str _ t::_⟩,_⟩=>t
 |_=>0
abbrev fp a b:=C2 a b
abbrev tF a b:=(A (b8 a b),ab (fp a b) (fc a b))
abbrev DH a b:=(.ref (A (b8 a b)):Value)
abbrev PU a b c:=(A (b8 a b),aK "list_iterator" [DH a c,Ym])
noncomputable def xF(W:WW)(vA:FA)(aF c1:Nat)(bc:Nat)(ds:List Nat)(iL iI iC iG iK mm ro:Nat):bL:=nI (X:=pd) (Vw W) (fun st=>aY (fp st iG) ds) (fun st=>⟨ay (ao (fi (pW W)) (bj (pW W) aF c1) (b8 st iL) (b8 st iI) (b8 st iC)),none,none,(Y1 vA),none⟩) (fun st=>[(A (b8 st iL),eG),(PU st iI iG),(tF st iG),(A (b8 st iC),ix),(A c1,⟨Yu,none,.cell (some (.str ⟨⟨[bc]⟩⟩ (sV st iK))),⟨[]⟩⟩)]) [iL,iI,iG,iC,iK] mm ro (fun st=>(xV W vA aF c1 (b8 st iL) (b8 st iI) (b8 st iC) (b8 st iG) bc (sV st iK) (fp st iG) (fc st iG))) (fun st x=>aQ x.ls (ds.map (c7 bc)))
section
variable(W:WW)(vA:FA)(aF c1:Nat)
include W vA aF c1
theorem pE(bc:Nat)(ds:List Nat){iL iI iC iG iK:Nat}{V:XV}(hk:V.kt=eD (pW W))(h3:∀d∈ds,d<3)(hne:ds≠[])(hlen:ds.length<=900):bX V (model pw (Vw W)) (xF W vA aF c1 bc ds iL iI iC iG iK V.mm V.ro):=
 fn hk fun st h=>(wm W vA aF c1 _ _ _ _ bc _ _ _ ds h h3 hne hlen).toF
abbrev Lj a b c d:=fun st=>[(A (b8 st a),eG),(A (b8 st b),aK "list_iterator" [DH st c,Ym]),(tF st c),(A (b8 st d),ix)]
noncomputable def yN(W:WW)(vA:FA)(aF c1:Nat)(ds:List Nat)(iL iI iC iG mm ro:Nat):bL:=nI (X:=u0) (Vw W) (fun st=>aY (fp st iG) ds) (fun st=>⟨ay (ao (ff (pW W)) (bj (pW W) aF c1) (b8 st iL) (b8 st iI) (b8 st iC)),none,none,(Y1 vA),none⟩) (Lj iL iI iG iC) [iL,iI,iG,iC] mm ro (fun st=>(xB W vA aF c1 (b8 st iL) (b8 st iI) (b8 st iC) (b8 st iG) (fp st iG) (fc st iG))) (fun st x=>aQ x.ls (ds.map di))
theorem pJ(ds:List Nat){iL iI iC iG:Nat}{V:XV}(hk:V.kt=eD (pW W))(h3:∀d∈ds,d<3)(hne:ds≠[])(hlen:ds.length<=900):bX V (model pw (Vw W)) (yN W vA aF c1 ds iL iI iC iG V.mm V.ro):=
 fn hk fun st h=>(uR W vA aF c1 _ _ _ _ _ _ ds h h3 hne hlen).toF
noncomputable def zZ(W:WW)(vA:FA)(aF c1:Nat)(cs:List Nat)(iL iI iC mm ro:Nat):bL:=nI (X:=BS) (Vw W) (fun st=>(r8 st iI).cps.toList=cs) (fun st=>⟨ay (ao (eB (pW W)) (bj (pW W) aF c1) (b8 st iL) (b8 st iI) (b8 st iC)),none,none,(Y1 vA),none⟩) (fun st=>[(A (b8 st iL),eG),(A (b8 st iI),aK "str_iterator" [.str (r8 st iI) (xK st iI),Ym]),(A (b8 st iC),ix)]) [iL,iI,iC] mm ro (fun st=>(yT W vA aF c1 (b8 st iL) (b8 st iI) (b8 st iC) (r8 st iI) (xK st iI))) (fun st x=>aQ x.ls (bR cs))
theorem qH(cs:List Nat){iL iI iC:Nat}{V:XV}(hk:V.kt=eD (pW W))(ht:∀c∈cs,sz c)(h0:cs[0]? =some 917535\/cs[0]? =some 917632)(hlen:cs.length<=900):bX V (model pw (Vw W)) (zZ W vA aF c1 cs iL iI iC V.mm V.ro):=
 fn hk fun st h=>(uh W vA aF c1 _ _ _ _ _ cs h ht h0 hlen).toF
end
noncomputable def sU(W:WW)(vA:FA)(cs:List Nat)(i140 i147 iS mm ro:Nat)(t140 t147:List Value):bL:=nI (X:=fw) (Vw W) (fun st=>cM (fp st iS) cs) (fun st=>wy (b8 st iS) vA) (fun st=>[(140,bB t140),(147,bB t147),(tF st iS)]) [i140,i147,iS] mm ro (fun st=>pq (b8 st iS) (fp st iS) (fc st iS) cs) (fun st x=>True)
theorem yG(W:WW)(vA:FA)(c0:Nat)(cs:List Nat){i140 i147 iS:Nat}{t140 t147:List Value}{V:XV}(hk:V.kt=eD (pW W))(h0:c0=49\/c0=127)(hc:∀c∈cs,c=49\/c=127\/c=32)(hlen:cs.length<=50)(htab:t140=[]/\t147=[]\/∃r1 r2,t140=[.int 67 0,.int 19 0,.ref r1]/\t147=[.int 70 0,.int 32 0,.ref r2]):bX V (model pw (Vw W)) (sU W vA (c0::cs) i140 i147 iS V.mm V.ro t140 t147):=
 fn hk fun st h=>(qd W vA _ t140 t147 _ _ c0 cs h h0 hc hlen htab).toF
theorem kL{lines:Array Value}{cs:List Nat}(h:aQ lines (cs.map fun c=>[c])):cM lines cs:=by
 intro i
 cases e:cs[i]? with
 |none=>exact Array.getElem?_eq_none (by rw [h.1,length_map];exact List.getElem?_eq_none_iff.mp e)
 |some c=>exact h.2 i [c] (by rw [getElem?_map,e];rfl)
noncomputable def jU(x:Str):Bool:=x.cps.all (·<128)
noncomputable def kJ:bD:=fun Γ c st=>wO (C8 c) nO fun b=>(c=.builtin "str.__iter__" ⟨[.str b.1 b.2],[]⟩/\jU b.1=false,.alloc ⟨.type "str_iterator",none,.fields ⟨[.str b.1 b.2,.int 0 0]⟩,⟨[]⟩⟩ fun a=>ret (.ref a))
theorem kN(x:Str)(t:Tok)(h:jU x=false):Meets (Builtin.«str.__iter__» ⟨[.str x t],[]⟩) (fun _ R s=>
   R (.ok (.ret (.ref s.heap.objs.size))) {s with heap:=s.heap.push {cls:=.type "str_iterator",data:=.fields #[.str x t,.int 0 0]}}):=
 .of_wp fun prog w A R s hR=>by
  obtain⟨hp,g,d,tk,os⟩:=s
  have ha:(Builtin.Str.isExactStr (.str x t)&&x.cps.all (·<128))=false:=by
   have:x.cps.all (·<128)=false:=h
   rw [this,Bool.and_false]
  show wpAny _ _ (do
   let(self,s,_)<-Builtin.Str.strSlot "__iter__" 0 ⟨[.str x t],[]⟩
   ret (<-newFields (if Builtin.Str.isExactStr self&&s.cps.all (·<128) then"str_ascii_iterator" else"str_iterator") [self,rawInt 0])) _ _ _
  wp_walk
  refine⟨_,rfl,?_⟩
  rw [if_neg (by rw [ha];exact Bool.false_ne_true)]
  exact hR
theorem ka{V:XV}{pr:Program}{w:World}:bE V (model pr w) kJ:=by
 refine dQ fun hΓ R=>fA fW fun b=>?_
 rintro⟨rfl,hb⟩ H
 obtain⟨rfl,rfl⟩:=cK H
 rw [bh PySem.F.entry_str_iter]
 exact bu (kN _ _ hb) (by rw [hΓ];rfl) ⟨rfl,rfl⟩
section
open PySem.Builtin PySem.Builtin.Str
noncomputable def dH(is:List Nat)(f:Code->Made):bD:=fun Γ c st=>gf is (f c) Γ c st
theorem bs{V:XV}{pr:Program}{w:World}{is:List Nat}{f:Code->Made}:bE V (model pr w) (dH is f):=
 fun h0 d os Γ c st s p r s' hc=>au (m:=f c) h0 d os Γ c st s p r s' hc
noncomputable def lO(x:Str):Str:=⟨⟨x.cps.toList.drop 1⟩⟩
noncomputable def tM:Code->Made:=fun c=>match c with
 |.builtin _ ⟨.str x _::_,_⟩=>.str (lO x)
 |_=>.val .none
theorem kT(x:Str)(t u:Tok)(h:1<=x.length):sliceMade x t (some (1,u)) none none=.str (lO x):=by
 have e:slicePicked x (some (1,u)) none none=(List.range (x.length-1)).map (fun k=>1+k):=by
  show strSliceIndices (some 1) none 1 x.length=_
  rw [PySem.StrLaws.sliceIdx_none_hi]
  exact PySem.StrLaws.strSliceIndices_plain (a:=1) h (Nat.le_refl _)
 have e2:(slicePicked x (some (1,u)) none none).filterMap (x.cps[·]?)=x.cps.toList.drop 1:=by
  have h2:slicePicked x (some (1,u)) none none=strSliceIndices (some ((1:Nat):Int)) (some (x.length:Int)) 1 x.length:=by
   show strSliceIndices (some 1) none 1 x.length=_
   rw [PySem.StrLaws.sliceIdx_none_hi];rfl
  rw [h2,PySem.StrLaws.sliced_plain x h (Nat.le_refl _)]
  rw [take_of_length_le]
  simp [Str.length]
 unfold sliceMade
 rw [if_neg]
 ·rw [e2];rfl
 ·rw [e]
  simp
  lia
theorem mI{x:Str}{t u:Tok}{a:Addr}(h:1<=x.length)(h2:x.length<=1000):av (.builtin "str.__getitem__" ⟨[.str x t,.ref a],[]⟩) [(a,some ⟨.type "slice",none,.fields ⟨[.int (Int.ofNat 1) u,.none,.none]⟩,⟨[]⟩⟩)] (.str (lO x)):=by
 refine av.at PySem.F.entry_str_getitem (fun pr w A R s hE hp=>?_) ?_
 ·refine meets_str_getitem_slice x t a (some (1,u)) none none rfl pr w A R s ⟨⟨_,hE.1,rfl,rfl⟩,?_⟩
  rw [kT x t u h];exact hp
 ·show(lO x).length<=sizeLine
  rw [sizeLine_eq]
  have:(lO x).length=x.length-1:=by simp [lO,Str.length]
  lia
theorem oY{x y:Str}{t u:Tok}{l}(h:x.cps.toList=y.cps.toList):av (.builtin "str.__ne__" ⟨[.str x t,.str y u],[]⟩) l (.val (.bool false)):=by
 have g:=gives_str_ne x y t u
 rw [show(x.cps.toList !=y.cps.toList)=false by simp [h]] at g
 exact av.mk PySem.F.entry_str_ne g trivial
noncomputable def tZ(x y:Str):Str:=if stripSame y.cps.contains false true x then x else PySem.stripped y.cps.contains false true x
noncomputable def xr(mm ro:Nat):bL:=fun Γ p c st K=>wO (C8 c) False fun b=>wO (IU c) False fun g=>(c=.builtin "str.rstrip" ⟨[.str b.1 b.2,.str g.1 g.2],[]⟩/\Nat.ble b.1.length 1000=true)/\qe (X:=cA) [] [] mm ro (fun z=>(.ok (.ret (.str (tZ b.1 g.1) z.t)),[],[])) (fun _=>True) st K
theorem kY(x:Str)(a b:Nat):(strSub x a b).length<=x.length:=by
 unfold strSub Str.length
 simp
 lia
theorem xj{w:World}{x y:Str}{t u:Tok}{G:Ctx}{p:Pos}{s:Shared}(hx:x.length<=1000)(hG:G.code=.builtin "str.rstrip" ⟨[.str x t,.str y u],[]⟩)(hP:az w.params [] s):
  fV w G [] (fun z:cA=>(.ok (.ret (.str (tZ x y) z.t)),[],[])) (fun _=>True) p s:=by
 have g:=gives_str_rstrip_chars x y t u
 have key:∃t' s',(if stripSame y.cps.contains false true x then Made.val (.str x t) else .str (PySem.stripped y.cps.contains false true x)).post (fun v s''=>(Except.ok (.ret v):Result)=.ok (.ret (.str (tZ x y) t'))/\s''=s') s/\(s'=s\/s'={s with toks:=s.toks+1}):=by
  unfold tZ
  by_cases h:stripSame y.cps.contains false true x=true
  ·rw [if_pos h,if_pos h];exact⟨t,s,⟨rfl,rfl⟩,.inl rfl⟩
  ·rw [if_neg h,if_neg h]
   refine⟨s.toks,_,⟨?_,rfl,rfl⟩,.inr rfl⟩
   rw [sizeLine_eq]
   have:=kY x (stripLo y.cps.contains false x) (stripHi y.cps.contains true x (stripLo y.cps.contains false x))
   unfold PySem.stripped;lia
 obtain⟨t',s',hp,hs⟩:=key
 have R:=bu (pr:=pw) (w:=w) g.meets (Γ:=G) (p:=p) (s:=s) (s':=s') (r:=.ok (.ret (.str (tZ x y) t'))) (by rw [hG];rfl) hp
 refine⟨⟨t'⟩,s',by rw [hG,bh PySem.F.entry_str_rstrip];exact R,?_,?_,trivial,trivial,(fun y hy=>nomatch hy),nodup_nil,trivial⟩
 ·rcases hs with rfl|rfl
  ·exact hP.rdy
  ·exact⟨hP.rdy.base,hP.rdy.gens,hP.rdy.size,Nat.le_succ_of_le hP.rdy.toks⟩
 ·rcases hs with rfl|rfl
  ·exact af.refl
  ·exact⟨fun _ _ q _=>q,rfl,rfl,Nat.le_refl _⟩
theorem pK{w':World}{V:XV}(hk:V.kt=eD w'.params):bX V (model pw w') (xr V.mm V.ro):=by
 intro h0 d os Γ p c st K s H hΓ R
 revert H
 refine fA (P:=(·->_)) (fun h=>h.elim) fun b=>fA (P:=(·->_)) (fun h=>h.elim) fun g=>?_
 rintro⟨⟨q,hx⟩,H⟩
 rw [<-hΓ]
 exact fu hk (fun hP _=>xj (le_of_ble_eq_true hx) (hΓ.trans q) hP) H R
end
noncomputable def jb:bD:=fun Γ c st=>wO (C8 c) nO fun b=>(c=.builtin "len" ⟨[.str b.1 b.2],[]⟩/\Nat.ble b.1.length 1000=true,.fresh fun _=>.fresh fun t=>ret (.int (Int.ofNat b.1.length) t))
theorem f9{V:XV}{pr:Program}{w:World}:bE V (model pr w) jb:=by
 refine dQ fun{h0 d os Γ c st s p r s'} hΓ R=>fA fW fun⟨x,t⟩=>?_
 rintro⟨rfl,hb⟩ H
 obtain⟨rfl,rfl⟩:=cK H
 have hb:x.length<=1000:=le_of_ble_eq_true hb
 refine dw PySem.entry_len (by rw [hΓ];rfl) ?_
 refine wpAny_mono (wpAny_len_body (v:=.str x t) (T:="str") (n:=Int.ofNat x.length) (Q:=fun r' s''=>r'=.int (Int.ofNat x.length) (s.toks+1)/\s''={s with toks:=s.toks+1+1}) rfl PySem.F.slot_str_len PySem.F.entry_str_len (PySem.F.args_str_len_1 _) (gives_str_len x t) (by simp) (by have:(Int.ofNat x.length:Int)=(x.length:Int):=rfl;lia) ⟨rfl,rfl⟩) (fun fin s'' h=>?_) (fun _ _ h=>h)
 obtain⟨r',rfl,rfl,rfl⟩:=h
 exact⟨rfl,rfl⟩
noncomputable def IA{α:Type}:List α->Nat->Option α
 |[],_=>none
 |a::_,0=>some a
 |_::l,n+1=>IA l n
noncomputable def II(st:St)(i j:Nat):Tok×Value:=match st.T.get i with
 |some ⟨_,_,.dict ⟨l⟩ _,_⟩=>match IA l j with
  |some ⟨_,.str _ t,v⟩=>(t,v)
  |_=>(0,.none)
 |_=>(0,.none)
noncomputable def ly:Value->Tok
 |.int _ t=>t
 |_=>0
abbrev bU a b c:=II a b c
noncomputable def xN(W:WW)(vA:FA)(aF c1 aV aO B:Nat)(u1 u2 u3 tB:Tok)(tl:List DictEntry)(bP:Nat)(N iF iG mm ro:Nat):bL:=nI (X:=B2) (Vw W) (fun st=>True) (fun st=>⟨gL (pW W) aF c1,none,none,(Y1 vA),none⟩) (fun st=>[(A aF,jJ (pW W) aV aO u1 u2 u3 (bU st iF 3).1 tB B (bU st iF 3).2 ([aa (pW W) iZ (bU st iF 4).1 (.ref (A (b8 st iG))),aa (pW W) iT (bU st iF 5).1 (.int (Yh N) (ly (bU st iF 5).2))]++tl) bP),(A (b8 st iG),ix)]) [iF,iG] mm ro (fun st=>xh W vA aF c1 aV aO (b8 st iG) B u1 u2 u3 (bU st iF 3).1 (bU st iF 4).1 (bU st iF 5).1 tB (bU st iF 3).2 tl bP) (fun st x=>aY x.gs (dk B 20 N [])/\x.gs.size<=900)
theorem py(W:WW)(vA:FA)(aF c1 aV aO B:Nat)(u1 u2 u3 tB:Tok)(tl:List DictEntry)(bP:Nat)(N:Nat){iF iG:Nat}{V:XV}(hk:V.kt=eD (pW W))(hB:B=2\/B=3)(htl:Ii (pW W) tl bP)(hL:N<2^20):bX V (model pw (Vw W)) (xN W vA aF c1 aV aO B u1 u2 u3 tB tl bP N iF iG V.mm V.ro):=
 fn hk fun st h=>(vi W vA aF c1 aV aO _ B u1 u2 u3 _ _ _ tB _ tl bP hB htl 20 N _ hL (by decide)).toF
noncomputable def O9(c:Code):Option (Int×Tok):=match c with|.builtin _ ⟨.int a t::_,_⟩=>some (a,t)|_=>none
noncomputable def rx(mm ro:Nat):bL:=fun Γ p c st K=>wO (O9 c) False fun b=>c=.builtin "int.__abs__" ⟨[.int b.1 b.2],[]⟩/\qe (X:=cA) [] [] mm ro (fun z=>(.ok (.ret (.int (Int.ofNat b.1.natAbs) z.t)),[],[])) (fun _=>True) st K
theorem uc{w:World}{a:Int}{t:Tok}{G:Ctx}{p:Pos}{s:Shared}(hG:G.code=.builtin "int.__abs__" ⟨[.int a t],[]⟩)(hP:az w.params [] s):
  fV w G [] (fun z:cA=>(.ok (.ret (.int (Int.ofNat a.natAbs) z.t)),[],[])) (fun _=>True) p s:=by
 have key:∃(m:Made) (t':Tok) (s':Shared),Gives (Builtin.«int.__abs__» ⟨[.int a t],[]⟩) m/\m.post (fun v s''=>(Except.ok (.ret v):Result)=.ok (.ret (.int (Int.ofNat a.natAbs) t'))/\s''=s') s/\(s'=s\/s'={s with toks:=s.toks+1}):=by
  by_cases h:a<0
  ·have e: -a=Int.ofNat a.natAbs:=by show-a=((a.natAbs:Nat):Int);lia
   exact⟨_,s.toks,_,PySem.AutoIntG0.int___abs___int_0 a t h,by rw [e];exact⟨rfl,rfl⟩,.inr rfl⟩
  ·have e:a=Int.ofNat a.natAbs:=by show a=((a.natAbs:Nat):Int);lia
   exact⟨_,t,s,PySem.AutoIntG1.int___abs___int_1 a t h,⟨by rw [<-e],rfl⟩,.inl rfl⟩
 obtain⟨m,t',s',g,hp,hs⟩:=key
 have R:=bu (pr:=pw) (w:=w) g.meets (Γ:=G) (p:=p) (s:=s) (s':=s') (r:=.ok (.ret (.int (Int.ofNat a.natAbs) t'))) (by rw [hG];rfl) hp
 refine⟨⟨t'⟩,s',by rw [hG,bh PySem.F.entry_int_abs];exact R,?_,?_,trivial,trivial,(fun y hy=>nomatch hy),nodup_nil,trivial⟩
 ·rcases hs with rfl|rfl
  ·exact hP.rdy
  ·exact⟨hP.rdy.base,hP.rdy.gens,hP.rdy.size,Nat.le_succ_of_le hP.rdy.toks⟩
 ·rcases hs with rfl|rfl
  ·exact af.refl
  ·exact⟨fun _ _ q _=>q,rfl,rfl,Nat.le_refl _⟩
theorem mJ{w':World}{V:XV}(hk:V.kt=eD w'.params):bX V (model pw w') (rx V.mm V.ro):=by
 intro h0 d os Γ p c st K s H hΓ R
 revert H
 refine fA (P:=(·->_)) (fun h=>h.elim) fun b=>?_
 rintro⟨q,H⟩
 rw [<-hΓ]
 exact fu hk (fun hP _=>uc (hΓ.trans q) hP) H R
noncomputable def sd(d:Nat):Nat:=if d=0 then 32 else if d=1 then 49 else 127
structure fD(ds:List Nat):Prop where
 ne:ds≠[]
 lt:∀d∈ds,d<3
 len:ds.length<=20
 hd:∀d,ds.head? =some d->d≠0
theorem jo(B:Nat):∀f L acc,dk B f L acc=dk B f L []++acc
 |0,L,acc=>rfl
 |f+1,L,acc=>by
  unfold dk
  split
  ·rfl
  ·rw [jo B f _ (L % B::acc),jo B f _ [L % B],append_assoc];rfl
theorem nQ{B:Nat}(hB:B=2\/B=3):∀(f L:Nat),L<2^f->L≠0->(dk B f L [])≠[]/\(∀d∈dk B f L [],d<3)/\(dk B f L []).length<=f/\(∀d,(dk B f L []).head? =some d->d≠0)
 |0,L,h,h0=>by simp at h;exact absurd h h0
 |f+1,L,h,h0=>by
  have e:dk B (f+1) L []=dk B f (L/B) []++[L % B]:=by
   rw [dk,if_neg h0,jo]
  have hm:L % B<B:=mod_lt _ (by lia)
  have hlt:L/B<2^f:=by
   have h2:L/B<=L/2:=Nat.div_le_div_left (by lia) (by lia)
   have:2^(f+1)=2*2^f:=by rw [Nat.pow_succ,Nat.mul_comm]
   lia
  rw [e]
  by_cases hz:L/B=0
  ·rw [hz,jT]
   have hLB:L<B:=(Nat.div_eq_zero_iff.mp hz).resolve_left (by lia)
   have:L % B=L:=Nat.mod_eq_of_lt hLB
   refine⟨by simp,fun d hd=>?_,by simp,fun d hd=>?_⟩
   ·simp at hd;lia
   ·simp at hd;lia
  ·obtain⟨i1,i2,i3,i4⟩:=nQ hB f (L/B) hlt hz
   refine⟨by simp,fun d hd=>?_,by simp;lia,fun d hd=>?_⟩
   ·rcases List.mem_append.mp hd with hd|hd
    ·exact i2 d hd
    ·simp at hd;lia
   ·refine i4 d ?_
    cases h:dk B f (L/B) [] with
    |nil=>exact absurd h i1
    |cons a l=>rw [h] at hd;exact hd
theorem DV{B:Nat}(hB:B=2\/B=3){L:Nat}(h:L<2^20)(h0:L≠0):fD (dk B 20 L []):=by
 obtain⟨a,b,c,d⟩:=nQ hB 20 L h h0
 exact⟨a,b,c,d⟩
theorem wo(ls:List (List Nat)):Builtin.Str.glued ⟨⟨[]⟩⟩ (bM ls)=⟨⟨ls.flatten⟩⟩:=by
 have key:∀(l:List (List Nat)) (a:Array Nat),(bM l).foldl (fun acc p=>acc++(⟨⟨[]⟩⟩:Str).cps++p.cps) a=a++(⟨l.flatten⟩:Array Nat):=by
  intro l
  induction l with
  |nil=>intro a;apply Array.ext';simp [bM]
  |cons x l ih=>
   intro a
   show(bM l).foldl _ (a++(⟨[]⟩:Array Nat)++(⟨x⟩:Array Nat))=_
   rw [ih]
   apply Array.ext'
   simp
 cases ls with
 |nil=>rfl
 |cons x l=>
  show(⟨(bM l).foldl _ (⟨x⟩:Array Nat)⟩:Str)=_
  rw [key]
  refine congrArg Str.mk (Array.ext' ?_)
  simp
theorem pZ{ls:Array Value}{L:List (List Nat)}(h:aQ ls L)(hs:((bM L).map fun s=>s.length+(⟨⟨[]⟩⟩:Str).length).sum<=5000):gv ⟨⟨[]⟩⟩ ls/\bK ⟨⟨[]⟩⟩ ls=⟨⟨L.flatten⟩⟩:=by
 obtain⟨a,b⟩:=gd h hs
 exact⟨a,by rw [b,wo]⟩
theorem mS{ds:List Nat}{g:Nat->List Nat}(hg:∀d∈ds,(g d).length<=2)(h:ds.length<=20):((bM (ds.map g)).map fun s=>s.length+(⟨⟨[]⟩⟩:Str).length).sum<=5000:=by
 have:∀(l:List Nat),(∀d∈l,(g d).length<=2)->((bM (l.map g)).map fun s=>s.length+(⟨⟨[]⟩⟩:Str).length).sum<=2*l.length:=by
  intro l
  induction l with
  |nil=>intro _;simp [bM]
  |cons x l ih=>
   intro hl
   have:=ih fun d hd=>hl d (mem_cons_of_mem _ hd)
   have hx:=hl x (mem_cons_self ..)
   simp only [map_cons,bM,sum_cons,length_cons] at this⊢
   show((g x).length+0)+_<=_
   lia
 have:=this ds hg
 lia
theorem pn(bc d:Nat):(c7 bc d).length<=2:=by unfold c7;simp
theorem lT(d:Nat):(di d).length<=2:=by unfold di;(repeat' split)<;>decide
theorem yD{bc:Nat}{ds:List Nat}(hbc:128<=bc)(hne:ds≠[]):jU ⟨⟨(ds.map (c7 bc)).flatten⟩⟩=false:=by
 obtain⟨d,l,rfl⟩:∃d l,ds=d::l:=by cases ds with|nil=>exact(hne rfl).elim|cons d l=>exact⟨d,l,rfl⟩
 unfold jU
 simp [c7]
 omega
theorem qt{bc:Nat}(hbc:bc=917535\/bc=917632):∀{ds:List Nat},(∀d∈ds,d<3)->bR (ds.map (c7 bc)).flatten=(ds.map sd).map fun c=>[c]
 |[],_=>rfl
 |d::l,h=>by
  have ih:=qt hbc (ds:=l) fun x hx=>h x (mem_cons_of_mem _ hx)
  have hd:=h d (mem_cons_self ..)
  have e:bR ((d::l).map (c7 bc)).flatten=bR (c7 bc d)++bR (l.map (c7 bc)).flatten:=by
   unfold bR
   rw [map_cons,flatten_cons,List.filterMap_append,map_append]
  rw [e,ih]
  have:bR (c7 bc d)=[[sd d]]:=by
   rcases hbc with rfl|rfl<;>(have:d=0\/d=1\/d=2:=by lia)<;>rcases this with rfl|rfl|rfl<;>rfl
  rw [this];rfl
theorem sy{bc:Nat}(hbc:bc=917535\/bc=917632){ds:List Nat}(h:∀d∈ds,d<3):∀c∈(ds.map (c7 bc)).flatten,sz c:=by
 intro c hc
 obtain⟨l,hl,hc⟩:=List.mem_flatten.mp hc
 obtain⟨d,hd,rfl⟩:=List.mem_map.mp hl
 have:=h d hd
 unfold c7 at hc
 simp at hc
 unfold sz
 rcases hc with rfl|rfl
 ·lia
 ·(repeat' split)<;>lia
theorem jk{g:Nat->List Nat}(hg:∀d,(g d).length<=2):∀(ds:List Nat),(ds.map g).flatten.length<=2*ds.length
 |[]=>by simp
 |d::l=>by
  have:=jk hg l
  have:=hg d
  simp only [map_cons,flatten_cons,List.length_append,length_cons];lia
theorem ui(l:List Nat)(ls:List (List Nat)):(Builtin.Str.glued ⟨⟨[124]⟩⟩ (bM (l::ls))).cps.toList=l++(ls.map fun x=>124::x).flatten:=by
 have key:∀(l:List (List Nat)) (a:Array Nat),((bM l).foldl (fun acc p=>acc++(⟨⟨[124]⟩⟩:Str).cps++p.cps) a).toList=a.toList++(l.map fun x=>124::x).flatten:=by
  intro l
  induction l with
  |nil=>intro a;simp [bM]
  |cons x l ih=>
   intro a
   show((bM l).foldl _ (a++(⟨[124]⟩:Array Nat)++(⟨x⟩:Array Nat))).toList=_
   rw [ih]
   simp
 show((bM ls).foldl _ (⟨l⟩:Array Nat)).toList=_
 rw [key]
theorem gq:∀(ds:List Nat) (ls:List (List Nat)) (l:List Nat),(∀d∈ds,d<3)->∃ls' l',(ds.map sd).foldl cP (ls++[l])=ls'++[l']/\((ls'++[l']).map fun x=>124::x).flatten=((ls++[l]).map fun x=>124::x).flatten++(ds.map di).flatten
 |[],ls,l,_=>⟨ls,l,rfl,by simp⟩
 |d::ds,ls,l,h=>by
  have hd:=h d (mem_cons_self ..)
  have hr:=fun x hx=>h x (mem_cons_of_mem d hx)
  have:d=0\/d=1\/d=2:=by lia
  rw [map_cons,foldl_cons]
  rcases this with rfl|rfl|rfl
  ·rw [show sd 0=32 from rfl,gS]
   obtain⟨ls',l',e1,e2⟩:=gq ds ls (l++[32]) hr
   exact⟨ls',l',e1,by rw [e2];simp [show di 0=[32] from rfl]⟩
  ·rw [show sd 1=49 from rfl,dK _ (.inl rfl)]
   obtain⟨ls',l',e1,e2⟩:=gq ds (ls++[l]) [49] hr
   exact⟨ls',l',e1,by rw [e2];simp [show di 1=[124,49] from rfl]⟩
  ·rw [show sd 2=127 from rfl,dK _ (.inr rfl)]
   obtain⟨ls',l',e1,e2⟩:=gq ds (ls++[l]) [127] hr
   exact⟨ls',l',e1,by rw [e2];simp [show di 2=[124,127] from rfl]⟩
theorem oI{ds:List Nat}(h:fD ds):(i7 (ds.map sd)).cps.toList=(ds.map di).flatten.drop 1:=by
 obtain⟨d,l,rfl⟩:∃d l,ds=d::l:=by cases ds with|nil=>exact(h.ne rfl).elim|cons d l=>exact⟨d,l,rfl⟩
 have hd:=h.lt d (mem_cons_self ..)
 have h0:=h.hd d rfl
 have hr:=fun x hx=>h.lt x (mem_cons_of_mem d hx)
 have key:∀c,(sd d=c)->(c=49\/c=127)->di d=[124,c]->(i7 ((d::l).map sd)).cps.toList=((d::l).map di).flatten.drop 1:=by
  intro c e1 hc e2
  obtain⟨ls',l',q1,q2⟩:=gq l [] [c] hr
  have q1:(l.map sd).foldl cP [[c]]=ls'++[l']:=q1
  have e3:dZ ((d::l).map sd)=ls'++[l']:=by
   unfold dZ
   rw [map_cons,foldl_cons,e1,dK _ hc];exact q1
  unfold i7 yo
  rw [e3]
  rw [map_cons,flatten_cons,e2]
  have q2:((ls'++[l']).map fun x=>124::x).flatten=[124,c]++(l.map di).flatten:=by rw [q2];simp
  obtain⟨x,r,hx⟩:∃x r,ls'++[l']=x::r:=by
   cases hh:ls'++[l'] with
   |nil=>simp at hh
   |cons x r=>exact⟨x,r,rfl⟩
  rw [hx] at q2⊢
  rw [ui]
  have:=congrArg (List.drop 1) q2
  simpa using this
 have:d=1\/d=2:=by lia
 rcases this with rfl|rfl
 ·exact key 49 rfl (.inl rfl) rfl
 ·exact key 127 rfl (.inr rfl) rfl
theorem um{ls:Array Value}{ds:List Nat}{bc:Nat}(h:aQ ls (ds.map (c7 bc)))(hD:fD ds)(hbc:bc=917535\/bc=917632):gv ⟨⟨[]⟩⟩ ls/\jU (bK ⟨⟨[]⟩⟩ ls)=false/\(bK ⟨⟨[]⟩⟩ ls).cps.toList=(ds.map (c7 bc)).flatten:=by
 obtain⟨a,b⟩:=pZ h (mS (fun d _=>pn bc d) hD.len)
 exact⟨a,by rw [b];exact yD (by lia) hD.ne,by rw [b]⟩
theorem qj{ls:Array Value}{ds:List Nat}(h:aQ ls (ds.map di))(hD:fD ds):gv ⟨⟨[]⟩⟩ ls/\1<=(bK ⟨⟨[]⟩⟩ ls).length/\(bK ⟨⟨[]⟩⟩ ls).length<=1000/\(i7 (ds.map sd)).cps.toList=(lO (bK ⟨⟨[]⟩⟩ ls)).cps.toList:=by
 obtain⟨a,b⟩:=pZ h (mS (fun d _=>lT d) hD.len)
 have hl:=jk lT ds
 have:=hD.len
 refine⟨a,?_,?_,?_⟩
 ·rw [b]
  obtain⟨d,l,rfl⟩:∃d l,ds=d::l:=by cases ds with|nil=>exact(hD.ne rfl).elim|cons d l=>exact⟨d,l,rfl⟩
  show 1<=((d::l).map di).flatten.length
  have:1<=(di d).length:=by unfold di;(repeat' split)<;>decide
  rw [map_cons,flatten_cons,List.length_append];lia
 ·rw [b]
  show(ds.map di).flatten.length<=1000
  lia
 ·rw [b];exact oI hD
theorem pb{ds:List Nat}(hD:fD ds):(i7 (ds.map sd)).length<=40:=by
 have e:=congrArg List.length (oI hD)
 have hl:=jk lT ds
 have:=hD.len
 rw [List.length_drop] at e
 show(i7 (ds.map sd)).cps.size<=40
 rw [<-length_toList,e];omega
theorem g7{ds:List Nat}(hD:fD ds):Nat.ble (i7 (ds.map sd)).length 1000=true:=Nat.ble_eq.mpr (Nat.le_trans (pb hD) (by decide))
theorem FP(x y:Str):(tZ x y).length<=x.length:=by
 unfold tZ
 split
 ·exact Nat.le_refl _
 ·exact kY _ _ _
theorem tr{ds:List Nat}(hD:fD ds){y:Str}:Nat.ble (tZ (i7 (ds.map sd)) y).length 1000=true:=Nat.ble_eq.mpr (Nat.le_trans (FP _ _) (Nat.le_trans (pb hD) (by decide)))
theorem DT{ls:Array Value}{ds:List Nat}{bc:Nat}(h:aQ ls (bR (ds.map (c7 bc)).flatten))(hD:fD ds)(hbc:bc=917535\/bc=917632):cM ls (ds.map sd):=by
 rw [qt hbc hD.lt] at h
 exact kL h
theorem tT{ds:List Nat}{bc:Nat}(hD:fD ds)(hbc:bc=917535\/bc=917632):(ds.map (c7 bc)).flatten[0]? =some 917535\/(ds.map (c7 bc)).flatten[0]? =some 917632:=by
 obtain⟨d,l,rfl⟩:∃d l,ds=d::l:=by cases ds with|nil=>exact(hD.ne rfl).elim|cons d l=>exact⟨d,l,rfl⟩
 rcases hbc with rfl|rfl
 ·left;simp [c7]
 ·right;simp [c7]
theorem zU{ds:List Nat}{bc:Nat}(hD:fD ds):(ds.map (c7 bc)).flatten.length<=900:=by
 have hl:=jk (pn bc) ds
 have:=hD.len
 lia
theorem mO(W:WW)(vA:FA){ds:List Nat}(hD:fD ds){i140 i147 iS:Nat}{t140 t147:List Value}{V:XV}(hk:V.kt=eD (pW W))(htab:t140=[]/\t147=[]\/∃r1 r2,t140=[.int 67 0,.int 19 0,.ref r1]/\t147=[.int 70 0,.int 32 0,.ref r2]):bX V (model pw (Vw W)) (sU W vA (ds.map sd) i140 i147 iS V.mm V.ro t140 t147):=by
 obtain⟨d,l,rfl⟩:∃d l,ds=d::l:=by cases ds with|nil=>exact(hD.ne rfl).elim|cons d l=>exact⟨d,l,rfl⟩
 have hd:=hD.lt d (mem_cons_self ..)
 have h0:=hD.hd d rfl
 refine yG W vA (sd d) (l.map sd) hk ?_ ?_ ?_ htab
 ·unfold sd
  have:d=1\/d=2:=by lia
  rcases this with rfl|rfl
  ·left;rfl
  ·right;rfl
 ·intro c hc
  obtain⟨x,hx,rfl⟩:=List.mem_map.mp hc
  unfold sd
  (repeat' split)<;>lia
 ·have:=hD.len
  simp at this⊢;lia
theorem lw{a b:Int}{t u:Tok}{v:Bool}{l}(h:(a !=b)=v):av (.builtin "int.__ne__" ⟨[.int a t,.int b u],[]⟩) l (.val (.bool v)):=by
 subst h;exact av.mk PySem.F.entry_int_ne (gives_int_ne a b t u) trivial
theorem m4{k r:Nat}{t u:Tok}{l}(h:k % 2=r):av (.builtin "int.__mod__" ⟨[.int (Int.ofNat k) t,.int (Int.ofNat 2) u],[]⟩) l (.int (Int.ofNat r)):=by
 subst h;exact m5 (.inl rfl)
abbrev kv(a:Nat)(b:Int):=dk a 20 b.natAbs []
abbrev rO(a:Nat)(b:Int):=i7 (List.map sd (kv a b))
noncomputable def iu(B:Nat)(v:Int):Int:=Int.ofNat (rO B v).length-Int.ofNat (tZ (rO B v) ⟨⟨[32]⟩⟩).length
theorem A6{w':World}{al rw sm ob}{fz:List df}{E:ae}(ha:ew (jw w') al)(hs:fM (fk w' E.length al rw sm ob fz) (jw w') sm){Γ:Ctx}{p:Pos}{t:Sem Fin}{hl:List Nat}{N:Nat}{is:List Nat}{Z:Ev->Nat->Nat->List wX->List df->Prop}{s:Shared}(hP:az w'.params E s){n tb gb:Nat}
  (hn:s.heap.objs.size=n) (ht:s.toks=tb) (hg:s.gens.size=gb) (his:is.take E.length=List.range E.length) (hge:((is.drop E.length).all fun i=>Nat.ble E.length i)=true)
  (hZ:∀ev nk tk l f,Z ev nk tk l f->(l.map (·.1)).take E.length=E.map (·.1)/\677<=tk)
  (hfz:cF fz E s) (H:ch (fk w' E.length al rw sm ob fz) N Γ p t [] hl (qR E n tb gb) (sN is fun ev nk tk fin l f=>fin=true/\Z ev nk tk l f)):
  ∃ev s' l f,dB (jw w') Γ p t [] s ev s'/\Z ev s'.heap.objs.size s'.toks l f/\f8 l s'.heap/\cL w'.params s'/\af E s s'/\(∀x∈f,s'.heap.get? x.1=some x.2/\x.1∉l.map (·.1)/\s.heap.objs.size<=x.1)/\∀a∈(l.drop E.length).map (·.1),s.heap.objs.size<=a:=by
 refine gQ fun Q zQ=>?_
 obtain⟨ev,hs',st',s',r,R,hf,z⟩:=gY (rr ha hs) N Γ p t [] hl _ _ s H (zG (V:=fk w' E.length al rw sm ob fz) rfl rfl rfl hP.rdy hP.has hP.nd hP.lo hn ht hg hfz)
 rw [Bool.and_eq_true] at hf
 have e1:s'.heap.objs.size=Nat.add st'.n st'.k:=R.size
 have e2:s'.toks=Nat.add st'.tb st'.ti:=R.toks
 rw [<-e1,<-e2] at z
 obtain⟨h1,h3⟩:=hZ _ _ _ _ _ z
 refine zQ ?_
 have hsz:s.heap.objs.size<=s'.heap.objs.size:=by rw [e1];exact Nat.le_trans R.h0n (le_add_right _ _)
 refine⟨ev,s',_,_,r,z,fZ R is,⟨fun a o e=>R.kt a o e,fC R hf.1,?_,?_⟩,⟨fun b o e hb=>?_,R.drawn,R.os,hsz⟩,fun x hx=>⟨(R.dz x hx).1,fun hm=>?_,(R.dz x hx).2.2⟩,fun a ha=>?_⟩
 ·have:=hP.rdy.size;lia
 ·exact h3
 ·refine R.keep b o e fun i hi q=>hb ?_
  have hi:i<E.length:=hi
  rw [<-h1,map_map]
  rw [<-q]
  have hm:(is.map fun i=>bm st'.L st'.n i).take E.length=(List.range E.length).map fun i=>bm st'.L st'.n i:=by rw [<-map_take,his]
  show bm st'.L st'.n i∈((is.map fun i=>bm st'.L st'.n i).take E.length)
  rw [hm]
  exact List.mem_map.mpr ⟨i,List.mem_range.mpr hi,rfl⟩
 ·rw [map_map] at hm
  obtain⟨i,hi,e⟩:=List.mem_map.mp hm
  have e:bm st'.L st'.n i=x.1:=e
  have hlt:=List.all_eq_true.mp hf.2 i hi
  exact(R.dz x hx).2.1 i (le_of_ble_eq_true hlt) e
 ·obtain⟨x,hx,rfl⟩:=List.mem_map.mp ha
  rw [<-List.map_drop] at hx
  obtain⟨i,hi,e⟩:=List.mem_map.mp hx
  subst e
  have hlt:=List.all_eq_true.mp hf.2 i (List.mem_of_mem_drop hi)
  have hg:=List.all_eq_true.mp hge i hi
  exact R.new i (le_of_ble_eq_true hg) (le_of_ble_eq_true hlt)
theorem az.mid{P:Params}{E1 E2 E3:ae}{s:Shared}(h:az P (E1++(E2++E3)) s):az P E2 s:=by
 have nd:=h.nd
 rw [map_append,map_append] at nd
 have nd2:=(List.nodup_append.mp nd).2.1
 exact⟨h.rdy,(cg.mp (cg.mp h.has).2).1,(List.nodup_append.mp nd2).1,fun a ha=>h.lo a (by rw [map_append,map_append];exact mem_append_right _ (mem_append_left _ ha))⟩
theorem lm{E T:ae}{s s':Shared}(k:af E s s')(h:cG T s.heap)(hd:∀a∈T.map (·.1),a∉E.map (·.1)):cG T s'.heap:=by
 induction T with
 |nil=>trivial
 |cons x T ih=>exact⟨k.keep _ _ h.1 (hd _ (mem_cons_self ..)),ih h.2 fun a ha=>hd a (mem_cons_of_mem _ ha)⟩
theorem az.mid_back{P:Params}{E1 E2 E3 F2:ae}{s s':Shared}(h:az P (E1++(E2++E3)) s)(hF:cG F2 s'.heap)(k:af E2 s s'):cG (E1++(F2++E3)) s'.heap/\af (E1++(E2++E3)) s s':=by
 have nd:=h.nd
 rw [map_append,map_append] at nd
 have n1:=List.nodup_append.mp nd
 have n2:=List.nodup_append.mp n1.2.1
 have hh:=cg.mp h.has
 have hh2:=cg.mp hh.2
 refine⟨cg.mpr ⟨lm k hh.1 fun a ha hb=>n1.2.2 a ha a (mem_append_left _ hb) rfl,cg.mpr ⟨hF,lm k hh2.2 fun a ha hb=>n2.2.2 a hb a ha rfl⟩⟩,⟨fun b o q hb=>k.keep b o q fun hm=>hb ?_,k.drawn,k.os,k.size⟩⟩
 rw [map_append,map_append]
 exact mem_append_right _ (mem_append_left _ hm)
theorem p9{W:WW}{al rw sm ob}{fz:List df}{E EL:WW->ae}{Γ:Ctx}{p:Pos}{t:Sem Fin}{N:Nat}{is:List Nat}{s:Shared}(hE:E=EL)(hP:az (pW W) (E W) s){n tb gb:Nat}
  (hn:s.heap.objs.size=n) (ht:s.toks=tb) (hg:s.gens.size=gb) (f g:ae->WW->(Ev->Nat->Nat->Bool->List wX->List df->Prop)->List Nat->Prop) (L:WW->List Nat) {Q:Prop}
  (hq:GS f g EL L) (hf:f (E W) W=fun Z hs=>ch (fk (Vw W) (EL W).length al rw sm ob fz) N Γ p t [] hs (qR (E W) n tb gb) (sN is Z))
  (ha:ew (Yt W) al) (hs:fM (fk (Vw W) (EL W).length al rw sm ob fz) (Yt W) sm) (his:is.take (EL W).length=List.range (EL W).length) (hge:((is.drop (EL W).length).all fun i=>Nat.ble (EL W).length i)=true) (hfz:cF fz (E W) s)
  (HR:∀hs,g (E W) W (fun ev _ tk fin l f=>fin=true/\(l.map (·.1)).take (EL W).length=(EL W).map (·.1)/\677<=tk/\∀s',dB (Yt W) Γ p t [] s ev s'->s'.toks=tk->f8 l s'.heap->cL (pW W) s'->af (E W) s s'->(∀x∈f,s'.heap.get? x.1=some x.2/\x.1∉l.map (·.1)/\s.heap.objs.size<=x.1)->(∀a∈(l.drop (EL W).length).map (·.1),s.heap.objs.size<=a)->Q) hs):Q:=by
 subst hE
 obtain⟨_,s',_,_,r,z,h3,h4,h5,h6,h7⟩:=A6 (Z:=fun ev _ tk l f=>(l.map (·.1)).take (E W).length=(E W).map (·.1)/\677<=tk/\∀s',dB (Yt W) Γ p t [] s ev s'->s'.toks=tk->f8 l s'.heap->cL (pW W) s'->af (E W) s s'->(∀x∈f,s'.heap.get? x.1=some x.2/\x.1∉l.map (·.1)/\s.heap.objs.size<=x.1)->(∀a∈(l.drop (E W).length).map (·.1),s.heap.objs.size<=a)->Q) ha hs hP hn ht hg his hge (fun _ _ _ _ _ h=>⟨h.1,h.2.1⟩) hfz (Eq.mpr ((congrFun (congrFun hf _) _).symm.trans (hq W _)) (HR _))
 exact z.2.2 s' r rfl h3 h4 h5 h6 h7
structure FD where mk::(p3 p4 p5 p6:Pos) (te2:Expr) (i2:Value) (bo2 e2:List Stmt) (nA nB nC:Env) (f1 f2:List Stmt)
noncomputable abbrev CZ(a:FD):Code×Pos:=(.forLoop a.te2 a.i2 a.bo2 a.e2 a.nB,a.p4)
abbrev i5 a b:=((A a,⟨Yu,none,.cell b,⟨[]⟩⟩):Nat×Obj)
noncomputable abbrev ya a:=([(.func a.f1 a.nA,a.p3),(CZ a),(.func a.f2 a.nC,a.p5),(Y7,a.p6)]:List (Code×Pos))
abbrev wW a b c:=(A a,ah "frame" b c)
theorem Gx(W:WW)(p0:Pos)(vD:FD)(aF c1 aI k bP:Nat)(frl:List DictEntry)(vc:Option Value)(s:Shared)(E:WW->ae)(hE:E=fun W=>[(wW aF frl bP),(i5 c1 vc),(kA aI k)])(hP:az (pW W) (E W) s){Q:Prop}(kQ:∀(n tb:Nat) (s':Shared),Hn s n->Ht s tb->Runs (Yt W) (⟨fj (pW W) aF c1 aI,none,none,(ya vD),none⟩) p0 ((Yt W).den (fj (pW W) aF c1 aI)) [] s ft s'->cL (pW W) s'->cG ([(wW aF frl bP),(i5 c1 vc),(kA aI k)]) s'.heap->af (E W) s s'->Q):Q:=by
 obtain⟨n,tb,gb,hn,ht,hg⟩:=hP.nt
 refine bT hE hP hn ht hg (fun E W Z hs=>ch (oX W 3) 56 (⟨fj (pW W) aF c1 aI,none,none,(ya vD),none⟩) (p0) (a8 (fj (pW W) aF c1 aI)) [] hs (cN E n tb gb) (lY Z)) (fun E W Z hs=>ad (lE E) (A n) gb (sl hs 0 6) (Z oW (Y2 n 2) (Y8 tb 0) true (ax ([(wW aF frl bP),(i5 c1 vc),(kA aI k)])))) (fun _=>[3,3,3,3,3,5]) (oU (by kernel_rfl)) rfl trivial (by exact trivial) rfl fun hs=>?_
 exact rF fun s' r _ h3 h4 h5=>kQ n tb s' hn ht (by rw [bG];exact r) h4 (ai h3) h5
abbrev JR(a:Nat)(b:Int):=List.map sd (kv a b)
abbrev As a b c d e f g h i:=[140,147,(A a),(A b),(A c),(A d),(A e),(Y2 f 0),(Y2 g 0),(Y2 g 1),(Y2 g 2),(Y2 g 3),(Y2 h 0),(Y2 h 1),(Y2 h 2),(Y2 i 0),(Y2 i 1),(Y2 i 2)]
abbrev HB(a b c:Nat)(d:Array Value)(e:Int)(f:Tok):=(Rf (.builtin "list.__getitem__" ⟨[(Yp a),(.int (Yh b) (TK c))],[]⟩:Code))/\(bN (Yh b)/\((((seqIndex? (Yh b) d.size).bind fun j=>d[j]?):i6)=(some (iU e f))))
abbrev Dm a b c:=(.int (Int.ofNat b) (Y8 a c):Value)
abbrev HA a b c d e f g h i j:=[140,147,(A a),(A b),(A c),(A d),(A e),(Y2 f 0),(Y2 g 0),(Y2 g 1),(Y2 g 2),(Y2 g 3),(Y2 h 0),(Y2 h 1),(Y2 h 2),(Y2 i 0),(Y2 i 1),(Y2 i 2),(Y2 j 0)]
abbrev rA a b c:=(((A a),⟨(.type "list"),none,(.seq (b) c),⟨[]⟩⟩):Nat×Obj)
noncomputable abbrev NI(a:pd):Obj:=⟨.type "list",none,.seq (a.ls) a.ep,⟨[]⟩⟩
abbrev Pr(a b:Nat)(c:pd)(d e:Nat):=(Rf (.builtin "str.join" ⟨[.str (Str.mk ⟨[]⟩) (Y8 a d),.ref (Y2 b e)],[]⟩:Code))/\(Rf ((NI c):Obj))/\gv (Str.mk ⟨[]⟩) (c.ls)
abbrev En(a:pd):=bK (Str.mk (Array.mk [])) a.ls
abbrev Hi a b c d e f g:=[140,147,(A a),(A b),(A c),(A d),(A e),(Y2 f 0),(Y2 g 0),(Y2 g 1),(Y2 g 2),(Y2 g 3)]
noncomputable abbrev EH(a:FD):Code×Pos:=(.func a.f1 a.nA,a.p3)
noncomputable abbrev Ei(a:FD):Code×Pos:=(.func a.f2 a.nC,a.p5)
abbrev J9 a b c d e f g h:=[140,147,(A a),(A b),(A c),(A d),(A e),(Y2 f 0),(Y2 g 0),(Y2 g 1),(Y2 g 2),(Y2 g 3),(Y2 h 0),(Y2 h 1),(Y2 h 2)]
abbrev PG:=(gC [90005,40003,40006,4000,4001,3,3,0,0,3,3,40006,4002,3001,7000,3,3,1001,0,0,3,4003,50009,4,4,3,8,8,8,10,1002,30012,7003,3,3,0,3,4004,13,1004,30015,0,1005,40003,8,8,8,16,1006,30018,7007,4005,4006,3,40007,3,0,0,3,4007,0,0,3,7008,4008,7,4009,7,3000])
abbrev Lb(a:u0)(b:cA)(c:Nat):Code:=.builtin "str.__getitem__" ⟨[(.str (bK (Str.mk (Array.mk [])) a.ls) b.t),(dV c 0)],[]⟩
noncomputable abbrev Am:=(.type "range_iterator":Value)
noncomputable abbrev PH(a:fw):Nat×Obj:=(140,⟨.none,none,(.fields ⟨[(.int (Int.ofNat 67) 0),(.int (Int.ofNat 19) 0),(.ref a.r1)]⟩),⟨[]⟩⟩)
noncomputable abbrev PV(a:fw):Nat×Obj:=(147,⟨.none,none,(.fields ⟨[(.int (Int.ofNat 70) 0),(.int (Int.ofNat 32) 0),(.ref a.r2)]⟩),⟨[]⟩⟩)
abbrev Ji a b c:=Rf (.builtin "list.append" ⟨[(Yp a),(dV b c)],[]⟩:Code)
abbrev Id a b c:=(db a c,aK "list_iterator" [.ref (A (cQ b)),Ym])
noncomputable abbrev qN:=Str.mk ⟨eH⟩
abbrev PJ(a:Nat)(b:Int)(c:cA):=(Rf (.builtin "len" ⟨[(.str (tZ (rO a b) (Str.mk (Array.mk [32]))) c.t)],[]⟩:Code))/\((((tZ (rO a b) (Str.mk (Array.mk [32]))).length.ble 1000):(Bool))=(true))
abbrev HK a b c d e f:=[140,147,(A a),(A b),(A c),(A d),(A e),(Y2 f 0)]
noncomputable abbrev sZ:=Str.mk ⟨gE⟩
noncomputable abbrev EZ:=Str.mk ⟨Yq⟩
abbrev Ps a b c d e f:=(((Y2 a 0),⟨(.type "tuple"),none,(.seq ⟨[(kh b c),(.int (Int.ofNat (rO d e).length-Int.ofNat (tZ (rO d e) (Str.mk (Array.mk [32]))).length) (Y8 f 2))]⟩ 0),⟨[]⟩⟩):Nat×Obj)
noncomputable abbrev D3:=(.type "frame":Value)
abbrev Pz(a b:Nat)(c:u0):=(Rf (.builtin "str.join" ⟨[.str (Str.mk ⟨[]⟩) (Y8 a 1),.ref (Y2 b 1)],[]⟩:Code))/\(Rf (⟨.type "list",none,.seq (c.ls) c.ep,⟨[]⟩⟩:Obj))/\gv (Str.mk ⟨[]⟩) (c.ls)
abbrev PP(a:Nat)(b:Int)(c:fw)(d:Nat):=(Rf (.builtin "str.rstrip" ⟨[.str (rO a b) c.t,.str (EU 32) (Y8 d 4)],[]⟩:Code))/\(Nat.ble (Str.length (rO a b)) 1000=true)
abbrev Qd(a:pd)(b:cA):=(Rf (.builtin "str.__iter__" ⟨[(.str (En a) b.t)],[]⟩:Code))/\(((jU (En a)):(Bool))=(false))
abbrev Qk(a:Nat)(b:Int)(c:fw):=(Rf (.builtin "len" ⟨[(.str (rO a b) c.t)],[]⟩:Code))/\((((rO a b).length.ble 1000):(Bool))=(true))
abbrev Oa a b c:=(.builtin "int.__ne__" ⟨[(iU a b),(.int Yx (Y8 c 2))],[]⟩:Code)
theorem Cu(W:WW)(p0:Pos)(vD:FD)(aF c1 aI aV aO B k m:Nat)(v:Int)(u1 u2 u3 u4 u5 u6 u7 u8 tB tv:Tok)(vPl vFi vLe vTx vTo:Value)(vc:Option Value)(t140 t147:List Value)(vs pts:Array Value)(epV epO:Nat)(s:Shared)(hfk:bN (Yh k))(hvs:(Ag k vs).bind (fun j=>vs[j]?)=some (bY v tv))(hv:(v !=0)=true)(hpar:k % 2=0)(hB:B=2\/B=3)(hL:v.natAbs<2^20)(hD:fD (kv B v))(htab:t140=[]/\t147=[]\/∃r1 r2,t140=(jG r1)/\t147=(jR r2))(hsz:pts.size<=1000)(E:WW->ae)(hE:E=fun W=>[(140,bB t140),(147,bB t147),(A aF,ah "frame" [aa (pW W) gE u1 (Yp aV),aa (pW W) eH u2 (co B tB),aa (pW W) Yq u3 (Yp aO)] 3),(i5 c1 vc),(qQ aI k m),(Yk aV vs epV),(Yk aO pts epO)])(hP:az (pW W) (E W) s){Q:Prop}(kQ:∀(n tb:Nat) (s':Shared) (r1 r2:Addr) (y4 y5 y6 y7 y8 yp:Tok) (w5 w6 w7 w8:Value) (wc:Option Value) (nt:Nat) (ep:Nat) (ta tz:Tok),Hn s n->Ht s tb->br (Yt W) (⟨fj (pW W) aF c1 aI,none,none,(ya vD),none⟩) p0 s s'->cL (pW W) s'->cG ([(140,bB (jG r1)),(147,bB (jR r2)),(A aF,ah "frame" [aa (pW W) gE u1 (Yp aV),aa (pW W) eH u2 (co B tB),aa (pW W) Yq u3 (Yp aO),aa (pW W) mj y4 (co k yp),aa (pW W) iZ y5 w5,aa (pW W) iT y6 w6,aa (pW W) Ea y7 w7,aa (pW W) D4 y8 w8] 8),(i5 c1 wc),(A aI,aK "range_iterator" [qS k,.int (Int.ofNat (Nat.succ m)-1) 0,jv]),(Yk aV vs epV),(A aO,ab (pts.push (Yp nt)) ep),(A nt,a9 [.int (Yh k) ta,.int (iu B v) tz] 0)]) s'.heap->af (E W) s s'->s.heap.objs.size<=A nt->Q):Q:=by
 obtain⟨n,tb,gb,hn,ht,hg⟩:=hP.nt
 refine p9 (fz:=[]) hE hP hn ht hg (fun E W Z hs=>ch (ec (Vw W) 7 [(cn 5 (bY v tv)),po,(cn 5 (bY v tv)),(gf [] (.int Yx)),kJ,(dH [18] tM),mu,jb,jb,(b9 6)] [] [rx 7 7,xN W ⟨⟨121,12,123,35⟩,vD.p3,vD.p4,vD.p5,vD.p6,(em (dF (pW W))),vD.te2,(sW aI),vD.i2,(bk (dF (pW W))),vD.bo2,(cH (dF (pW W))),vD.e2,(bj (pW W) aF c1),vD.nA,vD.nB,vD.nC,vD.f1,vD.f2⟩ aF c1 aV aO B u1 u2 u3 tB [] 6 v.natAbs 2 7 7 7,xF W ⟨⟨125,89,125,96⟩,vD.p3,vD.p4,vD.p5,vD.p6,(em (dF (pW W))),vD.te2,(sW aI),vD.i2,(bk (dF (pW W))),vD.bo2,(cH (dF (pW W))),vD.e2,(bj (pW W) aF c1),vD.nA,vD.nB,vD.nC,vD.f1,vD.f2⟩ aF c1 917535 (kv B v) 11 9 10 7 3 7 7,gZ 10 7 7,zZ W ⟨⟨126,67,126,71⟩,vD.p3,vD.p4,vD.p5,vD.p6,(em (dF (pW W))),vD.te2,(sW aI),vD.i2,(bk (dF (pW W))),vD.bo2,(cH (dF (pW W))),vD.e2,(bj (pW W) aF c1),vD.nA,vD.nB,vD.nC,vD.f1,vD.f2⟩ aF c1 (List.flatten (List.map (c7 917535) (kv B v))) 14 12 13 7 7,sU W ⟨⟨126,19,126,94⟩,vD.p3,vD.p4,vD.p5,vD.p6,(em (dF (pW W))),vD.te2,(sW aI),vD.i2,(bk (dF (pW W))),vD.bo2,(cH (dF (pW W))),vD.e2,(bj (pW W) aF c1),vD.nA,vD.nB,vD.nC,vD.f1,vD.f2⟩ (JR B v) 0 1 13 7 7 t140 t147,yN W ⟨⟨127,82,127,89⟩,vD.p3,vD.p4,vD.p5,vD.p6,(em (dF (pW W))),vD.te2,(sW aI),vD.i2,(bk (dF (pW W))),vD.bo2,(cH (dF (pW W))),vD.e2,(bj (pW W) aF c1),vD.nA,vD.nB,vD.nC,vD.f1,vD.f2⟩ aF c1 (kv B v) 17 15 16 7 7 7,gZ 16 7 7,xr 7 7] []) 325 (⟨fj (pW W) aF c1 aI,none,none,(ya vD),none⟩) (p0) (a8 (fj (pW W) aF c1 aI)) [] hs (cN E n tb gb) (sN [0,1,2,3,4,5,6,19] Z)) (fun E W Z hs=>ad (lE E) (A n) gb (sl hs 0 17) ((HB aV k tb vs v tv)/\ad (lE E) (A n) gb (sl hs 17 0) ((av (Oa v tv tb) [] wB/\Yc)/\ad (lE E) (A n) gb (sl hs 19 10) ((HB aV k tb vs v tv)/\ad (lE E) (A n) gb (sl hs 29 0) ((Rf (.builtin "int.__abs__" ⟨[.int (v) tv],[]⟩:Code))/\(Rf (ax ([])))/\Yc/\Yc/\∀(x0:cA) (n0 tb0 gb0:Nat),True->Yc/\ad (HK aF c1 aI aV aO n) (A n0) gb0 (sl hs 32 2) (True/\(Rf (⟨gL (pW W) aF c1,none,none,[(.forLoop (em (dF (pW W))) (Yp aI) (bk (dF (pW W))) (cH (dF (pW W))) (bj (pW W) aF c1),⟨121,12,123,35⟩),(EH vD),(CZ vD),(Ei vD),(Y7,vD.p6)],none⟩:Ctx))/\(Rf (ax ([(A aF,jJ (pW W) aV aO u1 u2 u3 (Y8 tb 1) tB B (kh k tb) ([aa (pW W) iZ (Y8 tb 3) (.ref (A (cQ n))),aa (pW W) iT (TK tb0) (.int (Int.ofNat (v.natAbs)) x0.t)]++[]) 6),(mD n 0)])))/\Yc/\Yc/\∀(x1:B2) (n1 tb1 gb1:Nat),aY x1.gs (kv B v)/\x1.gs.size<=900->Yc/\ad (HK aF c1 aI aV aO n) (A n1) gb1 (sl hs 35 3) ((av (.builtin "int.__mod__" ⟨[(kh k tb),(Dm tb1 2 2)],[]⟩) [] (Made.int Yx)/\Yc)/\ad (HK aF c1 aI aV aO n) (A n1) gb1 (sl hs 39 12) ((aY (x1.gs) (kv B v))/\(Rf (⟨ay (ao (fi (pW W)) (bj (pW W) aF c1) (bJ n1 3) (dD n1) (bJ n1 2)),none,none,[(.forLoop (em (dF (pW W))) (Yp aI) (bk (dF (pW W))) (cH (dF (pW W))) (bj (pW W) aF c1),⟨125,89,125,96⟩),(EH vD),(CZ vD),(Ei vD),(Y7,vD.p6)],none⟩:Ctx))/\(Rf (ax ([(db n1 3,eG),(Id n1 n 1),(db n 0,ab (x1.gs) x1.ep),(mD n1 2),(A c1,⟨Yu,none,.cell (some (.str ⟨⟨[917535]⟩⟩ (Y8 tb1 4))),⟨[]⟩⟩)])))/\Yc/\Yc/\∀(x2:pd) (n2 tb2 gb2:Nat),aQ x2.ls (List.map (c7 917535) (kv B v))->Yc/\ad (Hi aF c1 aI aV aO n n1) (A n2) gb2 (sl hs 52 3) ((Pr tb1 n1 x2 5 2)/\(Rf (ax ([((Y2 n1 2),((NI x2):Obj))])))/\Yc/\Yc/\∀(x3:cA) (n3 tb3 gb3:Nat),True->Yc/\ad (Hi aF c1 aI aV aO n n1) (A n3) gb3 (sl hs 56 4) ((Qd x2 x3)/\ad (Hi aF c1 aI aV aO n n1) (A n3) gb3 (sl hs 61 1) ((Array.toList (Str.cps (En x2))=(List.flatten (List.map (c7 917535) (kv B v))))/\(Rf (⟨ay (ao (eB (pW W)) (bj (pW W) aF c1) (bJ n3 2) (cQ n3) (dD n3)),none,none,[(.forLoop (em (dF (pW W))) (Yp aI) (bk (dF (pW W))) (cH (dF (pW W))) (bj (pW W) aF c1),⟨126,67,126,71⟩),(EH vD),(CZ vD),(Ei vD),(Y7,vD.p6)],none⟩:Ctx))/\(Rf (ax ([(db n3 2,eG),(db n3 0,aK "str_iterator" [.str (En x2) x3.t,Ym]),(mD n3 1)])))/\Yc/\Yc/\∀(x4:BS) (n4 tb4 gb4:Nat),aQ x4.ls (bR (List.flatten (List.map (c7 917535) (kv B v))))->Yc/\ad (J9 aF c1 aI aV aO n n1 n3) (A n4) gb4 (sl hs 63 4) ((cM (x4.ls) (JR B v))/\(Rf (wy (dD n3) ⟨⟨126,19,126,94⟩,vD.p3,vD.p4,vD.p5,vD.p6,(em (dF (pW W))),vD.te2,(sW aI),vD.i2,(bk (dF (pW W))),vD.bo2,(cH (dF (pW W))),vD.e2,(bj (pW W) aF c1),vD.nA,vD.nB,vD.nC,vD.f1,vD.f2⟩:Ctx))/\(Rf (ax ([(140,bB t140),(147,bB t147),(db n3 1,ab (x4.ls) x4.ep)])))/\Yc/\Yc/\∀(x5:fw) (n5 tb5 gb5:Nat),True->Yc/\ad (J9 aF c1 aI aV aO n n1 n3) (A n5) gb5 (sl hs 68 8) ((aY (x1.gs) (kv B v))/\(Rf (⟨ay (ao (ff (pW W)) (bj (pW W) aF c1) (bJ n5 2) (cQ n5) (dD n5)),none,none,[(.forLoop (em (dF (pW W))) (Yp aI) (bk (dF (pW W))) (cH (dF (pW W))) (bj (pW W) aF c1),⟨127,82,127,89⟩),(EH vD),(CZ vD),(Ei vD),(Y7,vD.p6)],none⟩:Ctx))/\(Rf (ax ([(db n5 2,eG),(Id n5 n 0),(db n 0,ab (x1.gs) x1.ep),(mD n5 1)])))/\Yc/\Yc/\∀(x6:u0) (n6 tb6 gb6:Nat),aQ x6.ls (List.map di (kv B v))->Yc/\ad (As aF c1 aI aV aO n n1 n3 n5) (A n6) gb6 (sl hs 77 3) ((Pz tb5 n5 x6)/\(Rf (ax ([((Y2 n5 1),(⟨.type "list",none,.seq (x6.ls) x6.ep,⟨[]⟩⟩:Obj))])))/\Yc/\Yc/\∀(x7:cA) (n7 tb7 gb7:Nat),True->Yc/\ad (As aF c1 aI aV aO n n1 n3 n5) (A n7) gb7 (sl hs 80 0) ((av (Lb x6 x7 n7) [((Y2 n7 0),(some ⟨(.type "slice"),none,(.fields ⟨[(.int (Int.ofNat 1) (TK tb7)),.none,.none]⟩),⟨[]⟩⟩))] (tM (Lb x6 x7 n7))/\Yc)/\ad (As aF c1 aI aV aO n n1 n3 n5) (A n7) gb7 (sl hs 80 0) ((av (.builtin "str.__ne__" ⟨[(.str (rO B v) x5.t),(.str (Str.mk ({toList:=List.drop 1 (bK (Str.mk (Array.mk [])) x6.ls).cps.toList})) (Y8 tb7 1))],[]⟩) [] wx/\Yc)/\ad (As aF c1 aI aV aO n n1 n3 n5) (A n7) gb7 (sl hs 83 9) ((Qk B v x5)/\ad (As aF c1 aI aV aO n n1 n3 n5) (A n7) gb7 (sl hs 93 3) ((PP B v x5 tb7)/\(Rf (ax ([])))/\Yc/\Yc/\∀(x8:cA) (n8 tb8 gb8:Nat),True->Yc/\ad (HA aF c1 aI aV aO n n1 n3 n5 n7) (A n8) gb8 (sl hs 96 0) ((PJ B v x8)/\ad (HA aF c1 aI aV aO n n1 n3 n5 n7) (A n8) gb8 (sl hs 98 1) (((Ji aO n8 0)/\(rJ pts))/\ad (HA aF c1 aI aV aO n n1 n3 n5 n7) (A n8) gb8 (sl hs 100 1) (Z (.again (fj (pW W) aF c1 aI)) (Y2 n8 1) (Y8 tb8 3) true (ax ([(PH x5),(PV x5),((A aF),⟨D3,none,(.dict ⟨[⟨(PyData.keyHash (pW W) sZ),(.str sZ u1),(Yp aV)⟩,⟨(PyData.keyHash (pW W) qN),(.str qN u2),(co B tB)⟩,⟨(PyData.keyHash (pW W) (Str.mk ⟨Yq⟩)),(.str EZ u3),(Yp aO)⟩,⟨(PyData.keyHash (pW W) (Str.mk ⟨mj⟩)),(.str (Str.mk ⟨mj⟩) (Y8 tb 1)),(kh k tb)⟩,⟨(PyData.keyHash (pW W) (Str.mk ⟨iZ⟩)),(.str (Str.mk ⟨iZ⟩) (Y8 tb 3)),(dV n 0)⟩,⟨(PyData.keyHash (pW W) (Str.mk ⟨iT⟩)),(.str (Str.mk ⟨iT⟩) (TK tb0)),(.int Yx x1.tL)⟩,⟨(PyData.keyHash (pW W) (Str.mk ⟨EG⟩)),(.str (Str.mk ⟨EG⟩) (TK tb3)),(.str (En x2) x3.t)⟩,⟨(PyData.keyHash (pW W) (Str.mk ⟨Et⟩)),(.str (Str.mk ⟨Et⟩) (TK tb5)),(.str (rO B v) x5.t)⟩]⟩ 8),⟨[]⟩⟩),((A c1),⟨(.type "cell"),none,(.cell (some (.str (EU 917535) (Y8 tb1 4)))),⟨[]⟩⟩),((A aI),⟨Am,none,(.fields ⟨[(.int (Int.ofNat k+Int.ofNat 1) 0),(.int (Int.ofNat (m.add 1)-1) 0),(.int (Int.ofNat 1) 0)]⟩),⟨[]⟩⟩),(rA aV vs epV),(A aO,Obj.mapSeq (·.push (dV n8 0)) (ab pts epO)),(Ps n8 k tb B v tb8)])) ([])))))))))))))))))))))) (fun _=>PG) (iX (by kernel_rfl)) rfl ⟨fun _=>bA,fun _=>au,fun _=>bA,fun _=>au,fun _=>ka,fun _=>bs,fun _=>au,fun _=>f9,fun _=>f9,fun _=>bx,trivial⟩ ⟨mJ rfl,py _ _ _ _ _ _ _ _ _ _ _ _ _ _ rfl hB (.inl ⟨rfl,rfl⟩) hL,pE _ _ _ _ _ _ rfl hD.lt hD.ne (Nat.le_trans hD.len (by decide)),eZ rfl,qH _ _ _ _ _ rfl (sy (.inl rfl) hD.lt) (tT hD (.inl rfl)) (zU hD),mO _ _ hD rfl htab,pJ _ _ _ _ _ rfl hD.lt hD.ne (Nat.le_trans hD.len (by decide)),eZ rfl,pK rfl,trivial⟩ rfl rfl (fun x hx=>nomatch hx) fun hs=>?_
 refine rI ⟨rfl,hfk,hvs⟩ ?_
 refine rI ⟨lw hv,rfl⟩ ?_
 refine rI ⟨rfl,hfk,hvs⟩ ?_
 refine ag ⟨rfl,rfl,rfl,rfl,fun x0 n0 tb0 gb0 hx0=>⟨rfl,?_⟩⟩ _
 refine ag ⟨trivial,rfl,rfl,rfl,rfl,fun x1 n1 tb1 gb1 hx1=>⟨rfl,?_⟩⟩ _
 refine rI ⟨m4 hpar,rfl⟩ ?_
 refine ag ⟨hx1.1,rfl,rfl,rfl,rfl,fun x2 n2 tb2 gb2 hx2=>⟨rfl,?_⟩⟩ _
 refine ag ⟨⟨rfl,rfl,(um hx2 hD (.inl rfl)).1⟩,rfl,rfl,rfl,fun x3 n3 tb3 gb3 hx3=>⟨rfl,?_⟩⟩ _
 refine rI ⟨rfl,(um hx2 hD (.inl rfl)).2.1⟩ ?_
 refine ag ⟨(um hx2 hD (.inl rfl)).2.2,rfl,rfl,rfl,rfl,fun x4 n4 tb4 gb4 hx4=>⟨rfl,?_⟩⟩ _
 refine ag ⟨DT hx4 hD (.inl rfl),rfl,rfl,rfl,rfl,fun x5 n5 tb5 gb5 hx5=>⟨rfl,?_⟩⟩ _
 refine ag ⟨hx1.1,rfl,rfl,rfl,rfl,fun x6 n6 tb6 gb6 hx6=>⟨rfl,?_⟩⟩ _
 refine ag ⟨⟨rfl,rfl,(qj hx6 hD).1⟩,rfl,rfl,rfl,fun x7 n7 tb7 gb7 hx7=>⟨rfl,?_⟩⟩ _
 refine rI ⟨mI (qj hx6 hD).2.1 (qj hx6 hD).2.2.1,rfl⟩ ?_
 refine rI ⟨oY (qj hx6 hD).2.2.2,rfl⟩ ?_
 refine rI ⟨rfl,g7 hD⟩ ?_
 refine ag ⟨⟨rfl,g7 hD⟩,rfl,rfl,rfl,fun x8 n8 tb8 gb8 hx8=>⟨rfl,?_⟩⟩ _
 refine rI ⟨rfl,tr hD⟩ ?_
 refine rI ⟨rfl,⟨rfl,rfl,rfl⟩,hsz⟩ ?_
 exact rF fun s' r _ h3 h4 h5 h6 h7=>kQ n tb s' x5.r1 x5.r2 _ _ _ _ _ _ _ _ _ _ _ (cQ n8) _ _ _ hn ht (am rfl r) h4 (ai h3) h5 (h7 _ (mem_cons_self ..))
theorem xE(W:WW){d7:Nat}{d8:Nat}{d9:List Nat}(hz:d7=0/\d8=917535/\d9=[917535]\/d7=1/\d8=917632/\d9=[917632])(p0:Pos)(vD:FD)(aF c1 aI aV aO B k m:Nat)(v:Int)(u1 u2 u3 u4 u5 u6 u7 u8 tB tv:Tok)(vPl vFi vLe vTx vTo:Value)(vc:Option Value)(t140 t147:List Value)(vs pts:Array Value)(epV epO:Nat)(s:Shared)(hfk:bN (Yh k))(hvs:(Ag k vs).bind (fun j=>vs[j]?)=some (bY v tv))(hv:(v !=0)=true)(hpar:k % 2=d7)(hB:B=2\/B=3)(hL:v.natAbs<2^20)(hD:fD (kv B v))(htab:t140=[]/\t147=[]\/∃r1 r2,t140=(jG r1)/\t147=(jR r2))(hsz:pts.size<=1000)(E:WW->ae)(hE:E=fun W=>[(140,bB t140),(147,bB t147),(A aF,ah "frame" [aa (pW W) gE u1 (Yp aV),aa (pW W) eH u2 (co B tB),aa (pW W) Yq u3 (Yp aO),aa (pW W) mj u4 vPl,aa (pW W) iZ u5 vFi,aa (pW W) iT u6 vLe,aa (pW W) Ea u7 vTx,aa (pW W) D4 u8 vTo] 8),(i5 c1 vc),(qQ aI k m),(Yk aV vs epV),(Yk aO pts epO)])(hP:az (pW W) (E W) s){Q:Prop}(kQ:∀(n tb:Nat) (s':Shared) (r1 r2:Addr) (y4 y5 y6 y7 y8 yp:Tok) (w5 w6 w7 w8:Value) (wc:Option Value) (nt:Nat) (ep:Nat) (ta tz:Tok),Hn s n->Ht s tb->br (Yt W) (⟨fj (pW W) aF c1 aI,none,none,(ya vD),none⟩) p0 s s'->cL (pW W) s'->cG ([(140,bB (jG r1)),(147,bB (jR r2)),(A aF,ah "frame" [aa (pW W) gE u1 (Yp aV),aa (pW W) eH u2 (co B tB),aa (pW W) Yq u3 (Yp aO),aa (pW W) mj y4 (co k yp),aa (pW W) iZ y5 w5,aa (pW W) iT y6 w6,aa (pW W) Ea y7 w7,aa (pW W) D4 y8 w8] 8),(i5 c1 wc),(A aI,aK "range_iterator" [qS k,.int (Int.ofNat (Nat.succ m)-1) 0,jv]),(Yk aV vs epV),(A aO,ab (pts.push (Yp nt)) ep),(A nt,a9 [.int (Yh k) ta,.int (iu B v) tz] 0)]) s'.heap->af (E W) s s'->s.heap.objs.size<=A nt->Q):Q:=by
 obtain⟨n,tb,gb,hn,ht,hg⟩:=hP.nt
 refine p9 (fz:=[]) hE hP hn ht hg (fun E W Z hs=>ch (ec (Vw W) 7 [(cn 5 (bY v tv)),po,(cn 5 (bY v tv)),(gf [] (.int (Yh d7))),kJ,(dH [18] tM),mu,jb,jb,(b9 6)] [] [rx 7 7,xN W ⟨⟨121,12,123,35⟩,vD.p3,vD.p4,vD.p5,vD.p6,(em (dF (pW W))),vD.te2,(sW aI),vD.i2,(bk (dF (pW W))),vD.bo2,(cH (dF (pW W))),vD.e2,(bj (pW W) aF c1),vD.nA,vD.nB,vD.nC,vD.f1,vD.f2⟩ aF c1 aV aO B u1 u2 u3 tB [aa (pW W) Ea u7 vTx,aa (pW W) D4 u8 vTo] 8 v.natAbs 2 7 7 7,xF W ⟨⟨125,89,125,96⟩,vD.p3,vD.p4,vD.p5,vD.p6,(em (dF (pW W))),vD.te2,(sW aI),vD.i2,(bk (dF (pW W))),vD.bo2,(cH (dF (pW W))),vD.e2,(bj (pW W) aF c1),vD.nA,vD.nB,vD.nC,vD.f1,vD.f2⟩ aF c1 d8 (kv B v) 11 9 10 7 3 7 7,gZ 10 7 7,zZ W ⟨⟨126,67,126,71⟩,vD.p3,vD.p4,vD.p5,vD.p6,(em (dF (pW W))),vD.te2,(sW aI),vD.i2,(bk (dF (pW W))),vD.bo2,(cH (dF (pW W))),vD.e2,(bj (pW W) aF c1),vD.nA,vD.nB,vD.nC,vD.f1,vD.f2⟩ aF c1 (List.flatten (List.map (c7 d8) (kv B v))) 14 12 13 7 7,sU W ⟨⟨126,19,126,94⟩,vD.p3,vD.p4,vD.p5,vD.p6,(em (dF (pW W))),vD.te2,(sW aI),vD.i2,(bk (dF (pW W))),vD.bo2,(cH (dF (pW W))),vD.e2,(bj (pW W) aF c1),vD.nA,vD.nB,vD.nC,vD.f1,vD.f2⟩ (JR B v) 0 1 13 7 7 t140 t147,yN W ⟨⟨127,82,127,89⟩,vD.p3,vD.p4,vD.p5,vD.p6,(em (dF (pW W))),vD.te2,(sW aI),vD.i2,(bk (dF (pW W))),vD.bo2,(cH (dF (pW W))),vD.e2,(bj (pW W) aF c1),vD.nA,vD.nB,vD.nC,vD.f1,vD.f2⟩ aF c1 (kv B v) 17 15 16 7 7 7,gZ 16 7 7,xr 7 7] []) 325 (⟨fj (pW W) aF c1 aI,none,none,(ya vD),none⟩) (p0) (a8 (fj (pW W) aF c1 aI)) [] hs (cN E n tb gb) (sN [0,1,2,3,4,5,6,19] Z)) (fun E W Z hs=>ad (lE E) (A n) gb (sl hs 0 17) ((HB aV k tb vs v tv)/\ad (lE E) (A n) gb (sl hs 17 0) ((av (Oa v tv tb) [] wB/\Yc)/\ad (lE E) (A n) gb (sl hs 19 10) ((HB aV k tb vs v tv)/\ad (lE E) (A n) gb (sl hs 29 0) ((Rf (.builtin "int.__abs__" ⟨[.int (v) tv],[]⟩:Code))/\(Rf (ax ([])))/\Yc/\Yc/\∀(x0:cA) (n0 tb0 gb0:Nat),True->Yc/\ad (HK aF c1 aI aV aO n) (A n0) gb0 (sl hs 32 2) (True/\(Rf (⟨gL (pW W) aF c1,none,none,[(.forLoop (em (dF (pW W))) (Yp aI) (bk (dF (pW W))) (cH (dF (pW W))) (bj (pW W) aF c1),⟨121,12,123,35⟩),(EH vD),(CZ vD),(Ei vD),(Y7,vD.p6)],none⟩:Ctx))/\(Rf (ax ([(A aF,jJ (pW W) aV aO u1 u2 u3 u4 tB B (kh k tb) ([aa (pW W) iZ u5 (.ref (A (cQ n))),aa (pW W) iT u6 (.int (Int.ofNat (v.natAbs)) x0.t)]++[aa (pW W) Ea u7 vTx,aa (pW W) D4 u8 vTo]) 8),(mD n 0)])))/\Yc/\Yc/\∀(x1:B2) (n1 tb1 gb1:Nat),aY x1.gs (kv B v)/\x1.gs.size<=900->Yc/\ad (HK aF c1 aI aV aO n) (A n1) gb1 (sl hs 35 3) ((av (.builtin "int.__mod__" ⟨[(kh k tb),(Dm tb1 2 2)],[]⟩) [] (Made.int (Yh d7))/\Yc)/\ad (HK aF c1 aI aV aO n) (A n1) gb1 (sl hs 39 12) ((aY (x1.gs) (kv B v))/\(Rf (⟨ay (ao (fi (pW W)) (bj (pW W) aF c1) (bJ n1 3) (dD n1) (bJ n1 2)),none,none,[(.forLoop (em (dF (pW W))) (Yp aI) (bk (dF (pW W))) (cH (dF (pW W))) (bj (pW W) aF c1),⟨125,89,125,96⟩),(EH vD),(CZ vD),(Ei vD),(Y7,vD.p6)],none⟩:Ctx))/\(Rf (ax ([(db n1 3,eG),(Id n1 n 1),(db n 0,ab (x1.gs) x1.ep),(mD n1 2),(A c1,⟨Yu,none,.cell (some (.str ⟨⟨d9⟩⟩ (Y8 tb1 4))),⟨[]⟩⟩)])))/\Yc/\Yc/\∀(x2:pd) (n2 tb2 gb2:Nat),aQ x2.ls (List.map (c7 d8) (kv B v))->Yc/\ad (Hi aF c1 aI aV aO n n1) (A n2) gb2 (sl hs 52 3) ((Pr tb1 n1 x2 5 2)/\(Rf (ax ([((Y2 n1 2),((NI x2):Obj))])))/\Yc/\Yc/\∀(x3:cA) (n3 tb3 gb3:Nat),True->Yc/\ad (Hi aF c1 aI aV aO n n1) (A n3) gb3 (sl hs 56 4) ((Qd x2 x3)/\ad (Hi aF c1 aI aV aO n n1) (A n3) gb3 (sl hs 61 1) ((Array.toList (Str.cps (En x2))=(List.flatten (List.map (c7 d8) (kv B v))))/\(Rf (⟨ay (ao (eB (pW W)) (bj (pW W) aF c1) (bJ n3 2) (cQ n3) (dD n3)),none,none,[(.forLoop (em (dF (pW W))) (Yp aI) (bk (dF (pW W))) (cH (dF (pW W))) (bj (pW W) aF c1),⟨126,67,126,71⟩),(EH vD),(CZ vD),(Ei vD),(Y7,vD.p6)],none⟩:Ctx))/\(Rf (ax ([(db n3 2,eG),(db n3 0,aK "str_iterator" [.str (En x2) x3.t,Ym]),(mD n3 1)])))/\Yc/\Yc/\∀(x4:BS) (n4 tb4 gb4:Nat),aQ x4.ls (bR (List.flatten (List.map (c7 d8) (kv B v))))->Yc/\ad (J9 aF c1 aI aV aO n n1 n3) (A n4) gb4 (sl hs 63 4) ((cM (x4.ls) (JR B v))/\(Rf (wy (dD n3) ⟨⟨126,19,126,94⟩,vD.p3,vD.p4,vD.p5,vD.p6,(em (dF (pW W))),vD.te2,(sW aI),vD.i2,(bk (dF (pW W))),vD.bo2,(cH (dF (pW W))),vD.e2,(bj (pW W) aF c1),vD.nA,vD.nB,vD.nC,vD.f1,vD.f2⟩:Ctx))/\(Rf (ax ([(140,bB t140),(147,bB t147),(db n3 1,ab (x4.ls) x4.ep)])))/\Yc/\Yc/\∀(x5:fw) (n5 tb5 gb5:Nat),True->Yc/\ad (J9 aF c1 aI aV aO n n1 n3) (A n5) gb5 (sl hs 68 8) ((aY (x1.gs) (kv B v))/\(Rf (⟨ay (ao (ff (pW W)) (bj (pW W) aF c1) (bJ n5 2) (cQ n5) (dD n5)),none,none,[(.forLoop (em (dF (pW W))) (Yp aI) (bk (dF (pW W))) (cH (dF (pW W))) (bj (pW W) aF c1),⟨127,82,127,89⟩),(EH vD),(CZ vD),(Ei vD),(Y7,vD.p6)],none⟩:Ctx))/\(Rf (ax ([(db n5 2,eG),(Id n5 n 0),(db n 0,ab (x1.gs) x1.ep),(mD n5 1)])))/\Yc/\Yc/\∀(x6:u0) (n6 tb6 gb6:Nat),aQ x6.ls (List.map di (kv B v))->Yc/\ad (As aF c1 aI aV aO n n1 n3 n5) (A n6) gb6 (sl hs 77 3) ((Pz tb5 n5 x6)/\(Rf (ax ([((Y2 n5 1),(⟨.type "list",none,.seq (x6.ls) x6.ep,⟨[]⟩⟩:Obj))])))/\Yc/\Yc/\∀(x7:cA) (n7 tb7 gb7:Nat),True->Yc/\ad (As aF c1 aI aV aO n n1 n3 n5) (A n7) gb7 (sl hs 80 0) ((av (Lb x6 x7 n7) [((Y2 n7 0),(some ⟨(.type "slice"),none,(.fields ⟨[(.int (Int.ofNat 1) (TK tb7)),.none,.none]⟩),⟨[]⟩⟩))] (tM (Lb x6 x7 n7))/\Yc)/\ad (As aF c1 aI aV aO n n1 n3 n5) (A n7) gb7 (sl hs 80 0) ((av (.builtin "str.__ne__" ⟨[(.str (rO B v) x5.t),(.str (Str.mk ({toList:=List.drop 1 (bK (Str.mk (Array.mk [])) x6.ls).cps.toList})) (Y8 tb7 1))],[]⟩) [] wx/\Yc)/\ad (As aF c1 aI aV aO n n1 n3 n5) (A n7) gb7 (sl hs 83 9) ((Qk B v x5)/\ad (As aF c1 aI aV aO n n1 n3 n5) (A n7) gb7 (sl hs 93 3) ((PP B v x5 tb7)/\(Rf (ax ([])))/\Yc/\Yc/\∀(x8:cA) (n8 tb8 gb8:Nat),True->Yc/\ad (HA aF c1 aI aV aO n n1 n3 n5 n7) (A n8) gb8 (sl hs 96 0) ((PJ B v x8)/\ad (HA aF c1 aI aV aO n n1 n3 n5 n7) (A n8) gb8 (sl hs 98 1) (((Ji aO n8 0)/\(rJ pts))/\ad (HA aF c1 aI aV aO n n1 n3 n5 n7) (A n8) gb8 (sl hs 100 1) (Z (.again (fj (pW W) aF c1 aI)) (Y2 n8 1) (Y8 tb8 3) true (ax ([(PH x5),(PV x5),((A aF),⟨D3,none,(.dict ⟨[⟨(PyData.keyHash (pW W) sZ),(.str sZ u1),(Yp aV)⟩,⟨(PyData.keyHash (pW W) qN),(.str qN u2),(co B tB)⟩,⟨(PyData.keyHash (pW W) (Str.mk ⟨Yq⟩)),(.str EZ u3),(Yp aO)⟩,⟨(PyData.keyHash (pW W) (Str.mk ⟨mj⟩)),(.str (Str.mk ⟨mj⟩) u4),(kh k tb)⟩,⟨(PyData.keyHash (pW W) (Str.mk ⟨iZ⟩)),(.str (Str.mk ⟨iZ⟩) u5),(dV n 0)⟩,⟨(PyData.keyHash (pW W) (Str.mk ⟨iT⟩)),(.str (Str.mk ⟨iT⟩) u6),(.int Yx x1.tL)⟩,⟨(PyData.keyHash (pW W) (Str.mk ⟨EG⟩)),(.str (Str.mk ⟨EG⟩) u7),(.str (En x2) x3.t)⟩,⟨(PyData.keyHash (pW W) (Str.mk ⟨Et⟩)),(.str (Str.mk ⟨Et⟩) u8),(.str (rO B v) x5.t)⟩]⟩ 8),⟨[]⟩⟩),((A c1),⟨(.type "cell"),none,(.cell (some (.str (Str.mk ⟨d9⟩) (Y8 tb1 4)))),⟨[]⟩⟩),((A aI),⟨Am,none,(.fields ⟨[(.int (Int.ofNat k+Int.ofNat 1) 0),(.int (Int.ofNat (m.add 1)-1) 0),(.int (Int.ofNat 1) 0)]⟩),⟨[]⟩⟩),(rA aV vs epV),(A aO,Obj.mapSeq (·.push (dV n8 0)) (ab pts epO)),(Ps n8 k tb B v tb8)])) ([])))))))))))))))))))))) (fun _=>PG) (by rcases hz with h|h<;>apply oK h<;>exact iX (by kernel_rfl)) rfl ⟨fun _=>bA,fun _=>au,fun _=>bA,fun _=>au,fun _=>ka,fun _=>bs,fun _=>au,fun _=>f9,fun _=>f9,fun _=>bx,trivial⟩ ⟨mJ rfl,py _ _ _ _ _ _ _ _ _ _ _ _ _ _ rfl hB (.inr ⟨_,_,_,_,rfl,rfl⟩) hL,pE _ _ _ _ _ _ rfl hD.lt hD.ne (Nat.le_trans hD.len (by decide)),eZ rfl,qH _ _ _ _ _ rfl (sy (by rcases hz with h|h<;>apply oK h<;>first|exact .inl rfl|exact .inr rfl) hD.lt) (tT hD (by rcases hz with h|h<;>apply oK h<;>first|exact .inl rfl|exact .inr rfl)) (zU hD),mO _ _ hD rfl htab,pJ _ _ _ _ _ rfl hD.lt hD.ne (Nat.le_trans hD.len (by decide)),eZ rfl,pK rfl,trivial⟩ rfl rfl (fun x hx=>nomatch hx) fun hs=>?_
 refine rI ⟨rfl,hfk,hvs⟩ ?_
 refine rI ⟨lw hv,rfl⟩ ?_
 refine rI ⟨rfl,hfk,hvs⟩ ?_
 refine ag ⟨rfl,rfl,rfl,rfl,fun x0 n0 tb0 gb0 hx0=>⟨rfl,?_⟩⟩ _
 refine ag ⟨trivial,rfl,rfl,rfl,rfl,fun x1 n1 tb1 gb1 hx1=>⟨rfl,?_⟩⟩ _
 refine rI ⟨m4 hpar,rfl⟩ ?_
 refine ag ⟨hx1.1,rfl,rfl,rfl,rfl,fun x2 n2 tb2 gb2 hx2=>⟨rfl,?_⟩⟩ _
 refine ag ⟨⟨rfl,rfl,(um hx2 hD (by rcases hz with h|h<;>apply oK h<;>first|exact .inl rfl|exact .inr rfl)).1⟩,rfl,rfl,rfl,fun x3 n3 tb3 gb3 hx3=>⟨rfl,?_⟩⟩ _
 refine rI ⟨rfl,(um hx2 hD (by rcases hz with h|h<;>apply oK h<;>first|exact .inl rfl|exact .inr rfl)).2.1⟩ ?_
 refine ag ⟨(um hx2 hD (by rcases hz with h|h<;>apply oK h<;>first|exact .inl rfl|exact .inr rfl)).2.2,rfl,rfl,rfl,rfl,fun x4 n4 tb4 gb4 hx4=>⟨rfl,?_⟩⟩ _
 refine ag ⟨DT hx4 hD (by rcases hz with h|h<;>apply oK h<;>first|exact .inl rfl|exact .inr rfl),rfl,rfl,rfl,rfl,fun x5 n5 tb5 gb5 hx5=>⟨rfl,?_⟩⟩ _
 refine ag ⟨hx1.1,rfl,rfl,rfl,rfl,fun x6 n6 tb6 gb6 hx6=>⟨rfl,?_⟩⟩ _
 refine ag ⟨⟨rfl,rfl,(qj hx6 hD).1⟩,rfl,rfl,rfl,fun x7 n7 tb7 gb7 hx7=>⟨rfl,?_⟩⟩ _
 refine rI ⟨mI (qj hx6 hD).2.1 (qj hx6 hD).2.2.1,rfl⟩ ?_
 refine rI ⟨oY (qj hx6 hD).2.2.2,rfl⟩ ?_
 refine rI ⟨rfl,g7 hD⟩ ?_
 refine ag ⟨⟨rfl,g7 hD⟩,rfl,rfl,rfl,fun x8 n8 tb8 gb8 hx8=>⟨rfl,?_⟩⟩ _
 refine rI ⟨rfl,tr hD⟩ ?_
 refine rI ⟨rfl,⟨rfl,rfl,rfl⟩,hsz⟩ ?_
 exact rF fun s' r _ h3 h4 h5 h6 h7=>kQ n tb s' x5.r1 x5.r2 _ _ _ _ _ _ _ _ _ _ _ (cQ n8) _ _ _ hn ht (am rfl r) h4 (ai h3) h5 (h7 _ (mem_cons_self ..))
theorem Fh(W:WW)(p0:Pos)(vD:FD)(aF c1 aI aV aO B k m:Nat)(v:Int)(u1 u2 u3 u4 u5 u6 u7 u8 tB tv:Tok)(vPl vFi vLe vTx vTo:Value)(vc:Option Value)(t140 t147:List Value)(vs pts:Array Value)(epV epO:Nat)(s:Shared)(hfk:bN (Yh k))(hvs:(Ag k vs).bind (fun j=>vs[j]?)=some (bY v tv))(hv:(v !=0)=false)(E:WW->ae)(hE:E=fun W=>[(140,bB t140),(147,bB t147),(A aF,ah "frame" [aa (pW W) gE u1 (Yp aV),aa (pW W) eH u2 (co B tB),aa (pW W) Yq u3 (Yp aO),aa (pW W) mj u4 vPl,aa (pW W) iZ u5 vFi,aa (pW W) iT u6 vLe,aa (pW W) Ea u7 vTx,aa (pW W) D4 u8 vTo] 8),(i5 c1 vc),(qQ aI k m),(Yk aV vs epV),(Yk aO pts epO)])(hP:az (pW W) (E W) s){Q:Prop}(kQ:∀(n tb:Nat) (s':Shared) (y4 yp:Tok),Hn s n->Ht s tb->br (Yt W) (⟨fj (pW W) aF c1 aI,none,none,(ya vD),none⟩) p0 s s'->az (pW W) ([(140,bB t140),(147,bB t147),(A aF,ah "frame" [aa (pW W) gE u1 (Yp aV),aa (pW W) eH u2 (co B tB),aa (pW W) Yq u3 (Yp aO),aa (pW W) mj y4 (co k yp),aa (pW W) iZ u5 vFi,aa (pW W) iT u6 vLe,aa (pW W) Ea u7 vTx,aa (pW W) D4 u8 vTo] 8),(i5 c1 vc),(A aI,aK "range_iterator" [qS k,.int (Int.ofNat (Nat.succ m)-1) 0,jv]),(Yk aV vs epV),(Yk aO pts epO)]) s'->af (E W) s s'->Q):Q:=by
 obtain⟨n,tb,gb,hn,ht,hg⟩:=hP.nt
 refine bT hE hP hn ht hg (fun E W Z hs=>ch (ec (Vw W) 7 [(cn 5 (bY v tv)),mu] [] [] []) 81 (⟨fj (pW W) aF c1 aI,none,none,(ya vD),none⟩) (p0) (a8 (fj (pW W) aF c1 aI)) [] hs (cN E n tb gb) (kZ [0,1,2,3,4,5,6] Z)) (fun E W Z hs=>ad (lE E) (A n) gb (sl hs 0 17) ((HB aV k tb vs v tv)/\ad (lE E) (A n) gb (sl hs 17 0) ((av (Oa v tv tb) [] wx/\Yc)/\ad (lE E) (A n) gb (sl hs 17 0) (Z (.again (fj (pW W) aF c1 aI)) (Y2 n 0) (Y8 tb 3) true (ax ([(140,⟨.none,none,(.fields ({toList:=t140})),⟨[]⟩⟩),(147,⟨.none,none,(.fields ({toList:=t147})),⟨[]⟩⟩),((A aF),⟨D3,none,(.dict ⟨[⟨(PyData.keyHash (pW W) sZ),(.str sZ u1),(Yp aV)⟩,⟨(PyData.keyHash (pW W) qN),(.str qN u2),(co B tB)⟩,⟨(PyData.keyHash (pW W) (Str.mk ⟨Yq⟩)),(.str EZ u3),(Yp aO)⟩,⟨(PyData.keyHash (pW W) (Str.mk ⟨mj⟩)),(.str (Str.mk ⟨mj⟩) u4),(kh k tb)⟩,⟨(PyData.keyHash (pW W) (Str.mk ⟨iZ⟩)),(.str (Str.mk ⟨iZ⟩) u5),(vFi)⟩,⟨(PyData.keyHash (pW W) (Str.mk ⟨iT⟩)),(.str (Str.mk ⟨iT⟩) u6),(vLe)⟩,⟨(PyData.keyHash (pW W) (Str.mk ⟨EG⟩)),(.str (Str.mk ⟨EG⟩) u7),(vTx)⟩,⟨(PyData.keyHash (pW W) (Str.mk ⟨Et⟩)),(.str (Str.mk ⟨Et⟩) u8),(vTo)⟩]⟩ 8),⟨[]⟩⟩),((A c1),⟨(.type "cell"),none,(.cell (vc)),⟨[]⟩⟩),((A aI),⟨Am,none,(.fields ⟨[(.int (Int.ofNat k+Int.ofNat 1) 0),(.int (Int.ofNat (m.add 1)-1) 0),(.int (Int.ofNat 1) 0)]⟩),⟨[]⟩⟩),(rA aV vs epV),(rA aO pts epO)])))))) (fun _=>(gC [90005,40003,40006,4000,4001,3000])) (iX (by kernel_rfl)) rfl ⟨fun _=>bA,fun _=>au,trivial⟩ trivial rfl fun hs=>?_
 refine rI ⟨rfl,hfk,hvs⟩ ?_
 refine rI ⟨lw hv,rfl⟩ ?_
 exact rF fun s' r _ h3 h4 h5=>kQ n tb s' _ _ hn ht (am rfl r) ⟨h4,ai h3,(nx hE hP).nd,(nx hE hP).lo⟩ h5
theorem az.addL{P:Params}{E T:ae}{s:Shared}{fz:List df}(hP:az P E s)(hf:cF fz E s)(hT:∀x∈T,x∈fz)(ha:∀x∈T,245<=x.1)(nd:(T.map (·.1)).Nodup):az P (E++T) s:=by
 refine⟨hP.rdy,cg.mpr ⟨hP.has,?_⟩,?_,?_⟩
 ·have:∀(T':ae),(∀x∈T',x∈T)->cG T' s.heap:=by
   intro T'
   induction T' with
   |nil=>intro _;trivial
   |cons y T' ih=>intro hs;exact⟨(hf y (hT y (hs y (mem_cons_self ..)))).1,ih fun x hx=>hs x (mem_cons_of_mem _ hx)⟩
  exact this T fun _ h=>h
 ·rw [map_append]
  refine List.nodup_append.mpr ⟨hP.nd,nd,fun a h1 b h2 e=>?_⟩
  obtain⟨x,hx,rfl⟩:=List.mem_map.mp h2
  subst e
  exact(hf x (hT x hx)).2 h1
 ·intro a h
  rw [map_append] at h
  rcases List.mem_append.mp h with h|h
  ·exact hP.lo a h
  ·obtain⟨x,hx,rfl⟩:=List.mem_map.mp h
   exact jc (.inl (by have:=ha x hx;lia))
theorem af.cutL{E T:ae}{s s':Shared}(h:af (E++T) s s')(h1:cG T s.heap)(h2:cG T s'.heap):af E s s':=by
 refine⟨fun b o e hb=>?_,h.drawn,h.os,h.size⟩
 by_cases q:b∈T.map (·.1)
 ·obtain⟨x,hx,rfl⟩:=List.mem_map.mp q
  obtain⟨i,hi⟩:=List.mem_iff_getElem?.mp hx
  rw [h1.get hi] at e;cases e
  exact h2.get hi
 ·refine h.keep b o e fun hm=>?_
  rw [map_append] at hm
  rcases List.mem_append.mp hm with hm|hm
  ·exact hb hm
  ·exact q hm
def bQ:List (Int×Int)->List Value->ae->Prop
 |[],vs,T=>vs=[]/\T=[]
 |p::l,vs,T=>∃a tx ty et vs' T',vs=.ref (A a)::vs'/\T=(A a,a9 [.int p.1 tx,.int p.2 ty] et)::T'/\bQ l vs' T'
theorem aw.size{items:Array Value}{fz}{ps:List (Int×Int)}(h:aw items fz ps):items.size=ps.length:=by
 have h1:items[ps.length]? =Option.none:=by
  have:=h ps.length
  rw [List.getElem?_eq_none (Nat.le_refl _)] at this;exact this
 have h2:items.size<=ps.length:=by
  rcases lt_or_ge ps.length items.size with q|q
  ·rw [Array.getElem?_eq_getElem q] at h1;cases h1
  ·exact q
 rcases lt_or_ge items.size ps.length with q|q
 ·have z:=h items.size
  rw [List.getElem?_eq_getElem q] at z
  obtain⟨a,tx,ty,et,e,_⟩:=z
  rw [Array.getElem?_eq_none (Nat.le_refl _)] at e;cases e
 ·lia
theorem aw.tups{fz:List df}:∀{ps:List cw} {items:List Value},aw ⟨items⟩ fz ps->∃T,bQ ps items T/\∀x∈T,x∈fz
 |[],items,h=>by
  have:=h.size
  exact⟨[],⟨eq_nil_of_length_eq_zero this,rfl⟩,fun x hx=>nomatch hx⟩
 |p::l,items,h=>by
  have hs:=h.size
  cases items with
  |nil=>simp at hs
  |cons v vs=>
   obtain⟨a,tx,ty,et,e,hm⟩:=h 0
   have e:Option.some v=Option.some (Value.ref (A a)):=by simpa using e
   cases e
   obtain⟨T,h1,h2⟩:=aw.tups (ps:=l) (items:=vs) (fz:=fz) (fun i=>by
    have z:=h (i+1)
    have q:(⟨Value.ref (A a)::vs⟩:Array Value)[i+1]? =(⟨vs⟩:Array Value)[i]?:=by simp
    rw [List.getElem?_cons_succ] at z
    revert z
    cases l[i]? with
    |none=>intro z;rw [q] at z;exact z
    |some p=>intro z;obtain⟨a,tx,ty,et,e,hm⟩:=z;rw [q] at e;exact⟨a,tx,ty,et,e,hm⟩)
   exact⟨(A a,a9 [.int p.1 tx,.int p.2 ty] et)::T,⟨a,tx,ty,et,vs,T,rfl,rfl,h1⟩,fun x hx=>by
    rcases List.mem_cons.mp hx with rfl|hx
    ·exact hm
    ·exact h2 x hx⟩
theorem bQ.drop:∀{k:Nat} {ps:List (Int×Int)} {vs:List Value} {T:ae},bQ ps vs T->bQ (ps.drop k) (vs.drop k) (T.drop k)
 |0,_,_,_,h=>h
 |k+1,[],vs,T,h=>by obtain⟨rfl,rfl⟩:=h;exact⟨rfl,rfl⟩
 |k+1,p::l,vs,T,h=>by
  obtain⟨a,tx,ty,et,vs',T',rfl,rfl,h⟩:=h
  exact bQ.drop (k:=k) h
theorem bQ.refs:∀{ps:List (Int×Int)} {vs:List Value} {T:ae},bQ ps vs T->vs=T.map (fun x=>.ref x.1)
 |[],_,_,h=>by obtain⟨rfl,rfl⟩:=h;rfl
 |p::l,_,_,h=>by
  obtain⟨a,tx,ty,et,vs',T',rfl,rfl,h⟩:=h
  rw [map_cons,<-h.refs]
theorem bQ.pts:∀{ps:List (Int×Int)} {vs:List Value} {T:ae},bQ ps vs T->aw ⟨vs⟩ T ps
 |[],_,_,h=>by obtain⟨rfl,rfl⟩:=h;intro i;simp
 |p::l,_,_,h=>by
  obtain⟨a,tx,ty,et,vs',T',rfl,rfl,h⟩:=h
  intro i
  cases i with
  |zero=>exact⟨a,tx,ty,et,rfl,mem_cons_self ..⟩
  |succ i=>
   have z:=h.pts i
   have q:(⟨Value.ref (A a)::vs'⟩:Array Value)[i+1]? =(⟨vs'⟩:Array Value)[i]?:=by simp
   rw [List.getElem?_cons_succ]
   revert z
   cases l[i]? with
   |none=>intro z;show _=_;rw [q];exact z
   |some p=>intro z;obtain⟨a,tx,ty,et,e,hm⟩:=z;exact⟨a,tx,ty,et,by rw [q];exact e,mem_cons_of_mem _ hm⟩
theorem bQ.ge:∀{ps:List (Int×Int)} {vs:List Value} {T:ae},bQ ps vs T->∀x∈T,245<=x.1
 |[],_,_,h=>by obtain⟨rfl,rfl⟩:=h;intro x hx;cases hx
 |p::l,_,_,h=>by
  obtain⟨a,tx,ty,et,vs',T',rfl,rfl,h⟩:=h
  intro x hx
  rcases List.mem_cons.mp hx with rfl|hx
  ·show 245<=a+245;lia
  ·exact h.ge x hx
theorem bQ.nodup{ps:List (Int×Int)}{vs:List Value}{T:ae}(h:bQ ps vs T)(nd:vs.Nodup):(T.map (·.1)).Nodup:=by
 rw [h.refs] at nd
 have:T.map (fun x=>Value.ref x.1)=(T.map (·.1)).map Value.ref:=by rw [map_map];rfl
 rw [this] at nd
 exact List.Pairwise.of_map Value.ref (fun a b h e=>h (by rw [e])) nd
def lc(ds:List cw)(j:Nat)(e:Int×Int):Prop:=ds[j]? =some e/\∀i f,ds[i]? =some f->aX e f/\(aX f e->i<=j)
theorem AU{ds:List cw}{j:Nat}(h10:cb ds)(h:∃d,cI ds d/\(fg ds (bf d.1 d.2) (List.length ds)).getLast? =some j):∃e,lc ds j e:=by
 obtain⟨d,⟨hd,hl⟩,hj⟩:=h
 have hmem:=List.mem_of_getLast? hj
 have hlast:∀i∈fg ds (bf d.1 d.2) ds.length,i<=j:=by
  intro i hi
  obtain⟨l',hl'⟩:=List.getLast?_eq_some_iff.mp hj
  have hp:=ir ds (bf d.1 d.2) ds.length
  rw [hl'] at hp hi
  rcases List.mem_append.mp hi with hi|hi
  ·exact Nat.le_of_lt ((List.pairwise_append.mp hp).2.2 i hi j (List.mem_singleton.mpr rfl))
  ·rw [List.mem_singleton.mp hi];exact Nat.le_refl _
 have hm:=(List.mem_filter.mp hmem)
 have hjl:=List.mem_range.mp hm.1
 have he:ds[j]? =some ds[j]:=List.getElem?_eq_getElem hjl
 have key:∀(i:Nat) (f:Int×Int),ds[i]? =some f->(gF ds (bf d.1 d.2) i=true↔f.2*d.1=d.2*f.1):=by
  intro i f hf
  unfold gF
  rw [hf]
  show(Float64.cmp (bf f.1 f.2) (bf d.1 d.2)==some .eq)=true↔_
  rw [iw (h10 f (mem_of_getElem? hf)) (h10 d hd)]
  exact decide_eq_true_iff
 have hej:=(key j _ he).mp hm.2
 have pos:∀f∈ds,0<f.1:=fun f hf=>by have:=(h10 f hf).1;lia
 have hde:aX ds[j] d:=by unfold aX;rw [hej];exact Int.le_refl _
 refine⟨ds[j],he,fun i f hf=>⟨?_,fun hle=>?_⟩⟩
 ·exact cq (pos d hd) (pos _ (getElem_mem hjl)) (pos f (mem_of_getElem? hf)) hde (hl f (mem_of_getElem? hf))
 ·refine hlast i (List.mem_filter.mpr ⟨List.mem_range.mpr (List.getElem?_eq_some_iff.mp hf).1,(key i f hf).mpr ?_⟩)
  have h1:=hl f (mem_of_getElem? hf)
  have h2:=cq (pos _ (getElem_mem hjl)) (pos f (mem_of_getElem? hf)) (pos d hd) hle hde
  exact Int.le_antisymm h2 h1
noncomputable def difs(p:Int×Int)(l:List cw):List cw:=l.map fun q=>(q.1-p.1,q.2-p.2)
def eP(ps:List cw):Prop:=ps.Pairwise fun p q=>cV (q.1-p.1,q.2-p.2)
theorem eP.difs{ps:List (Int×Int)}{k:Nat}{p:Int×Int}{l:List (Int×Int)}(h:eP ps)(e:ps.drop k=p::l):cb (Mine.difs p l):=by
 have h1:eP (ps.drop k):=List.Pairwise.drop (i:=k) h
 rw [e] at h1
 intro d hd
 obtain⟨q,hq,rfl⟩:=List.mem_map.mp hd
 exact(List.pairwise_cons.mp h1).1 q hq
theorem cb.ranged{ds:List (Int×Int)}(h:cb ds):ranged ds:=fun d hd=>(h d hd).range
theorem rj{items:Array Value}{k:Nat}{l:List Value}(h:items.toList.drop (k+1)=l):slicePick items (some (Int.ofNat k+1)) none none=⟨l⟩:=by
 have:=slicePick_from' items (k+1)
 rw [h] at this
 exact this
theorem FM{items:Array Value}{k:Nat}{v:Value}{l:List Value}(h:items.toList.drop k=v::l):(seqIndex? (Int.ofNat k) items.size).bind (fun j=>items[j]?)=some v:=by
 have hx:=(bw h).1
 have hlt:=(List.getElem?_eq_some_iff.mp hx).1
 rw [fJ (n:=items.size) (by simpa using hlt)]
 show items[k]? =some v
 rw [<-hx];simp
abbrev jx a b c:=((A a,⟨Yu,none,.cell (some (.int (Yh b) c)),⟨[]⟩⟩):Nat×Obj)
noncomputable def eU(P:Params)(aF c1 c2 c3 c4 aP aE:Nat)(uE:Tok)(fr:List DictEntry)(bP k:Nat)(tk:Tok)(w3 w4:Option Value)(pts:Array Value)(epP:Nat)(eds:Array Value)(epE:Nat):ae:=
 [(A aF,ah "frame" (aa P [101,100,103,101] uE (Yp aE)::fr) bP),(Y6 c1 aP),(jx c2 k tk),(i5 c3 w3),(i5 c4 w4),(Yk aP pts epP),(Yk aE eds epE)]
def kz(P:Params)(fr:List DictEntry)(bP:Nat)(w3 w4:Option Value):Prop:=∃uW vW uB vB v3 v4,fr=[aa P [119,97,121,115] uW vW,aa P [98,101,115,116] uB vB]/\bP=3/\w3=some v3/\w4=some v4
def Jh(P:Params)(fr:List DictEntry)(bP:Nat)(w3 w4:Option Value):Prop:=(fr=[]/\bP=1/\w3=none/\w4=none)\/kz P fr bP w3 w4
def GX(W:WW)(p0 p4:Pos)(vC:FC)(aF c1 c2 c3 c4 aP aE:Nat)(uE:Tok)(pts:Array Value)(epP:Nat)(fr:List DictEntry)(bP k:Nat)(tk:Tok)(w3 w4:Option Value)(eds:Array Value)(epE:Nat)(s:Shared)(q0:Int×Int)(l:List cw):Prop:=
 ∃s' fr' cnt' w3' w4' tk' epE' j e a tx ty et,br (Yt W) ⟨fh (pW W) (bg (ak (pW W)) (A aF) 231 [A c1,A c2,A c3,A c4]),none,none,[(gU (ak (pW W)) (A aF) 231 [A c1,A c2,A c3,A c4],p4),(.forLoop vC.te vC.i1 vC.bo1 vC.e1 vC.n3,vC.p7),(.func vC.f2 vC.n4,vC.p5),(Y7,vC.p6)],none⟩ p0 s s'/\kz (pW W) fr' cnt' w3' w4'/\az (pW W) (eU (pW W) aF c1 c2 c3 c4 aP aE uE fr' cnt' (k+(j+1)) tk' w3' w4' pts epP (eds.push (Yp a)) epE') s'/\af (eU (pW W) aF c1 c2 c3 c4 aP aE uE fr bP k tk w3 w4 pts epP eds epE) s s'/\lc (difs q0 l) j e/\s'.heap.get? (A a)=some (a9 [.int e.1 tx,.int e.2 ty] et)/\s.heap.objs.size<=A a
theorem vR(W:WW)(p0 p4:Pos)(vC:FC)(aF c1 c2 c3 c4:Nat)(aP aE:Nat)(tq:Tok)(w3 w4:Option Value)(k mm:Nat)(pts eds:Array Value)(epP epE bP:Nat)(frl:List DictEntry)(s:Shared)(hsz:pts.size=Nat.add mm 1)(hmm:Nat.blt (Nat.succ mm) 1000=true)(hlt:decide (Int.ofNat k<Int.ofNat mm.succ-1)=false)(E:WW->ae)(hE:E=fun W=>[(wW aF frl bP),(Y6 c1 aP),(jx c2 k tq),(i5 c3 w3),(i5 c4 w4),(Yk aP pts epP),(Yk aE eds epE)])(hP:az (pW W) (E W) s){Q:Prop}(kQ:∀(n tb:Nat) (s':Shared),Hn s n->Ht s tb->Runs (Yt W) (⟨fh (pW W) (bg (ak (pW W)) (A aF) 231 [A c1,A c2,A c3,A c4]),none,none,[(gU (ak (pW W)) (A aF) 231 [A c1,A c2,A c3,A c4],p4),(.forLoop vC.te vC.i1 vC.bo1 vC.e1 vC.n3,vC.p7),(.func vC.f2 vC.n4,vC.p5),(Y7,vC.p6)],none⟩) p0 ((Yt W).den (fh (pW W) (bg (ak (pW W)) (A aF) 231 (io c1 c2 c3 c4)))) [] s ft s'->cL (pW W) s'->cG ([(wW aF frl bP),(Y6 c1 aP),(jx c2 k tq),(i5 c3 w3),(i5 c4 w4),(Yk aP pts epP),(Yk aE eds epE)]) s'.heap->af (E W) s s'->Q):Q:=by
 obtain⟨n,tb,gb,hn,ht,hg⟩:=hP.nt
 refine bT hE hP hn ht hg (fun E W Z hs=>ch (ec (Vw W) 7 [(gR 5 mm),mu] [] [] []) 66 (⟨fh (pW W) (bg (ak (pW W)) (A aF) 231 [A c1,A c2,A c3,A c4]),none,none,[(gU (ak (pW W)) (A aF) 231 [A c1,A c2,A c3,A c4],p4),(.forLoop vC.te vC.i1 vC.bo1 vC.e1 vC.n3,vC.p7),(.func vC.f2 vC.n4,vC.p5),(Y7,vC.p6)],none⟩) (p0) (a8 (fh (pW W) (bg (ak (pW W)) (A aF) 231 (io c1 c2 c3 c4)))) [] hs (cN E n tb gb) (kZ [0,1,2,3,4,5,6] Z)) (fun E W Z hs=>ad (lE E) (A n) gb (sl hs 0 4) (((Rf (.builtin "len" ⟨[(Yp aP)],[]⟩:Code))/\(Hy/\((((pts.size):(Nat))=(dD mm))/\(((mm.succ.blt 1000):(Bool))=(true)))))/\ad (lE E) (A n) gb [] ((av (.builtin "int.__lt__" ⟨[(co k tq),(.int (Int.ofNat mm.succ-1) (Y8 tb 3))],[]⟩) [] wx/\Yc)/\ad (lE E) (A n) gb [] (Z oW (Y2 n 0) (Y8 tb 4) true (ax ([(wW aF frl bP),(Y6 c1 aP),(jx c2 k tq),(i5 c3 w3),(i5 c4 w4),(Yk aP pts epP),(Yk aE eds epE)])))))) (fun W=>[3,0,0,2,4000,3001,4001]) (pc (by kernel_rfl)) rfl ⟨fun _=>hV,fun _=>au,trivial⟩ trivial rfl fun hs=>?_
 refine rI ⟨rfl,rfl,hsz,hmm⟩ ?_
 refine rI ⟨gG hlt,rfl⟩ ?_
 exact rF fun s' r _ h3 h4 h5=>kQ n tb s' hn ht (by rw [bG];exact r) h4 (ai h3) h5
section
abbrev PT:=Nat×cw×Tok×Tok×Nat
noncomputable def zP(p:PT):Nat×Obj:=(A p.1,a9 [.int p.2.1.1 p.2.2.1,.int p.2.1.2 p.2.2.2.1] p.2.2.2.2)
noncomputable def yx(p:PT):Value:=.ref (A p.1)
noncomputable def LN(p:PT):Int×Int:=p.2.1
noncomputable def dh(o:PT)(ps:List PT):List cw:=ps.map fun p=>(p.2.1.1-o.2.1.1,p.2.1.2-o.2.1.2)
noncomputable def AQ(tb:Nat)(o p:PT)(i:Nat):Obj:=a9 [.int (p.2.1.1-o.2.1.1) (Nat.add (TK tb) (9+6*i)),.int (p.2.1.2-o.2.1.2) (Nat.add (TK tb) (11+6*i))] 0
noncomputable def rP(n tb:Nat)(o:PT):List PT->Nat->ae
 |[],_=>[]
 |p::l,i=>(A (Nat.add n (8+4*i)),AQ tb o p i)::rP n tb o l (i+1)
noncomputable def Fe(n tb:Nat)(o:PT):List PT->Nat->ae
 |[],_=>[]
 |p::l,i=>(Nat.add (A n) (8+4*i),AQ tb o p i)::Fe n tb o l (i+1)
noncomputable def yO(n:Nat):List PT->Nat->List Value
 |[],_=>[]
 |_::l,i=>.ref (A (Nat.add n (8+4*i)))::yO n l (i+1)
noncomputable def il(n:Nat):List PT->Nat->List Value
 |[],_=>[]
 |_::l,i=>.ref (Nat.add (A n) (8+4*i))::il n l (i+1)
noncomputable def rp(x k:Nat):List Nat:=List.replicate k x
noncomputable def Ih(M i:Nat):List Nat:=
 rp (9+i) 4++rp (M+6+4*i) 5++[9+i]++rp (M+6+4*i) 6++[9+i]++rp (M+6+4*i) 6++[9+i]++rp (M+6+4*i) 2++[M+8+4*i]++rp (M+5) 5++[2,3,6,6,6,6,4003+2*i]++rp 8 5++[M+5,2,3,6,6,6,6,4004+2*i]++rp 8 5++rp (M+4) 4++rp (M+3) 4++[M+2]++rp (M+3) 2
noncomputable def EI(M:Nat):Nat->Nat->List Nat
 |0,_=>[]
 |1,i=>Ih M i
 |m+2,i=>Ih M i++[M+3]++EI M (m+1) (i+1)
noncomputable def Dx(b2:Bool)(m:Nat):List Nat:=
 [3,0,0,2,4000,3001,4001,2,3,6,6,6,6,4002]++rp (m+10) 3++rp (m+11) 5++cond b2 [] (rp (m+11) 4)++[m+10]++rp (m+11) 3++EI (m+8) m 0++
 [15+5*m,1,1]++rp (m+13) 6++[1]++rp (m+12) 3++[16+5*m,1000]++rp (18+5*m) 3++[4,4,0,0,4,7001,5,5,0,0,0,0,0,0,1]++rp (m+12) 3++rp (19+5*m) 10++[20+5*m,1002]++rp (22+5*m) 3++
 [7003,1,1,1,7,7,7,7,1,1]++rp (m+12) 4++[4003+2*m,7,4004+2*m,7,3,1,3,3,3000]
noncomputable def MY(M:Nat):Nat->Nat->List Nat
 |0,_=>[]
 |m+1,i=>(M+8+4*i)::MY M m (i+1)
noncomputable def my(m:Nat):List Nat:=List.range (8+m)++MY (8+m) m 0
noncomputable def kU(o:PT)(ps:List PT)(mm:Nat):List bD:=
 [gR 5 mm,gf [] (.val (.bool true)),gP 5 (8+ps.length) ⟨ps.map yx⟩]++(List.replicate (2*ps.length) (cn 5 (yx o))++[jh (11+ps.length),b9 6])
section
variable(W:WW)(p4 p5 p6 p7:Pos)(te:Expr)(i1:Value)(bo1 e1:List Stmt)(n3 n4:Env)(f2:List Stmt)(aF c1 c2 c3 c4:Nat)
noncomputable abbrev Fy:Env:=bg (ak (pW W)) (A aF) 231 (io c1 c2 c3 c4)
noncomputable abbrev r6:Stmt:=fH (be (ak (pW W))) 2
noncomputable abbrev wG(a:Nat)(b:List PT)(c:Nat):=Nat.add a (c+4*b.length)
abbrev P4 a b:=[(A (wG a b 9),eG),(A (wG a b 7),aK "list_iterator" [.ref (qP a 3),Ym]),(db a 3,ab ⟨yO a b 0⟩ b.length),(A (wG a b 8),ix)]
abbrev jK a b c d e f:=Fy a b c d e f
abbrev Nh a b c d e f:=(.whileLoop (kH (r6 a)) (bk (r6 a)) (kF (r6 a)) (jK a b c d e f):Code)
noncomputable def oc(n tb:Nat)(o:PT)(ps:List PT):List bL:=
 [kk (Vw W) (⟨ay (dq (pW W) (jK W aF c1 c2 c3 c4) (A (wG n ps 9)) (A (wG n ps 7)) (A (wG n ps 8))),none,none,(Nh W aF c1 c2 c3 c4,⟨138,41,138,45⟩)::(.func (be (ak (pW W))) (jK W aF c1 c2 c3 c4),p4)::[(.forLoop te i1 bo1 e1 n3,p7),(.func f2 n4,p5),(Y7,p6)],none⟩)
  ((P4 n ps)++rP n tb o ps 0)
  ([17+5*ps.length,15+5*ps.length,11+ps.length,16+5*ps.length]++MY (8+ps.length) ps.length 0) (8+ps.length) (8+ps.length)
  (fun x:yQ=>((oq W ⟨default,⟨138,41,138,45⟩,p4,p5,p6,p7,(kH (r6 W)),(bk (r6 W)),(kF (r6 W)),(jK W aF c1 c2 c3 c4),(be (ak (pW W))),(jK W aF c1 c2 c3 c4),te,i1,bo1,e1,n3,n4,f2⟩ aF c1 c2 c3 c4 (wG n ps 9) (wG n ps 7) (bJ n 3) (wG n ps 8) ⟨yO n ps 0⟩ ps.length (rP n tb o ps 0) (dh o ps) x).1,
   (oq W ⟨default,⟨138,41,138,45⟩,p4,p5,p6,p7,(kH (r6 W)),(bk (r6 W)),(kF (r6 W)),(jK W aF c1 c2 c3 c4),(be (ak (pW W))),(jK W aF c1 c2 c3 c4),te,i1,bo1,e1,n3,n4,f2⟩ aF c1 c2 c3 c4 (wG n ps 9) (wG n ps 7) (bJ n 3) (wG n ps 8) ⟨yO n ps 0⟩ ps.length (rP n tb o ps 0) (dh o ps) x).2.1++List.map (fun y=>y.2) (rP n tb o ps 0),[])) (fun x=>bC x.hs (dh o ps)),
  rh (dh o ps) (16+5*ps.length) (8+ps.length) (8+ps.length),
  zW W ⟨default,⟨140,31,140,47⟩,p4,p5,p6,p7,(kH (r6 W)),(bk (r6 W)),(kF (r6 W)),(jK W aF c1 c2 c3 c4),(be (ak (pW W))),(jK W aF c1 c2 c3 c4),te,i1,bo1,e1,n3,n4,f2⟩ aF c1 c2 c3 c4 (dh o ps) (21+5*ps.length) (19+5*ps.length) (20+5*ps.length) 3 4 (16+5*ps.length) (8+ps.length) (8+ps.length),
  rW (dh o ps) (20+5*ps.length) (8+ps.length) (8+ps.length)]
noncomputable abbrev jl(f:Bool)(uW uB:Tok)(vW vB:Value):List DictEntry:=cond f [] [aa (pW W) [119,97,121,115] uW vW,aa (pW W) [98,101,115,116] uB vB]
def Fn(L:List Nat)(n gb:Nat)(hs:List Nat)(bb:Bool)(C:Prop):Nat->Nat->Prop->Prop
 |0,_,R=>R
 |1,i,R=>C/\ad L n gb (sl hs (cond bb (65+69*i) (69+69*i)) 12) (C/\ad L n gb (sl hs (cond bb (78+69*i) (82+69*i)) 30) R)
 |m+2,i,R=>C/\ad L n gb (sl hs (cond bb (65+69*i) (69+69*i)) 12) (C/\ad L n gb (sl hs (cond bb (78+69*i) (82+69*i)) 55) (Fn L n gb hs bb C (m+1) (i+1) R))
theorem kS{L:List Nat}{n gb:Nat}{hs:List Nat}{bb:Bool}{C:Prop}(hC:C):∀(m i:Nat) {R:Prop},R->Fn L n gb hs bb C m i R
 |0,_,_,h=>h
 |1,_,_,h=>⟨hC,ag ⟨hC,ag h _⟩ _⟩
 |m+2,i,_,h=>⟨hC,ag ⟨hC,ag (kS hC (m+1) (i+1) h) _⟩ _⟩
noncomputable def lA(E:ae)(n k:Nat):List Nat:=lE E++(List.range k).map (Nat.add (A n))
abbrev tt:Prop:=(true:Bool)=true
noncomputable abbrev HO(n n1 m:Nat)(ds:List cw)(x0:yQ)(x1:lQ):ae:=[(db n1 3,eG),(db n1 1,aK "range_iterator" [Ym,.int (Int.ofNat (List.length ds)) 0,jv]),(mD n1 2),(A c3,⟨Yu,none,.cell (some (.ref (A (Nat.add n (8+4*m))))),⟨[]⟩⟩),(A c4,⟨Yu,none,.cell (some (.float (bf x1.d.fst x1.d.snd) x1.t)),⟨[]⟩⟩),(A (Nat.add n (8+4*m)),ab (x0.hs) x0.eph)]
noncomputable abbrev Mb(n m:Nat):Ctx:=⟨ay (dq (pW W) (jK W aF c1 c2 c3 c4) (A (Nat.add n (9+4*m))) (A (Nat.add n (7+4*m))) (A (Nat.add n (8+4*m)))),none,none,(Nh W aF c1 c2 c3 c4,⟨138,41,138,45⟩)::(.func (be (ak (pW W))) (jK W aF c1 c2 c3 c4),p4)::[(.forLoop te i1 bo1 e1 n3,p7),(.func f2 n4,p5),(Y7,p6)],none⟩
noncomputable abbrev LW(n1:Nat):Ctx:=⟨ay (eK (pW W) (jK W aF c1 c2 c3 c4) (qP n1 3) (A (dD n1)) (qP n1 2)),none,none,(Nh W aF c1 c2 c3 c4,⟨140,31,140,47⟩)::(.func (be (ak (pW W))) (jK W aF c1 c2 c3 c4),p4)::[(.forLoop te i1 bo1 e1 n3,p7),(.func f2 n4,p5),(Y7,p6)],none⟩
noncomputable abbrev zp:Ctx:=⟨fh (pW W) (jK W aF c1 c2 c3 c4),none,none,[(gU (ak (pW W)) (A aF) 231 (io c1 c2 c3 c4),p4),(.forLoop te i1 bo1 e1 n3,p7),(.func f2 n4,p5),(Y7,p6)],none⟩
noncomputable abbrev OX(n tb:Nat)(o:PT)(ps:List PT):ae:=(P4 n ps)++rP n tb o ps 0
noncomputable abbrev qw(f:Bool)(aP aE:Nat)(uE uW uB:Tok)(k:Nat)(pts eds:Array Value)(epP epE:Nat)(n tb tb3:Nat)(x1:lQ)(x3:jn)(o:PT)(ps:List PT):ae:=
 [(A aF,ah "frame" [aa (pW W) [101,100,103,101] uE (Yp aE),aa (pW W) [119,97,121,115] (cond f (Nat.add (TK tb) (6+6*ps.length)) uW) (dV n 3),aa (pW W) [98,101,115,116] (cond f (TK tb3) uB) (.int (Int.ofNat x3.j) x3.t)] 3),(Y6 c1 aP),(A c2,⟨Yu,none,.cell (some (.int (Int.ofNat k+(Int.ofNat x3.j+1)) (Y8 tb3 3))),⟨[]⟩⟩),(A c3,⟨Yu,none,.cell (some (.ref (Nat.add (A n) (8+4*ps.length)))),⟨[]⟩⟩),(A c4,⟨Yu,none,.cell (some (.float (bf x1.d.1 x1.d.2) x1.t)),⟨[]⟩⟩),(Yk aP pts epP),(A aE,Obj.mapSeq (·.push (.ref (kc ⟨il n ps 0⟩ (Int.ofNat x3.j)))) (ab eds epE))]++((o::ps).map zP++Fe n tb o ps 0)
noncomputable abbrev jA(ds:List cw)(j:Nat):Prop:=∃d,cI ds d/\(fg ds (bf d.1 d.2) (List.length ds)).getLast? =some j
abbrev Er:=bS Value.none
abbrev JS(a:ae)(b:Nat)(c:List PT)(d:Nat):=lA a b (10+4*c.length)++(List.range 4).map (Nat.add (A d))
noncomputable def Be(f:Bool)(aP aE:Nat)(uE uW uB tk:Tok)(k mm:Nat)(pts eds:Array Value)(epP epE:Nat)(o:PT)(ps:List PT)(n tb gb:Nat)(Z:ZB)(hs:List Nat)(E:ae):Prop:=
 ad (lE E) (A n) gb (sl hs 0 4) (
  ((Rf (.builtin "len" ⟨[(Yp aP)],[]⟩:Code))/\Rf (Value.type "list")/\pts.size=Nat.add mm 1/\mm.succ.blt 1000=true)/\ad (lE E) (A n) gb [] (
  (av (.builtin "int.__lt__" ⟨[(co k tk),(.int (Int.ofNat mm.succ-1) (Y8 tb 3))],[]⟩) [] wB/\tt)/\ad (lE E) (A n) gb (sl hs 7 6) (
  ((Rf (.builtin "list.__getitem__" ⟨[(Yp aP),(dV n 0)],[]⟩:Code))/\(Rf (Value.type "list")/\Rf (Value.type "slice")/\Rf Value.none)/\tt/\pts.size.le 1000/\slicePick pts (bS (Value.int (Int.ofNat k+1) ((TK tb).add 5))) Er none=Array.mk (ps.map yx))/\ad (lE E) (A n) gb (sl hs 14 (cond W.b2 50 54)) (
  Fn (lE E) (A n) gb hs W.b2 ((Rf (.builtin "list.__getitem__" ⟨[(Yp aP),(co k tk)],[]⟩:Code))/\bN (Yh k)/\(Hj k pts)=some (yx o)) ps.length 0 (
  Rf (Mb W p4 p5 p6 p7 te i1 bo1 e1 n3 n4 f2 aF c1 c2 c3 c4 n ps.length)/\Rf (ax (OX n tb o ps))/\tt/\tt/\∀(x0:yQ) (n0 tb0 gb0:Nat),bC x0.hs (dh o ps)->tt/\ad (lA E n (10+4*ps.length)) (A n0) gb0 (sl hs (cond W.b2 (40+69*ps.length) (44+69*ps.length)) 8) (
  ((Rf (.builtin "min" ⟨[.ref (Nat.add (A n) (8+4*ps.length))],[]⟩:Code)/\Rf (none:Option Value)/\Rf (none:Option Value)/\Rf (none:Option Value))/\tt/\Rf (ab (x0.hs) x0.eph)/\bC (x0.hs) (dh o ps))/\Rf (ax ([((Nat.add (A n) (8+4*ps.length)),(ab (x0.hs) x0.eph:Obj))]))/\tt/\tt/\∀(x1:lQ) (n1 tb1 gb1:Nat),cI (dh o ps) x1.d->tt/\ad (lA E n (10+4*ps.length)) (A n1) gb1 (sl hs (cond W.b2 (49+69*ps.length) (53+69*ps.length)) 23) (
  (bC (x0.hs) (dh o ps))/\Rf (LW W p4 p5 p6 p7 te i1 bo1 e1 n3 n4 f2 aF c1 c2 c3 c4 n1)/\Rf (ax (HO c3 c4 n n1 ps.length (dh o ps) x0 x1))/\tt/\tt/\∀(x2:AP) (n2 tb2 gb2:Nat),aY x2.js (fg (dh o ps) (bf x1.d.fst x1.d.snd) (List.length (dh o ps)))->tt/\ad (JS E n ps n1) (A n2) gb2 (sl hs (cond W.b2 (73+69*ps.length) (77+69*ps.length)) 3) (
  ((Rf (.builtin "max" ⟨[.ref (Y2 n1 2)],[]⟩:Code)/\Rf (none:Option Value)/\Rf (none:Option Value)/\Rf (none:Option Value))/\tt/\Rf (ab (x2.js) x2.epj)/\(∃d,cI (dh o ps) d/\aY (x2.js) (fg (dh o ps) (bf d.1 d.2) (List.length (dh o ps)))))/\Rf (ax ([((Y2 n1 2),(ab (x2.js) x2.epj:Obj))]))/\tt/\tt/\∀(x3:jn) (n3_ tb3 gb3:Nat),jA (dh o ps) x3.j->tt/\ad (JS E n ps n1) (A n3_) gb3 (sl hs (cond W.b2 (77+69*ps.length) (81+69*ps.length)) 13) (
  (Rf (.builtin "list.__getitem__" ⟨[(dV n 3),(.int (Int.ofNat x3.j) x3.t)],[]⟩:Code)/\bN (Int.ofNat x3.j)/\((seqIndex? (Int.ofNat x3.j) (Array.mk (il n ps 0)).size).bind fun j=>(Array.mk (il n ps 0))[j]?)=(some (.ref (kc (Array.mk (il n ps 0)) (Int.ofNat x3.j)))))/\ad (JS E n ps n1) (A n3_) gb3 (sl hs (cond W.b2 (91+69*ps.length) (95+69*ps.length)) 1) (
  (Rf (.builtin "list.append" ⟨[(Yp aE),(.ref (kc (Array.mk (il n ps 0)) (Int.ofNat x3.j)))],[]⟩:Code)/\(Rf (Value.type "list")/\Rf (none:Option Addr)/\Rf (Array.mk []:Array i6))/\eds.size.le 1000)/\ad (JS E n ps n1) (A n3_) gb3 (sl hs (cond W.b2 (93+69*ps.length) (97+69*ps.length)) 5) (
  Z (.again (fh (pW W) (jK W aF c1 c2 c3 c4))) (Y2 n3_ 0) (Y8 tb3 4) true (ax (qw W aF c1 c2 c3 c4 f aP aE uE uW uB k pts eds epP epE n tb tb3 x1 x3 o ps)))))))))))))
noncomputable def Hm(F:WW->Bool->Prop)(w:World):List Prop:=[F ⟨w,true,true⟩ true,F ⟨w,true,true⟩ false,F ⟨w,true,false⟩ true,F ⟨w,true,false⟩ false,F ⟨w,false,true⟩ true,F ⟨w,false,true⟩ false,F ⟨w,false,false⟩ true,F ⟨w,false,false⟩ false]
noncomputable def Hz(F:WW->Bool->Prop)(w:World):List Prop:=[F ⟨w,true,true⟩ true,F ⟨w,true,true⟩ false,F ⟨w,true,false⟩ true,F ⟨w,true,false⟩ false,F ⟨w,false,true⟩ true,F ⟨w,false,true⟩ false,F ⟨w,false,false⟩ true,F ⟨w,false,false⟩ false]
noncomputable def S8(F:WW->Bool->PT->List PT->List Nat->ae->Prop)(L:WW->List PT->List Nat)(E:WW->Bool->PT->List PT->ae):World->PT->PT->PT->PT->PT->PT->List (List Prop):=fun w o p1 p2 p3 p4 p5=>[Hm (fun W f=>F W f o [p1] (L W [p1]) (E W f o [p1])) w,Hm (fun W f=>F W f o [p1,p2] (L W [p1,p2]) (E W f o [p1,p2])) w,Hm (fun W f=>F W f o [p1,p2,p3] (L W [p1,p2,p3]) (E W f o [p1,p2,p3])) w,Hm (fun W f=>F W f o [p1,p2,p3,p4] (L W [p1,p2,p3,p4]) (E W f o [p1,p2,p3,p4])) w,Hm (fun W f=>F W f o [p1,p2,p3,p4,p5] (L W [p1,p2,p3,p4,p5]) (E W f o [p1,p2,p3,p4,p5])) w]
noncomputable def QX(F:WW->Bool->PT->List PT->List Nat->ae->Prop)(L:WW->List PT->List Nat)(E:WW->Bool->PT->List PT->ae):World->PT->PT->PT->PT->PT->PT->List (List Prop):=fun w o p1 p2 p3 p4 p5=>[Hz (fun W f=>F W f o [p1] (L W [p1]) (E W f o [p1])) w,Hz (fun W f=>F W f o [p1,p2] (L W [p1,p2]) (E W f o [p1,p2])) w,Hz (fun W f=>F W f o [p1,p2,p3] (L W [p1,p2,p3]) (E W f o [p1,p2,p3])) w,Hz (fun W f=>F W f o [p1,p2,p3,p4] (L W [p1,p2,p3,p4]) (E W f o [p1,p2,p3,p4])) w,Hz (fun W f=>F W f o [p1,p2,p3,p4,p5] (L W [p1,p2,p3,p4,p5]) (E W f o [p1,p2,p3,p4,p5])) w]
theorem kO{F G:WW->Bool->Prop}{w:World}(h:Hm F w=Hz G w)(b1 b2 f:Bool):F ⟨w,b1,b2⟩ f=G ⟨w,b1,b2⟩ f:=by
 have g:=fun i=>congrArg (fun l=>l.getD i True) h
 cases b1<;>cases b2<;>cases f
 ·exact g 7
 ·exact g 6
 ·exact g 5
 ·exact g 4
 ·exact g 3
 ·exact g 2
 ·exact g 1
 ·exact g 0
theorem EV{F G:WW->Bool->PT->List PT->List Nat->ae->Prop}{L:WW->List PT->List Nat}{E:WW->Bool->PT->List PT->ae}(h:S8 F L E=QX G L E)(W:WW)(f:Bool)(o:PT)(ps:List PT)(hps:ps≠[])(hp5:ps.length<=5)(hs:List Nat)(hhs:hs=L W ps)(e:ae)(he:e=E W f o ps):F W f o ps hs e=G W f o ps hs e:=by
 subst hhs he
 obtain⟨w,b1,b2⟩:=W
 have g:=fun i p1 p2 p3 p4 p5=>congrArg (fun g=>(g w o p1 p2 p3 p4 p5).getD i []) h
 rcases ps with _|⟨p1,_|⟨p2,_|⟨p3,_|⟨p4,_|⟨p5,_|⟨p6,r⟩⟩⟩⟩⟩⟩
 ·exact(hps rfl).elim
 ·exact kO (F:=fun W f=>F W f o [p1] (L W [p1]) (E W f o [p1])) (G:=fun W f=>G W f o [p1] (L W [p1]) (E W f o [p1])) (g 0 p1 p1 p1 p1 p1) b1 b2 f
 ·exact kO (F:=fun W f=>F W f o [p1,p2] (L W [p1,p2]) (E W f o [p1,p2])) (G:=fun W f=>G W f o [p1,p2] (L W [p1,p2]) (E W f o [p1,p2])) (g 1 p1 p2 p2 p2 p2) b1 b2 f
 ·exact kO (F:=fun W f=>F W f o [p1,p2,p3] (L W [p1,p2,p3]) (E W f o [p1,p2,p3])) (G:=fun W f=>G W f o [p1,p2,p3] (L W [p1,p2,p3]) (E W f o [p1,p2,p3])) (g 2 p1 p2 p3 p3 p3) b1 b2 f
 ·exact kO (F:=fun W f=>F W f o [p1,p2,p3,p4] (L W [p1,p2,p3,p4]) (E W f o [p1,p2,p3,p4])) (G:=fun W f=>G W f o [p1,p2,p3,p4] (L W [p1,p2,p3,p4]) (E W f o [p1,p2,p3,p4])) (g 3 p1 p2 p3 p4 p4) b1 b2 f
 ·exact kO (F:=fun W f=>F W f o [p1,p2,p3,p4,p5] (L W [p1,p2,p3,p4,p5]) (E W f o [p1,p2,p3,p4,p5])) (G:=fun W f=>G W f o [p1,p2,p3,p4,p5] (L W [p1,p2,p3,p4,p5]) (E W f o [p1,p2,p3,p4,p5])) (g 4 p1 p2 p3 p4 p5) b1 b2 f
 ·exact absurd hp5 (by simp)
noncomputable abbrev qO(a:Bool)(b:Value):=cond a none (some b)
theorem IB(f:Bool)(p0:Pos)(aP aE:Nat)(uE uW uB tk:Tok)(vW vB v3 v4:Value)(k mm:Nat)(pts eds:Array Value)(epP epE:Nat)(o:PT)(ps:List PT)(hps:ps≠[])(hp5:ps.length<=5)(n tb gb:Nat)(Z:ZB)(hs:List Nat)(hhs:hs=Dx W.b2 ps.length)(E:ae)(hE:E=eU (pW W) aF c1 c2 c3 c4 aP aE uE (jl W f uW uB vW vB) (cond f 1 3) k tk (qO f v3) (qO f v4) pts epP eds epE++(o::ps).map zP):
  ch (ec (Vw W) (8+ps.length) (kU o ps mm) [] (oc W p4 p5 p6 p7 te i1 bo1 e1 n3 n4 f2 aF c1 c2 c3 c4 n tb o ps) []) 1100 (zp W p4 p5 p6 p7 te i1 bo1 e1 n3 n4 f2 aF c1 c2 c3 c4) p0 (a8 (fh (pW W) (jK W aF c1 c2 c3 c4))) [] hs (cN E n tb gb) (kZ (my ps.length) Z)=
  Be W p4 p5 p6 p7 te i1 bo1 e1 n3 n4 f2 aF c1 c2 c3 c4 f aP aE uE uW uB tk k mm pts eds epP epE o ps n tb gb Z hs E:=
 EV (F:=fun W f o ps hs E=>ch (ec (Vw W) (8+ps.length) (kU o ps mm) [] (oc W p4 p5 p6 p7 te i1 bo1 e1 n3 n4 f2 aF c1 c2 c3 c4 n tb o ps) []) 1100 (zp W p4 p5 p6 p7 te i1 bo1 e1 n3 n4 f2 aF c1 c2 c3 c4) p0 (a8 (fh (pW W) (jK W aF c1 c2 c3 c4))) [] hs (cN E n tb gb) (kZ (my ps.length) Z)) (G:=fun W f o ps hs E=>Be W p4 p5 p6 p7 te i1 bo1 e1 n3 n4 f2 aF c1 c2 c3 c4 f aP aE uE uW uB tk k mm pts eds epP epE o ps n tb gb Z hs E) (L:=fun W ps=>Dx W.b2 ps.length) (E:=fun W f o ps=>eU (pW W) aF c1 c2 c3 c4 aP aE uE (jl W f uW uB vW vB) (cond f 1 3) k tk (qO f v3) (qO f v4) pts epP eds epE++(o::ps).map zP) (by kernel_rfl) W f o ps hps hp5 hs hhs E hE
end
end
set_option linter.all false
theorem bQ.data:∀{l:List (Int×Int)} {vs:List Value} {T:ae},bQ l vs T->∃ps:List PT,l=ps.map LN/\vs=ps.map yx/\T=ps.map zP
 |[],_,_,h=>⟨[],rfl,h.1,h.2⟩
 |p::l,_,_,h=>by
  obtain⟨a,tx,ty,et,vs',T',rfl,rfl,h⟩:=h
  obtain⟨ps,rfl,rfl,rfl⟩:=h.data
  exact⟨(a,p,tx,ty,et)::ps,rfl,rfl,rfl⟩
theorem nn{M:Model}{a:bD}{l:List bD}(ha:∀V,bE V M a)(hl:ew M l):∀k,ew M (List.replicate k a++l)
 |0=>hl
 |k+1=>⟨ha,nn ha hl k⟩
theorem vo{M:Model}{o:PT}{ps:List PT}{mm:Nat}(h1:∀V i m,bE V M (gR i m))(h2:∀V,bE V M (gf [] (.val (.bool true))))(h3:∀V i j v,bE V M (gP i j v))(h4:∀V i v,bE V M (cn i v))(h5:∀V i,bE V M (jh i))(h6:∀V i,bE V M (b9 i)):ew M (kU o ps mm):=
 show ew M (gR 5 mm::gf [] (.val (.bool true))::gP 5 (8+ps.length) ⟨ps.map yx⟩::(List.replicate (2*ps.length) (cn 5 (yx o))++[jh (11+ps.length),b9 6])) from
  ⟨fun V=>h1 V _ _,h2,fun V=>h3 V _ _ _,nn (l:=[jh (11+ps.length),b9 6]) (fun V=>h4 V _ _) ⟨fun V=>h5 V _,fun V=>h6 V _,trivial⟩ _⟩
theorem pL{n tb:Nat}{o p:PT}:∀{l:List PT} {i j:Nat},l[j]? =some p->(Fe n tb o l i)[j]? =some (Nat.add (A n) (8+4*(i+j)),AQ tb o p (i+j))
 |[],_,_,h=>by simp at h
 |q::l,i,0,h=>by simp at h;subst h;rfl
 |q::l,i,j+1,h=>by
  have:=pL (n:=n) (tb:=tb) (o:=o) (l:=l) (i:=i+1) (j:=j) (by simpa using h)
  rw [show i+1+j=i+(j+1) by lia] at this
  exact this
theorem lx(n:Nat):∀(l:List PT) (i:Nat),(il n l i).length=l.length
 |[],_=>rfl
 |_::l,i=>congrArg (·+1) (lx n l (i+1))
theorem qm(n:Nat):∀(l:List PT) (i:Nat),(il n l i).all zR=true
 |[],_=>rfl
 |_::l,i=>qm n l (i+1)
theorem pf{n:Nat}:∀{l:List PT} {i j:Nat},j<l.length->(il n l i)[j]? =some (.ref (Nat.add (A n) (8+4*(i+j))))
 |[],_,_,h=>by simp at h
 |q::l,i,0,h=>rfl
 |q::l,i,j+1,h=>by
  have:=pf (n:=n) (l:=l) (i:=i+1) (j:=j) (by simpa using h)
  rw [show i+1+j=i+(j+1) by lia] at this
  exact this
theorem bQ.new{n tb:Nat}{o:PT}:∀(ps:List PT) (i:Nat),bQ (dh o ps) (yO n ps i) (rP n tb o ps i)
 |[],_=>⟨rfl,rfl⟩
 |p::l,i=>⟨_,_,_,_,_,_,rfl,rfl,bQ.new l (i+1)⟩
section
variable(W:WW)(p0 p4:Pos)(vC:FC)(aF c1 c2 c3 c4 aP aE:Nat)(f:Bool)(uE uW uB tk:Tok)(vW vB v3 v4:Value)(k:Nat)(pts eds:Array Value)(epP epE:Nat)(o:PT)(pl:List PT)(n tb gb:Nat)(hs:List Nat)
include W p0 p4 vC aF c1 c2 c3 c4 aP aE f uE uW uB tk vW vB v3 v4 k pts eds epP epE o pl n tb gb hs
theorem G2(E:ae)(hne:pl≠[])(h5:pl.length<=5)(hk:k<=100)(hsz:pts.size=Nat.add (k+pl.length) 1)(hmm:Nat.blt (Nat.succ (k+pl.length)) 1000=true)(hlt:decide (Int.ofNat k<Int.ofNat (k+pl.length).succ-1)=true)(hsl:slicePick pts (some (Int.ofNat k+1)) none none=⟨pl.map yx⟩)(hg0:(Ag k pts).bind (fun j=>pts[j]?)=some (yx o))(hpz:pts.size<=1000)(hed:eds.size<=1000):Be W p4 vC.p5 vC.p6 vC.p7 vC.te vC.i1 vC.bo1 vC.e1 vC.n3 vC.n4 vC.f2 aF c1 c2 c3 c4 f aP aE uE uW uB tk k (k+pl.length) pts eds epP epE o pl n tb gb (fun ev nk tk fin l=>fin=true/\((∃(x1:lQ) (x3:jn) (tb3:Nat),jA (dh o pl) x3.j/\ev=(.again (fh (pW W) (jK W aF c1 c2 c3 c4)))/\l=ax (qw W aF c1 c2 c3 c4 f aP aE uE uW uB k pts eds epP epE n tb tb3 x1 x3 o pl))/\677<=tk)) hs E:=by
 unfold Be
 refine rI ⟨rfl,rfl,hsz,hmm⟩ ?_
 refine rI ⟨gG hlt,rfl⟩ ?_
 refine rI ⟨rfl,⟨rfl,rfl,rfl⟩,rfl,hpz,hsl⟩ ?_
 refine ag (kS ⟨rfl,bV (by lia),hg0⟩ _ _ ?_) _
 refine⟨rfl,rfl,rfl,rfl,fun x0 n0 tb0 gb0 hx0=>⟨rfl,ag ?_ _⟩⟩
 refine⟨⟨⟨rfl,rfl,rfl,rfl⟩,rfl,rfl,hx0⟩,rfl,rfl,rfl,fun x1 n1 tb1 gb1 hx1=>⟨rfl,ag ?_ _⟩⟩
 refine⟨hx0,rfl,rfl,rfl,rfl,fun x2 n2 tb2 gb2 hx2=>⟨rfl,ag ?_ _⟩⟩
 refine⟨⟨⟨rfl,rfl,rfl,rfl⟩,rfl,rfl,⟨x1.d,hx1,hx2⟩⟩,rfl,rfl,rfl,fun x3 n3' tb3 gb3 hx3=>⟨rfl,ag ?_ _⟩⟩
 have hj:=sH hx3
 rw [show(dh o pl).length=pl.length from length_map _] at hj
 refine⟨⟨rfl,bV (by lia),CW (by rw [lx];exact hj) (qm n pl 0)⟩,ag ?_ _⟩
 refine⟨⟨rfl,⟨rfl,rfl,rfl⟩,hed⟩,ag ?_ _⟩
 exact⟨rfl,⟨x1,x3,tb3,hx3,rfl,rfl⟩,eQ⟩
theorem Hc(hhs:hs=Dx W.b2 pl.length)(hne:pl≠[])(h5:pl.length<=5)(hk:k<=100)(hsz:pts.size=Nat.add (k+pl.length) 1)(hmm:Nat.blt (Nat.succ (k+pl.length)) 1000=true)(hlt:decide (Int.ofNat k<Int.ofNat (k+pl.length).succ-1)=true)(hsl:slicePick pts (some (Int.ofNat k+1)) none none=⟨pl.map yx⟩)(hg0:(Ag k pts).bind (fun j=>pts[j]?)=some (yx o))(hpz:pts.size<=1000)(hed:eds.size<=1000):ch (ec (Vw W) (8+pl.length) (kU o pl (k+pl.length)) [] (oc W p4 vC.p5 vC.p6 vC.p7 vC.te vC.i1 vC.bo1 vC.e1 vC.n3 vC.n4 vC.f2 aF c1 c2 c3 c4 n tb o pl) []) 1100 (zp W p4 vC.p5 vC.p6 vC.p7 vC.te vC.i1 vC.bo1 vC.e1 vC.n3 vC.n4 vC.f2 aF c1 c2 c3 c4) p0 (a8 (fh (pW W) (jK W aF c1 c2 c3 c4))) [] hs (qR (eU (pW W) aF c1 c2 c3 c4 aP aE uE (jl W f uW uB vW vB) (cond f 1 3) k tk (qO f v3) (qO f v4) pts epP eds epE++(o::pl).map zP) (A n) (TK tb) gb) (kZ (my pl.length) (fun ev nk tk fin l=>fin=true/\((∃(x1:lQ) (x3:jn) (tb3:Nat),jA (dh o pl) x3.j/\ev=(.again (fh (pW W) (jK W aF c1 c2 c3 c4)))/\l=ax (qw W aF c1 c2 c3 c4 f aP aE uE uW uB k pts eds epP epE n tb tb3 x1 x3 o pl))/\677<=tk))):=
 Eq.mpr (IB W p4 vC.p5 vC.p6 vC.p7 vC.te vC.i1 vC.bo1 vC.e1 vC.n3 vC.n4 vC.f2 aF c1 c2 c3 c4 f p0 aP aE uE uW uB tk vW vB v3 v4 k (k+pl.length) pts eds epP epE o pl hne h5 n tb gb (fun ev nk tk fin l=>fin=true/\((∃(x1:lQ) (x3:jn) (tb3:Nat),jA (dh o pl) x3.j/\ev=(.again (fh (pW W) (jK W aF c1 c2 c3 c4)))/\l=ax (qw W aF c1 c2 c3 c4 f aP aE uE uW uB k pts eds epP epE n tb tb3 x1 x3 o pl))/\677<=tk)) hs hhs _ rfl) (G2 W p0 p4 vC aF c1 c2 c3 c4 aP aE f uE uW uB tk vW vB v3 v4 k pts eds epP epE o pl n tb gb _ _ hne h5 hk hsz hmm hlt hsl hg0 hpz hed)
end
theorem yn:∀m,m<=5->(my m).take (8+m)=List.range (8+m):=by decide
theorem B7(f:Bool)(aP aE:Nat)(uE uW uB:Tok)(k:Nat)(pts eds:Array Value)(epP epE:Nat)(n tb tb3:Nat)(x1:lQ)(x3:jn)(o:PT)(ps:List PT){E:ae}(hE:E.map (·.1)=[A aF,A c1,A c2,A c3,A c4,A aP,A aE]++(o::ps).map (A ·.1)):((ax (qw W aF c1 c2 c3 c4 f aP aE uE uW uB k pts eds epP epE n tb tb3 x1 x3 o ps)).map (·.1)).take E.length=E.map (·.1):=by
 have h:E.length=7+(o::ps).length:=by rw [<-length_map (as:=E),hE,List.length_append,length_map];rfl
 rw [h,hE]
 unfold ax qw
 rw [map_map,map_append,map_append,<-append_assoc]
 refine(List.take_append_of_le_length ?_).trans ?_
 ·simp;lia
 ·rw [take_of_length_le (by simp;lia)]
  simp [zP,Function.comp_def]
theorem EY(W:WW)(p0 p4:Pos)(vC:FC)(aF c1 c2 c3 c4 aP aE:Nat)(f:Bool)(uE uW uB tk:Tok)(vW vB v3 v4:Value)(k:Nat)(pts eds:Array Value)(epP epE:Nat)(o:PT)(pl:List PT)(n tb gb:Nat)(hs:List Nat)(s:Shared)(hn:s.heap.objs.size=A n)(ht:s.toks=TK tb)(hg:s.gens.size=gb)(hP':az (pW W) (eU (pW W) aF c1 c2 c3 c4 aP aE uE (jl W f uW uB vW vB) (cond f 1 3) k tk (qO f v3) (qO f v4) pts epP eds epE++(o::pl).map zP) s)(hne:pl≠[])(h5:pl.length<=5)(h10:cb (dh o pl))(h100:(dh o pl).length<=100)(hd:dh o pl≠[])(H:ch (ec (Vw W) (8+pl.length) (kU o pl (k+pl.length)) [] (oc W p4 vC.p5 vC.p6 vC.p7 vC.te vC.i1 vC.bo1 vC.e1 vC.n3 vC.n4 vC.f2 aF c1 c2 c3 c4 n tb o pl) []) 1100 (zp W p4 vC.p5 vC.p6 vC.p7 vC.te vC.i1 vC.bo1 vC.e1 vC.n3 vC.n4 vC.f2 aF c1 c2 c3 c4) p0 (a8 (fh (pW W) (jK W aF c1 c2 c3 c4))) [] hs (qR (eU (pW W) aF c1 c2 c3 c4 aP aE uE (jl W f uW uB vW vB) (cond f 1 3) k tk (qO f v3) (qO f v4) pts epP eds epE++(o::pl).map zP) (A n) (TK tb) gb) (kZ (my pl.length) (fun ev nk tk fin l=>fin=true/\((∃(x1:lQ) (x3:jn) (tb3:Nat),jA (dh o pl) x3.j/\ev=(.again (fh (pW W) (jK W aF c1 c2 c3 c4)))/\l=ax (qw W aF c1 c2 c3 c4 f aP aE uE uW uB k pts eds epP epE n tb tb3 x1 x3 o pl))/\677<=tk)))):∃ev s' l,dB (Yt W) (zp W p4 vC.p5 vC.p6 vC.p7 vC.te vC.i1 vC.bo1 vC.e1 vC.n3 vC.n4 vC.f2 aF c1 c2 c3 c4) p0 (a8 (fh (pW W) (jK W aF c1 c2 c3 c4))) [] s ev s'/\((∃(x1:lQ) (x3:jn) (tb3:Nat),jA (dh o pl) x3.j/\ev=(.again (fh (pW W) (jK W aF c1 c2 c3 c4)))/\l=ax (qw W aF c1 c2 c3 c4 f aP aE uE uW uB k pts eds epP epE n tb tb3 x1 x3 o pl))/\677<=s'.toks)/\f8 l s'.heap/\cL (pW W) s'/\af (eU (pW W) aF c1 c2 c3 c4 aP aE uE (jl W f uW uB vW vB) (cond f 1 3) k tk (qO f v3) (qO f v4) pts epP eds epE++(o::pl).map zP) s s':=by
 have hE:(eU (pW W) aF c1 c2 c3 c4 aP aE uE (jl W f uW uB vW vB) (cond f 1 3) k tk (qO f v3) (qO f v4) pts epP eds epE++(o::pl).map zP).map (·.1)=[A aF,A c1,A c2,A c3,A c4,A aP,A aE]++(o::pl).map (A ·.1):=by
  rw [map_append,map_map];rfl
 have hl:(eU (pW W) aF c1 c2 c3 c4 aP aE uE (jl W f uW uB vW vB) (cond f 1 3) k tk (qO f v3) (qO f v4) pts epP eds epE++(o::pl).map zP).length=8+pl.length:=by
  rw [List.length_append,length_map];show 7+(pl.length+1)=8+pl.length;lia
 rw [<-hl] at H
 refine dp (is:=my _) (vo (fun _ _ _=>hV) (fun _=>au) (fun _ _ _ _=>jY) (fun _ _ _=>bA) (fun _ _=>rG) (fun _ _=>bx)) ?_ hP' hn ht hg (by rw [hl];exact yn _ h5) ?_ H
 ·rw [hl]
  refine⟨?_,?_,?_,?_,trivial⟩
  ·exact ju rfl (jV (fz:=[]) (sa W ⟨default,⟨138,41,138,45⟩,p4,vC.p5,vC.p6,vC.p7,(kH (r6 W)),(bk (r6 W)),(kF (r6 W)),(jK W aF c1 c2 c3 c4),(be (ak (pW W))),(jK W aF c1 c2 c3 c4),vC.te,vC.i1,vC.bo1,vC.e1,vC.n3,vC.n4,vC.f2⟩ aF c1 c2 c3 c4 _ _ _ _ _ _ _ _ (bQ.pts (bQ.new _ 0)) h10.ranged h100 hd) (fun _=>rfl))
  ·exact uz rfl h10 hd
  ·exact vK _ _ _ _ _ _ _ _ rfl h100 hd
  ·exact uu rfl h10
 ·rintro ev nk tk l ⟨⟨x1,x3,tb3,hc,rfl,rfl⟩,h⟩;exact⟨B7 (hE:=hE) ..,h⟩
theorem qU{W:WW}{fr:List DictEntry}{bP:Nat}{w3 w4:Option Value}(hfr:Jh (pW W) fr bP w3 w4):∃(f:Bool) (uW uB:Tok) (vW vB v3 v4:Value),fr=jl W f uW uB vW vB/\bP=cond f 1 3/\w3=cond f none (some v3)/\w4=cond f none (some v4):=by
 rcases hfr with⟨rfl,rfl,rfl,rfl⟩|⟨uW,vW,uB,vB,v3,v4,rfl,rfl,rfl,rfl⟩
 ·exact⟨true,0,0,.none,.none,.none,.none,rfl,rfl,rfl,rfl⟩
 ·exact⟨false,uW,uB,vW,vB,v3,v4,rfl,rfl,rfl,rfl⟩
theorem su(W:WW)(p0 p4:Pos)(vC:FC)(aF c1 c2 c3 c4 aP aE:Nat)(uE:Tok)(pts:Array Value)(epP:Nat)(fz:List df)(ps:List cw)(q0:Int×Int)(l:List cw)(hl:l≠[])(hl5:l.length<=5)(fr:List DictEntry)(bP k:Nat)(tk:Tok)(w3 w4:Option Value)(eds:Array Value)(epE:Nat)(s:Shared)(hps:aw pts fz ps)(hle:ps.length<=100)(hnd:pts.toList.Nodup)(hok:eP ps)(hed:eds.size<=100)(hk:ps.drop k=q0::l)(hfr:Jh (pW W) fr bP w3 w4)(hP:az (pW W) (eU (pW W) aF c1 c2 c3 c4 aP aE uE fr bP k tk w3 w4 pts epP eds epE) s)(hfz:cF fz (eU (pW W) aF c1 c2 c3 c4 aP aE uE fr bP k tk w3 w4 pts epP eds epE) s):GX W p0 p4 vC aF c1 c2 c3 c4 aP aE uE pts epP fr bP k tk w3 w4 eds epE s q0 l:=by
 refine gQ fun Q zQ=>?_
 obtain⟨f,uW,uB,vW,vB,v3,v4,rfl,rfl,rfl,rfl⟩:=qU hfr
 obtain⟨T,hT,hTm⟩:=aw.tups (items:=pts.toList) hps
 have hD:=hT.drop (k:=k)
 rw [hk] at hD
 obtain⟨os,e1',e2,e3⟩:=hD.data
 refine zQ ?_
 rcases os with _|⟨o,pl⟩
 ·cases e1'
 refine gQ fun Q zQ=>?_
 obtain⟨rfl,rfl⟩:=List.cons.inj e1'
 have hTk:∀x∈T.drop k,x∈fz:=fun x hx=>hTm x (List.mem_of_mem_drop hx)
 have hge:∀x∈T.drop k,245<=x.1:=fun x hx=>hT.ge x (List.mem_of_mem_drop hx)
 have nd:((T.drop k).map (·.1)).Nodup:=List.Nodup.sublist (List.Sublist.map _ (List.drop_sublist _ _)) (hT.nodup hnd)
 rw [e3] at hTk hge nd
 have hP':=hP.addL hfz hTk hge nd
 have hlen:ps.length=k+(pl.length+1):=by have:=congrArg List.length hk;simp at this;lia
 have hsz:pts.size=Nat.add (k+pl.length) 1:=by rw [hps.size,hlen];rfl
 have hmm:Nat.blt (Nat.succ (k+pl.length)) 1000=true:=Nat.blt_eq.mpr (by lia)
 have hne:pl≠[]:=fun h=>hl (by rw [h];rfl)
 have hp0:0<pl.length:=List.length_pos_iff.mpr hne
 have h5:pl.length<=5:=by simpa using hl5
 have hlt:decide (Int.ofNat k<Int.ofNat (k+pl.length).succ-1)=true:=decide_eq_true (by show(k:Int)<((k+pl.length+1:Nat):Int)-1;lia)
 have hsl:=rj (items:=pts) (k:=k) (bw e2).2
 have hg0:=FM (items:=pts) e2
 have ed:difs (LN o) (pl.map LN)=dh o pl:=by unfold difs dh;rw [map_map];rfl
 have h10:cb (dh o pl):=by rw [<-ed];exact hok.difs hk
 have hdl:(dh o pl).length=pl.length:=length_map _
 have hpz:pts.size<=1000:=by have:=hps.size;lia
 obtain⟨n,hn⟩:=hP'.size
 obtain⟨tb,ht⟩:=hP'.toks
 generalize hg:s.gens.size=gb
 obtain⟨hs,hhs⟩:∃hs,hs=Dx W.b2 pl.length:=⟨_,rfl⟩
 have H:=Hc W p0 p4 vC aF c1 c2 c3 c4 aP aE f uE uW uB tk vW vB v3 v4 k pts eds epP epE o pl n tb gb hs hhs hne h5 (by lia) hsz hmm hlt hsl hg0 hpz (by lia)
 obtain⟨ev,s',lz,r,⟨⟨x1,⟨j,tj⟩,tb3,hc,rfl,rfl⟩,htk⟩,h3,h4,K⟩:=EY W p0 p4 vC aF c1 c2 c3 c4 aP aE f uE uW uB tk vW vB v3 v4 k pts eds epP epE o pl n tb gb hs s hn ht hg hP' hne h5 h10 (by rw [hdl];lia) (by intro e;rw [e] at hdl;simp at hdl;lia) H
 have hF:=ai h3
 obtain⟨h7,hpt⟩:=cg.mp hF
 obtain⟨hpts,hnew⟩:=cg.mp hpt
 have K':=af.cutL K (cg.mp hP'.has).2 hpts
 obtain⟨e,he⟩:=AU h10 hc
 refine zQ ?_
 have hj:j<pl.length:=by have:=sH hc;rw [hdl] at this;exact this
 have hpj:pl[j]? =some pl[j]:=List.getElem?_eq_getElem hj
 have hee:e=(pl[j].2.1.1-o.2.1.1,pl[j].2.1.2-o.2.1.2):=by
  have:=he.1
  unfold dh at this
  rw [getElem?_map,hpj] at this
  exact(Option.some.inj this).symm
 have hi:kc ⟨il n pl 0⟩ (Yh j)=A (Nat.add n (8+4*(0+j))):=by
  have:=pf (n:=n) (i:=0) hj
  have e2:kE ⟨il n pl 0⟩ (Yh j)=.ref (Nat.add (A n) (8+4*(0+j))):=by
   unfold kE
   rw [fJ (show j<(Array.mk (il n pl 0)).size by show j<(il n pl 0).length;rw [lx];exact hj)]
   show((Array.mk (il n pl 0))[j]?).getD .none=_
   rw [show(Array.mk (il n pl 0))[j]? =(il n pl 0)[j]? from by simp,this];rfl
  unfold kc
  rw [e2]
  show n+245+(8+4*(0+j))=n+(8+4*(0+j))+245
  lia
 have hN:=hnew.get (pL (n:=n) (tb:=tb) (o:=o) (i:=0) hpj)
 have hN':s'.heap.get? (A (Nat.add n (8+4*(0+j))))=some (AQ tb o pl[j] (0+j)):=by
  rw [<-hN,show A (Nat.add n (8+4*(0+j)))=Nat.add (A n) (8+4*(0+j)) by show n+(8+4*(0+j))+245=n+245+(8+4*(0+j));lia]
 subst hee
 rw [hi] at h7
 exact⟨s',_,_,_,_,_,_,j,_,Nat.add n (8+4*(0+j)),_,_,_,am rfl r,⟨_,_,_,_,_,_,rfl,rfl,rfl,rfl⟩,⟨h4,⟨h7.1,h7.2.1,h7.2.2.1,h7.2.2.2.1,h7.2.2.2.2.1,h7.2.2.2.2.2.1,h7.2.2.2.2.2.2.1,trivial⟩,hP.nd,hP.lo⟩,K',by rw [ed];exact he,(show s'.heap.get? (A (Nat.add n (8+4*(0+j))))=some (a9 [.int (pl[j].2.1.1-o.2.1.1,pl[j].2.1.2-o.2.1.2).1 _,.int (pl[j].2.1.1-o.2.1.1,pl[j].2.1.2-o.2.1.2).2 _] _) from hN'),by rw [hn];show n+245<=n+(8+4*(0+j))+245;lia⟩
inductive eF:Int×Int->List (Int×Int)->List (Int×Int)->Prop
 |nil (q):eF q [] []
 |cons {q l j e q' l' es} (hl:l≠[]) (hb:lc (difs q l) j e) (hd:l.drop j=q'::l') (h:eF q' l' es):eF q l (e::es)
theorem aw.push{eds:Array Value}{fz:List df}{es:List cw}{a tx ty et}{e:Int×Int}(h:aw eds fz es):aw (eds.push (Yp a)) (fz++[(A a,a9 [.int e.1 tx,.int e.2 ty] et)]) (es++[e]):=by
 intro i
 have hs:=h.size
 by_cases q:i<es.length
 ·rw [getElem?_append_left q]
  have z:=h i
  revert z
  rw [List.getElem?_eq_getElem q]
  intro z
  obtain⟨a',tx',ty',et',e',hm⟩:=z
  exact⟨a',tx',ty',et',by rw [getElem?_push,if_neg (by lia)];exact e',mem_append_left _ hm⟩
 ·by_cases q2:i=es.length
  ·subst q2
   rw [getElem?_append_right (Nat.le_refl _),Nat.sub_self]
   exact⟨a,tx,ty,et,by rw [getElem?_push,if_pos hs.symm],mem_append_right _ (List.mem_singleton.mpr rfl)⟩
  ·rw [getElem?_append_right (by lia),List.getElem?_eq_none (by simp;lia)]
   show _=Option.none
   rw [getElem?_push,if_neg (by lia),Array.getElem?_eq_none (by lia)]
def c9(fz:List df)(E:ae)(n0:Nat)(s:Shared):Prop:=∀y∈fz,s.heap.get? y.1=some y.2/\y.1∉E.map (·.1)/\n0<=y.1
theorem c9.keep{fz:List (Nat×Obj)}{E E':ae}{n0:Nat}{s s':Shared}(h:c9 fz E n0 s)(k:af E s s')(e:E.map (·.1)=E'.map (·.1)):c9 fz E' n0 s':=
 fun y hy=>⟨k.keep _ _ (h y hy).1 (h y hy).2.1,by rw [<-e];exact(h y hy).2.1,(h y hy).2.2⟩
theorem az.lt{P:Params}{E:ae}{s:Shared}(h:az P E s){a:Nat}(ha:a∈E.map (·.1)):a<s.heap.objs.size:=by
 obtain⟨x,hx,rfl⟩:=List.mem_map.mp ha
 obtain⟨i,hi⟩:=List.mem_iff_getElem?.mp hx
 exact Heap.lt_size (h.has.get hi)
theorem c9.add{fz:List (Nat×Obj)}{P:Params}{E E':ae}{n0:Nat}{s s':Shared}{y:Nat×Obj}(h:c9 fz E' n0 s')(hP:az P E s)(e:E.map (·.1)=E'.map (·.1))(h1:s'.heap.get? y.1=some y.2)(h2:s.heap.objs.size<=y.1)(h3:n0<=s.heap.objs.size):c9 (fz++[y]) E' n0 s':=by
 intro x hx
 rcases List.mem_append.mp hx with hx|hx
 ·exact h x hx
 ·rw [List.mem_singleton.mp hx]
  exact⟨h1,fun hm=>by rw [<-e] at hm;have:=hP.lt hm;lia,by lia⟩
theorem nb{ds:List (Int×Int)}{j:Nat}{e:Int×Int}(h:lc ds j e):j<ds.length:=(List.getElem?_eq_some_iff.mp h.1).1
section
variable(W:WW)(p4:Pos)(vC:FC)(aF c1 c2 c3 c4 aP aE:Nat)(uE:Tok)(pts:Array Value)(epP:Nat)(fz:List df)
include W p4 vC aF c1 c2 c3 c4 aP aE uE pts epP fz
theorem Aw(ps:List cw)(hps:aw pts fz ps)(hle:ps.length<=100)(hnd:pts.toList.Nodup)(hok:eP ps):∀(N:Nat) (l:List cw) (q0:Int×Int) (fr:List DictEntry) (bP k:Nat) (tk:Tok) (w3 w4:Option Value) (eds:Array Value) (epE:Nat) (fzE:List df) (es:List cw) (n0:Nat) (p0:Pos) (s:Shared),l.length<=N->l.length<=5->ps.drop k=q0::l->kz (pW W) fr bP w3 w4->eds.size+l.length<=50->az (pW W) (eU (pW W) aF c1 c2 c3 c4 aP aE uE fr bP k tk w3 w4 pts epP eds epE) s->cF fz (eU (pW W) aF c1 c2 c3 c4 aP aE uE fr bP k tk w3 w4 pts epP eds epE) s->aw eds fzE es->c9 fzE (eU (pW W) aF c1 c2 c3 c4 aP aE uE fr bP k tk w3 w4 pts epP eds epE) n0 s->n0<=s.heap.objs.size->
  ∀Q:Prop,(∀s' fr' cnt' k' tk' w3' w4' eds' epE' fzE' es',Runs (Yt W) ⟨fh (pW W) (bg (ak (pW W)) (A aF) 231 [A c1,A c2,A c3,A c4]),none,none,[(gU (ak (pW W)) (A aF) 231 [A c1,A c2,A c3,A c4],p4),(.forLoop vC.te vC.i1 vC.bo1 vC.e1 vC.n3,vC.p7),(.func vC.f2 vC.n4,vC.p5),(Y7,vC.p6)],none⟩ p0 ((Yt W).den (fh (pW W) (bg (ak (pW W)) (A aF) 231 (io c1 c2 c3 c4)))) [] s ft s'->cL (pW W) s'->cG (eU (pW W) aF c1 c2 c3 c4 aP aE uE fr' cnt' k' tk' w3' w4' pts epP eds' epE') s'.heap->af (eU (pW W) aF c1 c2 c3 c4 aP aE uE fr bP k tk w3 w4 pts epP eds epE) s s'->kz (pW W) fr' cnt' w3' w4'->aw eds' fzE' (es++es')->c9 fzE' (eU (pW W) aF c1 c2 c3 c4 aP aE uE fr' cnt' k' tk' w3' w4' pts epP eds' epE') n0 s'->eF q0 l es'->eds'.size<=50->Q)->Q:=by
 intro N
 induction N with
 |zero=>
  intro l q0 fr bP k tk w3 w4 eds epE fzE es n0 p0 s hN h5 hk hfr hsz hP hfz hes hst hn0 Q kQ
  cases l with
  |cons=>simp at hN
  |nil=>
   have hlen:ps.length=k+1:=by have:=congrArg List.length hk;simp at this;lia
   refine vR W p0 p4 vC aF c1 c2 c3 c4 aP aE tk w3 w4 k k pts eds epP epE bP _ s (by rw [hps.size,hlen];try rfl) (Nat.blt_eq.mpr (by lia)) (decide_eq_false (by show¬((k:Int)<((k+1:Nat):Int)-1);lia)) _ rfl hP fun n tb s' _ _ r h1 h2 h3=>?_
   exact kQ s' fr bP k tk w3 w4 eds epE fzE ([]) r h1 h2 h3 hfr (by rw [List.append_nil];exact hes) (hst.keep h3 rfl) (.nil _) (by lia)
 |succ N ih=>
  intro l q0 fr bP k tk w3 w4 eds epE fzE es n0 p0 s hN h5 hk hfr hsz hP hfz hes hst hn0 Q kQ
  by_cases hl:l=[]
  ·subst hl
   exact ih [] q0 fr bP k tk w3 w4 eds epE fzE es n0 p0 s (zero_le _) h5 hk hfr hsz hP hfz hes hst hn0 Q kQ
  ·obtain⟨s1,fr1,cnt1,w31,w41,tk1,epE1,j,e,a,tx,ty,et,⟨p',H⟩,hfr1,hP1,K1,hb,ho,hs1⟩:=su W p0 p4 vC aF c1 c2 c3 c4 aP aE uE pts epP fz ps q0 l hl h5 fr bP k tk w3 w4 eds epE s hps hle hnd hok (by lia) hk (.inr hfr) hP hfz
   have hj:j<l.length:=by have:=nb hb;unfold difs at this;rwa [length_map] at this
   obtain⟨q',l',hd⟩:∃q' l',l.drop j=q'::l':=by
    cases h:l.drop j with
    |nil=>have:=congrArg List.length h;simp at this;lia
    |cons a b=>exact⟨a,b,rfl⟩
   have hk':ps.drop (k+(j+1))=q'::l':=by
    rw [show k+(j+1)=(k+1)+j by lia,<-drop_drop,(bw hk).2,hd]
   have hll:l'.length<l.length:=by have:=congrArg List.length hd;simp at this;lia
   refine ih l' q' fr1 cnt1 (k+(j+1)) tk1 w31 w41 (eds.push (Yp a)) epE1 (fzE++[(A a,a9 [.int e.1 tx,.int e.2 ty] et)]) (es++[e]) n0 p' s1 (by lia) (by lia) hk' hfr1 (by rw [Array.size_push];lia) hP1 (hfz.keep K1 rfl) hes.push ((hst.keep K1 rfl).add hP rfl ho hs1 hn0) (Nat.le_trans hn0 K1.size) _ fun s2 fr2 cnt2 k2 tk2 w32 w42 eds2 epE2 fzE2 es2 r h1 h2 h3 h4 h6 h7 h8 h9=>?_
   exact kQ s2 fr2 cnt2 k2 tk2 w32 w42 eds2 epE2 fzE2 (e::es2) (H _ _ r) h1 h2 (K1.trans (h3.cast rfl)) h4 (by simpa using h6) h7 (.cons hl hb hd h8) h9
structure yg where
 uW:Tok
 uB:Tok
 tk:Tok
 k:Nat
 vW:Value
 vB:Value
 v3:Value
 v4:Value
 eds:Array Value
 epE:Nat
 fz:List (Nat×Obj)
 es:List (Int×Int)
noncomputable def r7(P:Params)(aF c1 c2 c3 c4 aP aE:Nat)(uE:Tok)(pts:Array Value)(epP:Nat)(x:yg):Result×List Obj×ae:=(mV,(eU P aF c1 c2 c3 c4 aP aE uE [aa P [119,97,121,115] x.uW x.vW,aa P [98,101,115,116] x.uB x.vB] 3 x.k x.tk (some x.v3) (some x.v4) pts epP x.eds x.epE).map (·.2),[])
abbrev HD a:=(⟨[]⟩:Array Value).push (Yp a)
theorem ug(q0:Int×Int)(l:List cw)(hps:aw pts fz (q0::l))(hl:l≠[])(hl5:l.length<=5)(hnd:pts.toList.Nodup)(hok:eP (q0::l))(tk:Tok):
  cv (Vw W) ⟨fh (pW W) (bg (ak (pW W)) (A aF) 231 [A c1,A c2,A c3,A c4]),none,none,[(gU (ak (pW W)) (A aF) 231 [A c1,A c2,A c3,A c4],p4),(.forLoop vC.te vC.i1 vC.bo1 vC.e1 vC.n3,vC.p7),(.func vC.f2 vC.n4,vC.p5),(Y7,vC.p6)],none⟩ (eU (pW W) aF c1 c2 c3 c4 aP aE uE [] 1 0 tk none none pts epP ⟨[]⟩ 0) fz (r7 (pW W) aF c1 c2 c3 c4 aP aE uE pts epP) (fun x=>x.fz) (fun x=>aw x.eds x.fz x.es/\eF q0 l x.es/\x.eds.size<=50):=by
 intro p0 s hP hfz
 have hle:(q0::l).length<=100:=by simp;lia
 refine gQ fun Q zQ=>?_
 obtain⟨s1,fr1,cnt1,w31,w41,tk1,epE1,j,e,a,tx,ty,et,⟨p',H⟩,hfr1,hP1,K1,hb,ho,hs1⟩:=su W p0 p4 vC aF c1 c2 c3 c4 aP aE uE pts epP fz (q0::l) q0 l hl hl5 [] 1 0 tk none none ⟨[]⟩ 0 s hps hle hnd hok (by simp) rfl (.inl ⟨rfl,rfl,rfl,rfl⟩) hP hfz
 have hj:j<l.length:=by have:=nb hb;unfold difs at this;rwa [length_map] at this
 obtain⟨q',l',hd⟩:∃q' l',l.drop j=q'::l':=by
  cases h:l.drop j with
  |nil=>have:=congrArg List.length h;simp at this;lia
  |cons a b=>exact⟨a,b,rfl⟩
 have hk':(q0::l).drop (0+(j+1))=q'::l':=by rw [zero_add];exact hd
 have hll:l'.length<l.length:=by have:=congrArg List.length hd;simp at this;lia
 have hst0:c9 [] (eU (pW W) aF c1 c2 c3 c4 aP aE uE [] 1 0 tk none none pts epP ⟨[]⟩ 0) s.heap.objs.size s:=fun y hy=>nomatch hy
 have hes0:aw (⟨[]⟩:Array Value) [] []:=fun i=>by simp
 refine Aw W p4 vC aF c1 c2 c3 c4 aP aE uE pts epP fz (q0::l) hps hle hnd hok l'.length l' q' fr1 cnt1 (0+(j+1)) tk1 w31 w41 (HD a) epE1 ([]++[(A a,a9 [.int e.1 tx,.int e.2 ty] et)]) ([]++[e]) s.heap.objs.size p' s1 (Nat.le_refl _) (by lia) hk' hfr1 (by rw [Array.size_push];show 0+1+_<=50;lia) hP1 (hfz.keep K1 rfl) hes0.push ((hst0.keep K1 rfl).add hP rfl ho hs1 (Nat.le_refl _)) K1.size _ fun s2 fr2 cnt2 k2 tk2 w32 w42 eds2 epE2 fzE2 es2 r h1 h2 h3 h4 h6 h7 h8 h9=>?_
 obtain⟨uW,vW,uB,vB,v3,v4,rfl,rfl,rfl,rfl⟩:=h4
 refine zQ ?_
 refine⟨⟨uW,uB,tk2,k2,vW,vB,v3,v4,eds2,epE2,fzE2,e::es2⟩,s2,H _ _ r,h1,K1.trans (h3.cast rfl),?_,trivial,(fun y hy=>nomatch hy),nodup_nil,⟨by simpa using h6,.cons hl hb hd h8,h9⟩,fun y hy=>⟨(h7 y hy).1,(h7 y hy).2.2,by simp [r7]⟩⟩
 exact⟨h2.1,h2.2.1,h2.2.2.1,h2.2.2.2.1,h2.2.2.2.2.1,h2.2.2.2.2.2.1,h2.2.2.2.2.2.2.1,trivial⟩
end
noncomputable def cC(r:Addr):List Value:=(jG r)
noncomputable def cE(r:Addr):List Value:=(jR r)
def K7(P:Params)(fr:List DictEntry):Prop:=∃u4 u5 u6 u7 u8 v4 v5 v6 v7 v8,fr=[aa P mj u4 v4,aa P iZ u5 v5,aa P iT u6 v6,aa P EG u7 v7,aa P Et u8 v8]
noncomputable def iW(P:Params)(aF c1 aI aV aO B:Nat)(u1 u2 u3 tB:Tok)(vs:Array Value)(epV:Nat)(fr:List DictEntry)(bP:Nat)(vc:Option Value)(k m:Nat)(t140 t147:List Value)(pts:Array Value)(epO:Nat):ae:=
 [(140,bB t140),(147,bB t147),(A aF,ah "frame" ([aa P gE u1 (Yp aV),aa P eH u2 (co B tB),aa P Yq u3 (Yp aO)]++fr) bP),(i5 c1 vc),(Eb aI k m),(Yk aV vs epV),(Yk aO pts epO)]
def aj(vs:Array Value)(l:List Int):Prop:=vs.size=l.length/\∀(i:Nat) (v:Int),l[i]? =some v->∃t,vs[i]? =some (bY v t)
noncomputable def aZ(B:Nat):Nat->List Int->List (Int×Int)
 |_,[]=>[]
 |k,v::l=>if v=0 then aZ B (k+1) l else(Int.ofNat k,iu B v)::aZ B (k+1) l
theorem bI(m:Nat):(Int.ofNat (Nat.succ m)-1)=Int.ofNat m:=by show((m+1:Nat):Int)-1=((m:Nat):Int);lia
theorem fm{vs:Array Value}{k:Nat}{v:Value}(h:vs[k]? =some v):(seqIndex? (Int.ofNat k) vs.size).bind (fun j=>vs[j]?)=some v:=by
 have hlt:=(Array.getElem?_eq_some_iff.mp h).1
 rw [fJ (n:=vs.size) hlt]
 exact h
def Rj(P:Params)(fr:List DictEntry)(bP k:Nat):Prop:=(fr=[]/\bP=3/\k % 2=0)\/(K7 P fr/\bP=8)
theorem sS(W:WW)(vD:FD)(aF c1 aI aV aO B:Nat)(u1 u2 u3 tB:Tok)(vs:Array Value)(epV:Nat)(fr:List DictEntry)(bP k m:Nat)(vc:Option Value)(t140 t147:List Value)(pts:Array Value)(epO:Nat)(v:Int)(tv:Tok)(p0:Pos)(s:Shared)(hfr:Rj (pW W) fr bP k)(hk:k<=100)(hgv:(Ag k vs).bind (fun j=>vs[j]?)=some (bY v tv))(hv0:v≠0)(hB:B=2\/B=3)(hL:v.natAbs<2^20)(htab:t140=[]/\t147=[]\/∃r1 r2,t140=(jG r1)/\t147=(jR r2))(hsz:pts.size<=1000)(hP:az (pW W) (iW (pW W) aF c1 aI aV aO B u1 u2 u3 tB vs epV fr bP vc k (m+1) t140 t147 pts epO) s){Q:Prop}(kQ:∀s1 fr' wc r1 r2 nt ep ta tz,br (Yt W) ⟨fj (pW W) aF c1 aI,none,none,(ya vD),none⟩ p0 s s1->K7 (pW W) fr'->az (pW W) (iW (pW W) aF c1 aI aV aO B u1 u2 u3 tB vs epV fr' 8 wc (k+1) m (cC r1) (cE r2) (pts.push (Yp nt)) ep) s1->af (iW (pW W) aF c1 aI aV aO B u1 u2 u3 tB vs epV fr bP vc k (m+1) t140 t147 pts epO) s s1->s1.heap.get? (A nt)=some (a9 [.int (Yh k) ta,.int (iu B v) tz] 0)->s.heap.objs.size<=A nt->Q):Q:=by
 have hv:(v !=0)=true:=by simpa using hv0
 have hfk:bN (Yh k):=bV (by lia)
 have hD:=DV hB hL (by lia)
 rcases hfr with⟨rfl,rfl,hpar⟩|⟨⟨u4,u5,u6,u7,u8,v4,v5,v6,v7,v8,rfl⟩,rfl⟩
 ·apply Cu (W:=W) (hfk:=hfk) (hvs:=hgv) (hv:=hv) (hpar:=hpar) (hB:=hB) (hL:=hL) (hD:=hD) (htab:=htab) (hsz:=hsz) (hE:=rfl) (hP:=hP) (p0:=p0) (m:=m) (u4:=0) (u5:=0) (u6:=0) (u7:=0) (u8:=0) (vPl:=.none) (vFi:=.none) (vLe:=.none) (vTx:=.none) (vTo:=.none) (kQ:=?k50) ..
  case' k50=>intro n tb s1 r1 r2 y4 y5 y6 y7 y8 yp w5 w6 w7 w8 wc nt ep ta tz _ _ H h4 hF K hnew
  rw [bI] at hF
  exact kQ s1 _ wc r1 r2 nt ep ta tz H ⟨y4,y5,y6,y7,y8,_,w5,w6,w7,w8,rfl⟩ ⟨h4,⟨hF.1,hF.2.1,hF.2.2.1,hF.2.2.2.1,hF.2.2.2.2.1,hF.2.2.2.2.2.1,hF.2.2.2.2.2.2.1,trivial⟩,hP.nd,hP.lo⟩ K hF.2.2.2.2.2.2.2.1 hnew
 ·rcases Nat.mod_two_eq_zero_or_one k with hpar|hpar
  ·apply xE (hz:=(.inl ⟨rfl,rfl,rfl⟩)) (W:=W) (hfk:=hfk) (hvs:=hgv) (hv:=hv) (hpar:=hpar) (hB:=hB) (hL:=hL) (hD:=hD) (htab:=htab) (hsz:=hsz) (hE:=rfl) (hP:=hP) (p0:=p0) (m:=m) (kQ:=?k51) ..
   case' k51=>intro n tb s1 r1 r2 y4 y5 y6 y7 y8 yp w5 w6 w7 w8 wc nt ep ta tz _ _ H h4 hF K hnew
   rw [bI] at hF
   exact kQ s1 _ wc r1 r2 nt ep ta tz H ⟨y4,y5,y6,y7,y8,_,w5,w6,w7,w8,rfl⟩ ⟨h4,⟨hF.1,hF.2.1,hF.2.2.1,hF.2.2.2.1,hF.2.2.2.2.1,hF.2.2.2.2.2.1,hF.2.2.2.2.2.2.1,trivial⟩,hP.nd,hP.lo⟩ K hF.2.2.2.2.2.2.2.1 hnew
  ·apply xE (hz:=(.inr ⟨rfl,rfl,rfl⟩)) (W:=W) (hfk:=hfk) (hvs:=hgv) (hv:=hv) (hpar:=hpar) (hB:=hB) (hL:=hL) (hD:=hD) (htab:=htab) (hsz:=hsz) (hE:=rfl) (hP:=hP) (p0:=p0) (m:=m) (kQ:=?k52) ..
   case' k52=>intro n tb s1 r1 r2 y4 y5 y6 y7 y8 yp w5 w6 w7 w8 wc nt ep ta tz _ _ H h4 hF K hnew
   rw [bI] at hF
   exact kQ s1 _ wc r1 r2 nt ep ta tz H ⟨y4,y5,y6,y7,y8,_,w5,w6,w7,w8,rfl⟩ ⟨h4,⟨hF.1,hF.2.1,hF.2.2.1,hF.2.2.2.1,hF.2.2.2.2.1,hF.2.2.2.2.2.1,hF.2.2.2.2.2.2.1,trivial⟩,hP.nd,hP.lo⟩ K hF.2.2.2.2.2.2.2.1 hnew
theorem GB{pts:Array Value}{fz:List (Nat×Obj)}{ps:List (Int×Int)}{E:ae}{n0 nt:Nat}{s:Shared}(h:aw pts fz ps)(hs:c9 fz E n0 s)(hn:s.heap.objs.size<=A nt):Value.ref (A nt)∉pts.toList:=by
 intro hm
 refine gQ fun Q zQ=>?_
 obtain⟨i,hi⟩:=List.mem_iff_getElem?.mp hm
 have hi:pts[i]? =some (.ref (A nt)):=by simpa using hi
 have hlt:=(Array.getElem?_eq_some_iff.mp hi).1
 rw [h.size] at hlt
 have z:=h i
 rw [List.getElem?_eq_getElem hlt] at z
 obtain⟨a,tx,ty,et,e,hmem⟩:=z
 refine zQ ?_
 rw [hi] at e
 have:A nt=A a:=by injection e with e;injection e
 have q:=Heap.lt_size (hs _ hmem).1
 have q:A a<s.heap.objs.size:=q
 rw [<-this] at q
 exact Nat.not_lt.mpr hn q
theorem lD{pts:Array Value}{v:Value}(h:pts.toList.Nodup)(hn:v∉pts.toList):(pts.push v).toList.Nodup:=by
 rw [Array.toList_push]
 refine List.nodup_append.mpr ⟨h,by simp,fun a ha b hb e=>?_⟩
 rw [List.mem_singleton.mp hb] at e
 exact hn (e▸ha)
section
variable(W:WW)(vD:FD)(aF c1 aI aV aO B:Nat)(u1 u2 u3 tB:Tok)(vs:Array Value)(epV:Nat)(vals:List Int)(hvs:aj vs vals)(hB:B=2\/B=3)(hL:∀v∈vals,v.natAbs<2^20)(hlen:vals.length<=20)
include W vD aF c1 aI aV aO B u1 u2 u3 tB vs epV vals hvs hB hL hlen
theorem BK:∀(rest:List Int) (k:Nat) (fr:List DictEntry) (vc:Option Value) (r1 r2:Addr) (pts:Array Value) (epO:Nat) (fzP:List df) (ps:List cw) (n0:Nat) (p0:Pos) (s:Shared),vals.drop k=rest->K7 (pW W) fr->pts.size+rest.length<=100->az (pW W) (iW (pW W) aF c1 aI aV aO B u1 u2 u3 tB vs epV fr 8 vc k rest.length (cC r1) (cE r2) pts epO) s->aw pts fzP ps->pts.toList.Nodup->c9 fzP (iW (pW W) aF c1 aI aV aO B u1 u2 u3 tB vs epV fr 8 vc k rest.length (cC r1) (cE r2) pts epO) n0 s->n0<=s.heap.objs.size->
  ∀Q:Prop,(∀s' fr' vc' k' r1' r2' pts' epO' fzP',Runs (Yt W) ⟨fj (pW W) aF c1 aI,none,none,(ya vD),none⟩ p0 ((Yt W).den (fj (pW W) aF c1 aI)) [] s ft s'->cL (pW W) s'->cG (iW (pW W) aF c1 aI aV aO B u1 u2 u3 tB vs epV fr' 8 vc' k' 0 (cC r1') (cE r2') pts' epO') s'.heap->af (iW (pW W) aF c1 aI aV aO B u1 u2 u3 tB vs epV fr 8 vc k rest.length (cC r1) (cE r2) pts epO) s s'->K7 (pW W) fr'->aw pts' fzP' (ps++aZ B k rest)->pts'.toList.Nodup->c9 fzP' (iW (pW W) aF c1 aI aV aO B u1 u2 u3 tB vs epV fr' 8 vc' k' 0 (cC r1') (cE r2') pts' epO') n0 s'->Q)->Q:=by
 intro rest0
 induction rest0 with
 |nil=>
  intro k fr vc r1 r2 pts epO fzP ps n0 p0 s hd hfr hsz hP hps hnd hst hn0 Q kQ
  have hP3:az (pW W) [(A aF,ah "frame" ([aa (pW W) gE u1 (Yp aV),aa (pW W) eH u2 (co B tB),aa (pW W) Yq u3 (Yp aO)]++fr) 8),(i5 c1 vc),(kA aI k)] s:=hP.mid (E1:=[(140,_),(147,_)]) (E3:=[(A aV,_),(A aO,_)])
  apply Gx (W:=W) (hE:=rfl) (hP:=hP3) (p0:=p0) (kQ:=?k53) ..
  case' k53=>intro n tb s' _ _ r h1 h2 h3
  obtain⟨hr,hk⟩:=hP.mid_back (E1:=[(140,_),(147,_)]) (E3:=[(A aV,_),(A aO,_)]) h2 h3
  exact kQ s' fr vc k r1 r2 pts epO fzP r h1 hr hk hfr (by simpa [aZ] using hps) hnd (hst.keep hk rfl)
 |cons v rest ih=>
  intro k fr vc r1 r2 pts epO fzP ps n0 p0 s hd hfr hsz hP hps hnd hst hn0 Q kQ
  obtain⟨hk,hd'⟩:=bw hd
  obtain⟨tv,hit⟩:=hvs.2 k v hk
  have hkl:=(List.getElem?_eq_some_iff.mp hk).1
  have hgv:=fm hit
  have hfk:bN (Yh k):=bV (by lia)
  have hP:az (pW W) (iW (pW W) aF c1 aI aV aO B u1 u2 u3 tB vs epV fr 8 vc k (rest.length+1) (cC r1) (cE r2) pts epO) s:=hP
  by_cases hv:v=0
  ·have hvb:(v !=0)=false:=by simpa using hv
   obtain⟨u4,u5,u6,u7,u8,v4,v5,v6,v7,v8,rfl⟩:=hfr
   apply Fh (W:=W) (hfk:=hfk) (hvs:=hgv) (hv:=hvb) (hE:=rfl) (hP:=hP) (p0:=p0) (m:=rest.length) (kQ:=?k55) ..
   case' k55=>intro n tb s1 y4 yp _ _ zp54 hP1 K
   obtain⟨p',H⟩:=zp54
   rw [bI] at hP1
   refine ih (k+1) _ vc r1 r2 pts epO fzP ps n0 p' s1 hd' ⟨y4,u5,u6,u7,u8,_,v5,v6,v7,v8,rfl⟩ (by simp at hsz;lia) hP1 hps hnd (hst.keep K rfl) (Nat.le_trans hn0 K.size) _ fun s2 fr2 vc2 k2 r12 r22 pts2 ep2 fz2 r h1 h2 h3 h4 h5 h6 h7=>?_
   exact kQ s2 fr2 vc2 k2 r12 r22 pts2 ep2 fz2 (H _ _ r) h1 h2 (K.trans (h3.cast rfl)) h4 (by rw [aZ,if_pos hv];exact h5) h6 h7
  ·refine sS W vD aF c1 aI aV aO B u1 u2 u3 tB vs epV fr 8 k rest.length vc (cC r1) (cE r2) pts epO v tv p0 s (.inr ⟨hfr,rfl⟩) (by lia) hgv hv hB (hL v (mem_of_getElem? hk)) (.inr ⟨r1,r2,rfl,rfl⟩) (by simp at hsz;lia) hP fun s1 fr1 wc r11 r21 nt ep1 ta tz zq21 hfr1 hP1 K ho hnew=>?_
   obtain⟨p',H⟩:=zq21
   refine ih (k+1) fr1 wc r11 r21 (pts.push (Yp nt)) ep1 (fzP++[(A nt,a9 [.int (Yh k) ta,.int (iu B v) tz] 0)]) (ps++[(Int.ofNat k,iu B v)]) n0 p' s1 hd' hfr1 (by rw [Array.size_push];simp at hsz;lia) hP1 (aw.push (e:=(Int.ofNat k,iu B v)) hps) (lD hnd (GB hps hst hnew)) ((hst.keep K rfl).add hP rfl ho hnew hn0) (Nat.le_trans hn0 K.size) _ fun s2 fr2 vc2 k2 r12 r22 pts2 ep2 fz2 r h1 h2 h3 h4 h5 h6 h7=>?_
   exact kQ s2 fr2 vc2 k2 r12 r22 pts2 ep2 fz2 (H _ _ r) h1 h2 (K.trans (h3.cast rfl)) h4 (by rw [aZ,if_neg hv];simpa using h5) h6 h7
structure rs where
 fr:List DictEntry
 vc:Option Value
 k:Nat
 r1:Addr
 r2:Addr
 pts:Array Value
 ep:Nat
 fz:List (Nat×Obj)
noncomputable def rT(P:Params)(aF c1 aI aV aO B:Nat)(u1 u2 u3 tB:Tok)(vs:Array Value)(epV:Nat)(x:rs):Result×List Obj×ae:=(mV,(iW P aF c1 aI aV aO B u1 u2 u3 tB vs epV x.fr 8 x.vc x.k 0 (cC x.r1) (cE x.r2) x.pts x.ep).map (·.2),[])
theorem ub(h0:∃v,vals[0]? =some v/\v≠0)(vc:Option Value)(t140 t147:List Value)(htab:t140=[]/\t147=[]\/∃r1 r2,t140=(jG r1)/\t147=(jR r2)):
  cv (Vw W) ⟨fj (pW W) aF c1 aI,none,none,(ya vD),none⟩ (iW (pW W) aF c1 aI aV aO B u1 u2 u3 tB vs epV [] 3 vc 0 vals.length t140 t147 ⟨[]⟩ 0) [] (rT (pW W) aF c1 aI aV aO B u1 u2 u3 tB vs epV) (fun x=>x.fz) (fun x=>aw x.pts x.fz (aZ B 0 vals)/\x.pts.toList.Nodup):=by
 intro p0 s hP _
 obtain⟨v,hv,hv0⟩:=h0
 obtain⟨rest,rfl⟩:∃rest,vals=v::rest:=by cases vals with|nil=>simp at hv|cons a r=>simp at hv;exact⟨r,by rw [hv]⟩
 obtain⟨tv,hit⟩:=hvs.2 0 v rfl
 have hP:az (pW W) (iW (pW W) aF c1 aI aV aO B u1 u2 u3 tB vs epV [] 3 vc 0 (rest.length+1) t140 t147 ⟨[]⟩ 0) s:=hP
 refine sS W vD aF c1 aI aV aO B u1 u2 u3 tB vs epV [] 3 0 rest.length vc t140 t147 ⟨[]⟩ 0 v tv p0 s (.inl ⟨rfl,rfl,rfl⟩) (by lia) (fm hit) hv0 hB (hL v (mem_cons_self ..)) htab (zero_le _) hP fun s1 fr1 wc r11 r21 nt ep1 ta tz zq22 hfr1 hP1 K ho hnew=>?_
 obtain⟨p',H⟩:=zq22
 have hst0:c9 [] (iW (pW W) aF c1 aI aV aO B u1 u2 u3 tB vs epV [] 3 vc 0 (rest.length+1) t140 t147 ⟨[]⟩ 0) s.heap.objs.size s:=fun y hy=>nomatch hy
 have hes0:aw (⟨[]⟩:Array Value) [] []:=fun i=>by simp
 refine BK W vD aF c1 aI aV aO B u1 u2 u3 tB vs epV (v::rest) hvs hB hL hlen rest 1 fr1 wc r11 r21 (HD nt) ep1 ([]++[(A nt,a9 [.int Yx ta,.int (iu B v) tz] 0)]) ([]++[(Int.ofNat 0,iu B v)]) s.heap.objs.size p' s1 rfl hfr1 (by rw [Array.size_push];simp at hlen⊢;lia) hP1 (aw.push (e:=(Int.ofNat 0,iu B v)) hes0) (lD (by simp) (by simp)) ((hst0.keep K rfl).add hP rfl ho hnew (Nat.le_refl _)) K.size _ fun s2 fr2 vc2 k2 r12 r22 pts2 ep2 fz2 r h1 h2 h3 h4 h5 h6 h7=>?_
 exact⟨⟨fr2,vc2,k2,r12,r22,pts2,ep2,fz2⟩,s2,H _ _ r,h1,K.trans (h3.cast rfl),⟨h2.1,h2.2.1,h2.2.2.1,h2.2.2.2.1,h2.2.2.2.2.1,h2.2.2.2.2.2.1,h2.2.2.2.2.2.2.1,trivial⟩,trivial,(fun y hy=>nomatch hy),nodup_nil,⟨by rw [aZ,if_neg hv0];simpa using h5,h6⟩,fun y hy=>⟨(h7 y hy).1,(h7 y hy).2.2,by simp [rT]⟩⟩
end
abbrev Jc(a:rs)(b:Nat)(c:Array Value)(d e:Nat):=[(140,bB (cC a.r1)),(147,bB (cE a.r2)),(Yk b c d),(Nat.add (A e) 2,ab a.pts a.ep)]
abbrev HF a b c:=(.call (.ref 219) ⟨[fy a,.int (Yh b) c],[]⟩:Code)
noncomputable abbrev Hs a b c d e f g h i j:=([(.forLoop a b c d e,f),(.func g h,i),(Y7,j)]:List (Code×Pos))
theorem no(W:WW){d7:Nat}{d8:Nat}(hz:d7=3/\d8=2\/d7=4/\d8=3\/d7=6/\d8=5)(p0:Pos)(p4 p5 p6:Pos)(te2:Expr)(i2:Value)(bo2 e2:List Stmt)(n3 n4:Env)(f2:List Stmt)(aV B:Nat)(tB:Tok)(t140 t147:List Value)(vs:Array Value)(epV:Nat)(vals:List Int)(s:Shared)(hvs:aj vs vals)(hlen:vals.length=d7)(hB:B=2\/B=3)(hL:∀v∈vals,v.natAbs<2^20)(h0:∃v,vals[0]? =some v/\v≠0)(htab:t140=[]/\t147=[]\/∃r1 r2,t140=(jG r1)/\t147=(jR r2))(E:WW->ae)(hE:E=fun W=>(Ec t140 t147 aV vs epV))(hP:az (pW W) (E W) s):
  ∃(n tb:Nat) (s':Shared) (x0:rs),s.heap.objs.size=A n/\s.toks=TK tb/\(aw x0.pts x0.fz (aZ B 0 vals)/\x0.pts.toList.Nodup)/\Runs (Yt W) (⟨HF aV B tB,none,none,(Hs te2 i2 bo2 e2 n3 p4 f2 n4 p5 p6),none⟩) p0 ((Yt W).den (.call (.ref 219) ⟨[fy aV,.int (Yh B) tB],[]⟩)) [] s (.ret (.ok (.ret (dV n 2)))) s'/\cL (pW W) s'/\cG ((Jc x0 aV vs epV n)) s'.heap/\af (E W) s s'/\(∀x∈(([]++x0.fz):ae),s'.heap.get? x.1=some x.2/\x.1∉((Jc x0 aV vs epV n):ae).map (·.1)/\s.heap.objs.size<=x.1):=by
 obtain⟨n,tb,gb,hn,ht,hg⟩:=hP.nt
 refine I9 (fz:=[]) hE hP hn ht hg (fun E W Z hs=>ch (ec (Vw W) 3 [(gR 2 d8)] [] [Ce (Vw W) (⟨fj (pW W) (cQ n) (dD n) (bJ n 4),none,none,(.func (be (gK (pW W))) (bj (pW W) (cQ n) (dD n)),⟨117,17,117,33⟩)::(Hs te2 i2 bo2 e2 n3 p4 f2 n4 p5 p6),none⟩) (iW (pW W) (cQ n) (dD n) (bJ n 4) aV (bJ n 2) B (TK tb) (Y8 tb 1) (Y8 tb 2) tB vs epV [] 3 none 0 d7 t140 t147 ⟨[]⟩ 0) [0,1,3,4,7,2,5] 3 3 (rT (pW W) (cQ n) (dD n) (bJ n 4) aV (bJ n 2) B (TK tb) (Y8 tb 1) (Y8 tb 2) tB vs epV) (fun x:rs=>x.fz) (fun x:rs=>aw x.pts x.fz (aZ B 0 vals)/\x.pts.toList.Nodup)] []) 119 (⟨HF aV B tB,none,none,(Hs te2 i2 bo2 e2 n3 p4 f2 n4 p5 p6),none⟩) (p0) (a8 (.call (.ref 219) ⟨[fy aV,.int (Yh B) tB],[]⟩)) [] hs (cN E n tb gb) (sN [0,1,2,5] Z)) (fun E W Z hs=>ad (lE E) (A n) gb (sl hs 0 14) (((Rf (.builtin "len" ⟨[(Yp aV)],[]⟩:Code))/\(Hy/\((((vs.size):(Nat))=d7)/\Yc)))/\ad (lE E) (A n) gb (sl hs 15 11) ((Rf (⟨fj (pW W) (cQ n) (dD n) (bJ n 4),none,none,(.func (be (gK (pW W))) (bj (pW W) (cQ n) (dD n)),⟨117,17,117,33⟩)::(Hs te2 i2 bo2 e2 n3 p4 f2 n4 p5 p6),none⟩:Ctx))/\(Rf (ax ((iW (pW W) (cQ n) (dD n) (bJ n 4) aV (bJ n 2) B (TK tb) (Y8 tb 1) (Y8 tb 2) tB vs epV [] 3 none 0 d7 t140 t147 ⟨[]⟩ 0))))/\Yc/\Yc/\∀(x0:rs) (n0 tb0 gb0:Nat),(aw x0.pts x0.fz (aZ B 0 vals)/\x0.pts.toList.Nodup)/\eR [] x0.fz->Yc/\ad [140,147,(A aV),(Y2 n 0),(Y2 n 1),(Y2 n 2),(Y2 n 3),(Y2 n 4)] (A n0) gb0 (sl hs 27 1) (Z (.fin (.ret (.ok (.ret (dV n 2))))) (Y2 n0 0) (Y8 tb0 0) true (ax ((Jc x0 aV vs epV n))) (([]++x0.fz)))))) (fun _=>(gC [0,0,40004,0,4,4,40000,4,4000,100007,8,1000,4])) (by rcases hz with h|h|h<;>apply G0 h<;>exact iX (by kernel_rfl)) rfl ⟨fun _=>hV,trivial⟩ ⟨oo (fz:=[]) rfl (by have h:=ub W ⟨⟨117,17,117,33⟩,p4,p5,p6,te2,i2,bo2,e2,(bj (pW W) (cQ n) (dD n)),n3,n4,(be (gK (pW W))),f2⟩ (cQ n) (dD n) (bJ n 4) aV (bJ n 2) B (TK tb) (Y8 tb 1) (Y8 tb 2) tB vs epV vals hvs hB hL (by lia) h0 none t140 t147 htab;rw [hlen] at h;exact h) (fun x h=>nomatch h),trivial⟩ rfl (fun x hx=>nomatch hx) fun hs=>?_
 refine rI ⟨rfl,rfl,(by rw [hvs.1,hlen]:vs.size=d7),rfl⟩ ?_
 refine ag ⟨rfl,rfl,rfl,rfl,fun x0 n0 tb0 gb0 hx0=>⟨rfl,?_⟩⟩ _
 exact rF fun s' r _ h3 h4 h5 h6=>⟨n,tb,s',x0,hn,ht,hx0.1,(by rw [bG];exact r),h4,ai h3,h5,h6⟩
abbrev Kf a:=[db a 1,db a 2,db a 3,db a 4]
theorem IG(W:WW)(p0:Pos)(vC:FC)(aP:Nat)(pts:Array Value)(epP:Nat)(q0:Int×Int)(ql:List cw)(fz:List df)(s:Shared)(hps:aw pts fz (q0::ql))(hl:ql≠[])(hl5:ql.length<=5)(hnd:pts.toList.Nodup)(hok:eP (q0::ql))(E:WW->ae)(hE:E=fun W=>[(Yk aP pts epP)])(hP:az (pW W) (E W) s)(hfz:cF fz (E W) s){Q:Prop}(kQ:∀(n tb:Nat) (s':Shared) (x0:yg),Hn s n->Ht s tb->(aw x0.eds x0.fz x0.es/\eF q0 ql x0.es/\x0.eds.size<=50)->Runs (Yt W) (⟨HJ aP 231,none,none,(Eo vC),none⟩) p0 ((Yt W).den (.call (.ref 231) (oV aP))) [] s (.ret (.ok (.ret (dV n 5)))) s'->cL (pW W) s'->cG ([(Yk aP pts epP),(Nat.add (A n) 5,ab x0.eds x0.epE)]) s'.heap->af (E W) s s'->(∀x∈([]++x0.fz),s'.heap.get? x.1=some x.2/\x.1∉([(Yk aP pts epP),(Nat.add (A n) 5,ab x0.eds x0.epE)]:ae).map (·.1)/\s.heap.objs.size<=x.1)->Q):Q:=by
 obtain⟨n,tb,gb,hn,ht,hg⟩:=hP.nt
 refine I9 hE hP hn ht hg (fun E W Z hs=>ch (fk (Vw W) 1 [] [] [Ce (Vw W) (⟨fh (pW W) (bg (ak (pW W)) (A (cQ n)) 231 (Kf n)),none,none,(gU (ak (pW W)) (A (cQ n)) 231 (Kf n),⟨136,4,142,21⟩)::(Eo vC),none⟩) (eU (pW W) (cQ n) (dD n) (bJ n 2) (bJ n 3) (bJ n 4) aP (bJ n 5) (TK tb) [] 1 0 (Y8 tb 1) none none pts epP ⟨[]⟩ 0) [1,2,3,4,5,0,6] 1 1 (r7 (pW W) (cQ n) (dD n) (bJ n 2) (bJ n 3) (bJ n 4) aP (bJ n 5) (TK tb) pts epP) (fun x:yg=>x.fz) (fun x:yg=>aw x.eds x.fz x.es/\eF q0 ql x.es/\x.eds.size<=50)] [] fz) 76 (⟨HJ aP 231,none,none,(Eo vC),none⟩) (p0) (Hp aP 231) [] hs (cN E n tb gb) (sN [0,6] Z)) (fun E W Z hs=>ad (lE E) (A n) gb (sl hs 0 9) ((Rf (⟨fh (pW W) (bg (ak (pW W)) (A (cQ n)) 231 (Kf n)),none,none,(gU (ak (pW W)) (A (cQ n)) 231 (Kf n),⟨136,4,142,21⟩)::(Eo vC),none⟩:Ctx))/\(Rf (ax ((eU (pW W) (cQ n) (dD n) (bJ n 2) (bJ n 3) (bJ n 4) aP (bJ n 5) (TK tb) [] 1 0 (Y8 tb 1) none none pts epP ⟨[]⟩ 0))))/\Yc/\Yc/\∀(x0:yg) (n0 tb0 gb0:Nat),(aw x0.eds x0.fz x0.es/\eF q0 ql x0.es/\x0.eds.size<=50)/\eR [] x0.fz->Yc/\ad [(A aP),(Y2 n 0),(Y2 n 1),(Y2 n 2),(Y2 n 3),(Y2 n 4),(Y2 n 5)] (A n0) gb0 (sl hs 10 1) (Z (.fin (.ret (.ok (.ret (dV n 5))))) (Y2 n0 0) (Y8 tb0 0) true (ax ([(Yk aP pts epP),(Nat.add (A n) 5,ab x0.eds x0.epE)])) (([]++x0.fz))))) (fun W=>[0,0,3,3,0,2,2,4,4,1000,2]) (pc (by kernel_rfl)) rfl trivial ⟨oo rfl (ug W ⟨136,4,142,21⟩ vC (cQ n) (dD n) (bJ n 2) (bJ n 3) (bJ n 4) aP (bJ n 5) (TK tb) pts epP fz q0 ql hps hl hl5 hnd hok (Y8 tb 1)) (fun x h=>h),trivial⟩ rfl hfz fun hs=>?_
 refine ag ⟨rfl,rfl,rfl,rfl,fun x0 n0 tb0 gb0 hx0=>⟨rfl,?_⟩⟩ _
 exact rF fun s' r _ h3 h4 h5 h6=>kQ n tb s' x0 hn ht hx0.1 (by rw [bG];exact r) h4 (ai h3) h5 h6
noncomputable def kg(P:Params)(i:Nat):Stmt:=fH (be (dG P)) i
noncomputable def bo(P:Params)(aF c1 c2:Nat):Env:=bg (dG P) (A aF) 243 [A c1,A c2]
noncomputable def fN(P:Params):Expr:=mH (kg P 1)
noncomputable def fb(P:Params)(aF c1 c2 it:Nat):Code:=gm (kg P 4) (A it) (bo P aF c1 c2)
noncomputable def wu(P:Params):Expr:=mH (kg P 6)
noncomputable def kj(P:Params)(aF c1 c2 it:Nat):Code:=gm (kg P 8) (A it) (bo P aF c1 c2)
noncomputable def F5:Stmt->Expr
 |.For _ i _ _ _=>i
 |_=>.Constant .none 0 default
noncomputable def ez(P:Params):Expr:=nf (F5 (kg P 10))
noncomputable def fx(P:Params)(aF c1 c2 it:Nat):Code:=gm (kg P 10) (A it) (bo P aF c1 c2)
noncomputable def E4:Expr->Expr
 |.Compare l _ _ _=>l
 |e=>e
noncomputable def Iw:Stmt->Expr
 |.Return (some e) _=>e
 |_=>.Constant .none 0 default
noncomputable def f6(P:Params):Expr:=E4 (Iw (kg P 11))
noncomputable def om(i:Nat):bD:=fun Γ c st=>match st.T.get i with
 |some ⟨cl,_,.seq items _,_⟩=>(c=.builtin "len" ⟨[.ref (bm st.L st.n i)],[]⟩/\cl=.type "list"/\items.size<=1000,.fresh fun _=>.fresh fun t=>ret (.int (Int.ofNat items.size) t))
 |_=>(False,unsupported "")
theorem qW{V:XV}{pr:Program}{w:World}{i:Nat}:bE V (model pr w) (om i):=by
 intro h0 d os Γ c st s p r s' hc hΓ R H
 unfold om at hc H
 split at hc
 ·rename_i cl dd items n sl e1
  obtain⟨rfl,rfl,hb⟩:=hc
  simp only [e1] at H
  obtain⟨rfl,rfl⟩:=cK H
  have ha:=i9 R e1
  refine dw PySem.entry_len (by rw [hΓ];rfl) ?_
  refine wpAny_mono (wpAny_len_body_list (items:=items) (Q:=fun r' s''=>r'=.int (Int.ofNat items.size) (s.toks+1)/\s''={s with toks:=s.toks+1+1}) ⟨_,ha,rfl,_,rfl⟩ (by lia) ⟨rfl,rfl⟩) (fun fin s'' h=>?_) (fun _ _ h=>h)
  obtain⟨r',rfl,rfl,rfl⟩:=h
  exact⟨rfl,rfl⟩
 ·exact hc.elim
noncomputable def cutL(items:Array Value)(lo hi:Option Int):List Value:=(slicePick items lo hi none).toList
noncomputable def fL(i j:Nat):bD:=fun Γ c st=>wA (st.T.get i) nO fun _ _ items _ _=>OK (st.T.get j) nO fun _ vl vu _=>gP i j ⟨cutL items (bS vl) (bS vu)⟩ Γ c st
theorem eI{V:XV}{pr:Program}{w:World}{i j:Nat}:bE V (model pr w) (fL i j):=
 dQ fun hΓ R=>e8 fW fun _ _ _ _ _ _=>yE fW fun _ _ _ _ _ _ _ hc H=>jY _ _ _ _ _ _ _ _ _ _ hc hΓ R H
noncomputable def kB(i j:Nat):bD:=fun Γ c st=>match st.T.get i,st.T.get j with
 |some ⟨cl,dd,.seq items n,sl⟩,some ⟨cl',dd',.seq items2 n2,sl'⟩=>
  (c=.builtin "list.__add__" ⟨[.ref (bm st.L st.n i),.ref (bm st.L st.n j)],[]⟩/\(cl=.type "list"/\dd=none/\sl=⟨[]⟩)/\(cl'=.type "list"/\dd'=none/\sl'=⟨[]⟩)/\items.size+items2.size<=1000,.alloc ⟨.type "list",none,.seq ⟨items.toList++items2.toList⟩ 0, #[]⟩ fun a=>ret (.ref a))
 |_,_=>(False,unsupported "")
theorem lV{V:XV}{pr:Program}{w:World}{i j:Nat}:bE V (model pr w) (kB i j):=by
 intro h0 d os Γ c st s p r s' hc hΓ R H
 unfold kB at hc H
 split at hc
 ·rename_i cl dd items n sl cl' dd' items2 n2 sl' e1 e2
  obtain⟨rfl,⟨rfl,rfl,rfl⟩,⟨rfl,rfl,rfl⟩,hb⟩:=hc
  simp only [e1,e2] at H
  obtain⟨rfl,rfl⟩:=cK H
  rw [bh PySem.F.entry_list_add]
  rw [show(⟨items.toList++items2.toList⟩:Array Value)=items++items2 from Array.ext' (by simp)]
  exact bu (PySem.AutoSeq1.list___add___list_list_0 _ items n _ items2 n2 (by rw [sizeLine_eq];lia)) (by rw [hΓ];rfl) ⟨i9 R e1,i9 R e2,rfl,rfl⟩
 ·exact hc.elim
noncomputable def mb(i j:Nat):bD:=fun Γ c st=>match st.T.get i,st.T.get j with
 |some ⟨cl,dd,.seq items n,sl⟩,some ⟨cl',dd',.seq items2 n2,sl'⟩=>
  (c=.builtin "list.__eq__" ⟨[.ref (bm st.L st.n i),.ref (bm st.L st.n j)],[]⟩/\(cl=.type "list"/\dd=none/\sl=⟨[]⟩)/\(cl'=.type "list"/\dd'=none/\sl'=⟨[]⟩)/\(items.size !=items2.size)=true,ret (.bool false))
 |_,_=>(False,unsupported "")
theorem qJ{V:XV}{pr:Program}{w:World}{i j:Nat}:bE V (model pr w) (mb i j):=by
 intro h0 d os Γ c st s p r s' hc hΓ R H
 unfold mb at hc H
 split at hc
 ·rename_i cl dd items n sl cl' dd' items2 n2 sl' e1 e2
  obtain⟨rfl,⟨rfl,rfl,rfl⟩,⟨rfl,rfl,rfl⟩,hb⟩:=hc
  simp only [e1,e2] at H
  obtain⟨rfl,rfl⟩:=fP H
  rw [bh PySem.F.entry_list_eq]
  exact bu (PySem.AutoSeq1.list___eq___list_list_0 _ items n _ items2 n2 hb) (by rw [hΓ];rfl) ⟨i9 R e1,i9 R e2,rfl,rfl⟩
 ·exact hc.elim
theorem nF{v:Int}{t u:Tok}{l}:av (.builtin "int.__mod__" ⟨[.int v t,.int (Int.ofNat 1000000) u],[]⟩) l (.int (Int.ofNat (v % 1000000).toNat)):=by
 refine av.mk PySem.F.entry_int_mod ?_ trivial
 have e:v.fmod (Int.ofNat 1000000)=Int.ofNat (v % 1000000).toNat:=by
  rw [Int.fmod_eq_emod_of_nonneg _ (by decide)]
  show v % 1000000=((v % 1000000).toNat:Int)
  lia
 rw [<-e];exact PySem.AutoIntG6.int___mod___int_int_1 v t (Int.ofNat 1000000) u (by decide)
noncomputable abbrev c6(a:FE):List nV:=[(.func a.f2 a.n4,a.p5),(Y7,a.p6)]
theorem zv(W:WW)(b7:Bool)(p0:Pos)(vE:FE)(aF c1 c2 aL aI aC aG:Nat)(uF tf:Tok)(vF:Value)(v:Int)(k:Nat)(gs as:Array Value)(epG epA:Nat)(s:Shared)(hit:gs[(Yh k).toNat]? =some (bY v tf))(hsz:as.size<=1000)(E:WW->ae)(hE:E=fun W=>[(A aL,ah "dict" (cond b7 [] [aa (pW W) [120] uF vF]) (cond b7 0 1)),(Y5 aI aG k),(Yk aG gs epG),(Yk aC as epA)])(hP:az (pW W) (E W) s){Q:Prop}(kQ:∀(n tb:Nat) (s':Shared) (y:Tok) (t:Tok) (ep:Nat),Hn s n->Ht s tb->br (Yt W) (⟨ao (fN (pW W)) (bo (pW W) aF c1 c2) aL aI aC,none,none,(c6 vE),none⟩) p0 s s'->az (pW W) ([(A aL,ah "dict" [aa (pW W) [120] y (bY v tf)] 1),(uv aI aG k),(Yk aG gs epG),(A aC,ab (as.push (.int (Int.ofNat (v % 1000000).toNat) t)) ep)]) s'->af (E W) s s'->Q):Q:=by
 obtain⟨n,tb,gb,hn,ht,hg⟩:=hP.nt
 refine bT hE hP hn ht hg (fun E W Z hs=>ch (ec (Vw W) 4 [(bF 1 2 (bY v tf)),(gf [] (.int (Int.ofNat (v % 1000000).toNat))),(b9 3)] [] [] []) 69 (⟨ao (fN (pW W)) (bo (pW W) aF c1 c2) aL aI aC,none,none,(c6 vE),none⟩) (p0) (a8 (ao (fN (pW W)) (bo (pW W) aF c1 c2) aL aI aC)) [] hs (cN E n tb gb) (mB Z)) (fun E W Z hs=>ad (lE E) (A n) gb (sl hs 0 2) (((Yo aI)/\((Ap aG)/\(((xS gs k):i6)=(some (iU v tf)))))/\ad (lE E) (A n) gb (sl hs 3 5) ((av (.builtin "int.__mod__" ⟨[(iU v tf),(Dm tb 1000000 1)],[]⟩) [] (Made.int (Int.ofNat (v % 1000000).toNat))/\Yc)/\ad (lE E) (A n) gb (sl hs 9 1) (((Rf (.builtin "list.append" ⟨[(Yp aC),(.int (Int.ofNat ((v % 1000000).toNat)) (Y8 tb 2))],[]⟩:Code))/\(rJ as))/\ad (lE E) (A n) gb (sl hs 11 1) (Z (.again (ao (fN (pW W)) (bo (pW W) aF c1 c2) aL aI aC)) (Y2 n 0) (Y8 tb 3) true (ax ([(A aL,ah "dict" [aa (pW W) [120] (cond b7 (TK tb) uF) (bY v tf)] 1),(lS aI aG k),(Yk aG gs epG),(A aC,Obj.mapSeq (·.push (.int (Int.ofNat (v % 1000000).toNat) (Y8 tb 2))) (ab as epA))]))))))) (fun _=>[2,2,4000,2,2,1,1,1,4001,4,4002,4,3000]) (by apply iR b7<;>exact oU (by kernel_rfl)) rfl ⟨fun _=>bi,fun _=>au,fun _=>bx,trivial⟩ trivial rfl fun hs=>?_
 refine rI ⟨rfl,rfl,hit⟩ ?_
 refine rI ⟨nF,rfl⟩ ?_
 refine rI ⟨rfl,⟨rfl,rfl,rfl⟩,hsz⟩ ?_
 exact rF fun s' r _ h3 h4 h5=>kQ n tb s' _ _ _ hn ht (am rfl r) ⟨h4,ai h3,(nx hE hP).nd,(nx hE hP).lo⟩ h5
theorem Fc(W:WW)(p0:Pos)(vE:FE)(aF c1 c2 aL aI aC aG:Nat)(loc:List DictEntry)(k el:Nat)(gs as:Array Value)(epG epA:Nat)(s:Shared)(hit:gs[(Yh k).toNat]? =none)(E:WW->ae)(hE:E=fun W=>[(mw aL loc el),(Y5 aI aG k),(Yk aG gs epG),(Yk aC as epA)])(hP:az (pW W) (E W) s){Q:Prop}(kQ:∀(n tb:Nat) (s':Shared),Hn s n->Ht s tb->Runs (Yt W) (⟨ao (fN (pW W)) (bo (pW W) aF c1 c2) aL aI aC,none,none,(c6 vE),none⟩) p0 ((Yt W).den (ao (fN (pW W)) (bo (pW W) aF c1 c2) aL aI aC)) [] s ft s'->cL (pW W) s'->cG (D2 aL loc el aI k aG gs epG aC as epA) s'.heap->af (E W) s s'->Q):Q:=by
 obtain⟨n,tb,gb,hn,ht,hg⟩:=hP.nt
 refine bT hE hP hn ht hg (fun E W Z hs=>ch (ul W 4 1 2) 53 (⟨ao (fN (pW W)) (bo (pW W) aF c1 c2) aL aI aC,none,none,(c6 vE),none⟩) (p0) (a8 (ao (fN (pW W)) (bo (pW W) aF c1 c2) aL aI aC)) [] hs (cN E n tb gb) (mB Z)) (fun E W Z hs=>ad (lE E) (A n) gb (sl hs 0 2) ((uq aI aG gs k)/\ad (lE E) (A n) gb (sl hs 3 3) (Z (.fin ft) (Y2 n 2) (Y8 tb 0) true (ax ((Hr aL loc el aI k aG gs epG aC as epA)))))) (fun _=>[2,2,4000,2,2,6]) (oU (by kernel_rfl)) rfl ⟨fun _=>ce,trivial⟩ trivial rfl fun hs=>?_
 refine rI ⟨rfl,rfl,hit⟩ ?_
 exact rF fun s' r _ h3 h4 h5=>kQ n tb s' hn ht (by rw [bG];exact r) h4 (ai h3) h5
theorem EQ(W:WW)(p0:Pos)(vE:FE)(aF c1 c2 aL aI aC aG:Nat)(gs:Array Value)(epG:Nat)(s:Shared)(E:WW->ae)(hE:E=fun W=>(Y9 aL aI aG gs epG aC))(hP:az (pW W) (E W) s){Q:Prop}(kQ:∀(n tb:Nat) (s':Shared),Hn s n->Ht s tb->cp (Yt W) (⟨ay (ao (fN (pW W)) (bo (pW W) aF c1 c2) aL aI aC),none,none,(c6 vE),none⟩) (ao (fN (pW W)) (bo (pW W) aF c1 c2) aL aI aC) p0 s s'->az (pW W) ((Y9 aL aI aG gs epG aC)) s'->af (E W) s s'->Q):Q:=by
 obtain⟨n,tb,gb,hn,ht,hg⟩:=hP.nt
 refine bT hE hP hn ht hg (fun E W Z hs=>ch (oX W 4) 52 (⟨ay (ao (fN (pW W)) (bo (pW W) aF c1 c2) aL aI aC),none,none,(c6 vE),none⟩) (p0) (a8 (ay (ao (fN (pW W)) (bo (pW W) aF c1 c2) aL aI aC))) [] hs (cN E n tb gb) (mB Z)) (fun E W Z hs=>ad (lE E) (A n) gb (Aq hs W) (Z (.again (ao (fN (pW W)) (bo (pW W) aF c1 c2) aL aI aC)) (Y2 n 0) (Y8 tb 0) true (ax ((Y9 aL aI aG gs epG aC))))) Ad (pc (by kernel_rfl)) rfl trivial (by exact trivial) rfl fun hs=>?_
 exact rF fun s' r _ h3 h4 h5=>kQ n tb s' hn ht (cf r) ⟨h4,ai h3,(nx hE hP).nd,(nx hE hP).lo⟩ h5
noncomputable def fS(v:Int):Nat:=(v % 1000000).toNat
theorem aj.getV{vs:Array Value}{l:List Int}(h:aj vs l){k:Nat}{v:Int}(e:l[k]? =some v):∃t,vs[(Int.ofNat k).toNat]? =some (.int v t):=h.2 k v e
theorem aj.noneV{vs:Array Value}{l:List Int}(h:aj vs l){k:Nat}(e:l.drop k=[]):vs[(Int.ofNat k).toNat]? =none:=
 Array.getElem?_eq_none (by rw [h.1];exact List.drop_eq_nil_iff.mp e)
section
variable(W:WW)(vE:FE)(aF c1 c2 aL aI aC aG:Nat)(gs:Array Value)(epG:Nat)(xs:List Int)(hgs:aj gs xs)
include W vE aF c1 c2 aL aI aC aG gs epG xs hgs
theorem Ba:∀(rest:List Int) (k:Nat) (pre:List Nat) (as:Array Value) (ep:Nat) (uF:Tok) (vF:Value) (p0:Pos) (s:Shared),xs.drop k=rest->aY as pre->as.size+rest.length<=1000->az (pW W) [(A aL,ah "dict" [aa (pW W) [120] uF vF] 1),(Y5 aI aG k),(Yk aG gs epG),(Yk aC as ep)] s->
  ∀Q:Prop,(∀s' uF' vF' k' ep' as',Runs (Yt W) ⟨ao (fN (pW W)) (bo (pW W) aF c1 c2) aL aI aC,none,none,(c6 vE),none⟩ p0 ((Yt W).den (ao (fN (pW W)) (bo (pW W) aF c1 c2) aL aI aC)) [] s ft s'->cL (pW W) s'->cG [(A aL,ah "dict" [aa (pW W) [120] uF' vF'] 1),(kd aI k'),(Yk aG gs epG),(Yk aC as' ep')] s'.heap->af [(A aL,ah "dict" [aa (pW W) [120] uF vF] 1),(Y5 aI aG k),(Yk aG gs epG),(Yk aC as ep)] s s'->aY as' (pre++rest.map fS)->Q)->Q:=by
 intro rest0
 induction rest0 with
 |nil=>
  intro k pre as ep uF vF p0 s hd hls hsz hP Q kQ
  apply Fc (W:=W) (hit:=hgs.noneV hd) (hE:=rfl) (hP:=hP) (p0:=p0) (kQ:=?k56) ..
  case' k56=>intro n tb s' _ _ r h1 h2 h3
  exact kQ s' uF vF k ep as r h1 h2 h3 (by simpa using hls)
 |cons q rest ih=>
  intro k pre as ep uF vF p0 s hd hls hsz hP Q kQ
  obtain⟨hk,hd'⟩:=bw hd
  obtain⟨tf,hit⟩:=hgs.getV hk
  apply zv (b7:=false) (W:=W) (hit:=hit) (hsz:=by simp at hsz;lia) (hE:=rfl) (hP:=hP) (p0:=p0) (kQ:=?k58) ..
  case' k58=>intro n tb s1 y t ep1 _ _ zp57 hP1 K1
  obtain⟨p',H⟩:=zp57
  refine ih (k+1) (pre++[fS q]) _ ep1 y _ p' s1 hd' (aY.push hls) (by simp at hsz⊢;lia) hP1 _ fun s2 u2 v2 k2 ep2 as2 r h4 h5 h6 h7=>?_
  exact kQ s2 u2 v2 k2 ep2 as2 (H _ _ r) h4 h5 (K1.trans (h6.cast rfl)) (by simpa using h7)
structure Oj where
 u:Tok
 v:Value
 k:Nat
 ep:Nat
 ls:Array Value
noncomputable def Fd(W:WW)(vE:FE)(aF c1 c2 aL aI aC aG:Nat)(gs:Array Value)(epG:Nat)(x:Oj):Result×List Obj×ae:=(mV,([(A aL,ah "dict" [aa (pW W) [120] x.u x.v] 1),(A aI,aK "list_iterator" [.none,.int (Int.ofNat x.k) 0]),(Yk aG gs epG),(A aC,ab x.ls x.ep)]:ae).map (·.2),[])
theorem uT(hne:xs≠[])(hlen:xs.length<=900):
  cm (Vw W) ⟨ay (ao (fN (pW W)) (bo (pW W) aF c1 c2) aL aI aC),none,none,(c6 vE),none⟩ (Y9 aL aI aG gs epG aC) (Fd W vE aF c1 c2 aL aI aC aG gs epG) (fun x=>aY x.ls (xs.map fS)):=
 dT (C:=ao (fN (pW W)) (bo (pW W) aF c1 c2) aL aI aC) (fun p0 s hP=>by
  obtain⟨q,rest,rfl⟩:∃q rest,xs=q::rest:=by cases xs with|nil=>exact(hne rfl).elim|cons q r=>exact⟨q,r,rfl⟩
  obtain⟨tf,hit⟩:=hgs.getV (k:=0) rfl
  apply zv (b7:=true) (W:=W) (hit:=hit) (hsz:=zero_le _) (hE:=rfl) (hP:=hP) (p0:=p0) (uF:=0) (vF:=.none) (kQ:=?k60) ..
  case' k60=>intro n tb s1 y t ep1 _ _ zp59 hP1 K1
  obtain⟨p',H⟩:=zp59
  refine Ba W vE aF c1 c2 aL aI aC aG gs epG (q::rest) hgs rest 1 ([]++[fS q]) _ ep1 y _ p' s1 rfl (aY.push (⟨rfl,fun i l e=>by simp at e⟩)) (by simp at hlen⊢;lia) hP1 _ fun s2 u2 v2 k2 ep2 as2 r h4 h5 h6 h7=>?_
  exact⟨⟨u2,v2,k2,ep2,as2⟩,s2,H _ _ r,h4,K1.trans (h6.cast rfl),⟨h5.1,h5.2.1,h5.2.2.1,h5.2.2.2.1,trivial⟩,trivial,(fun y hy=>nomatch hy),nodup_nil,by simpa using h7⟩) fun p s hP=>by
  apply EQ (W:=W) (p0:=p) (hE:=rfl) (hP:=hP) (kQ:=?k61) ..
  case' k61=>intro n tb s' _ _ H hP' K
  exact⟨s',H,hP',K⟩
end
structure j8 where
 u:Tok
 v:Value
 k:Nat
 ep:Nat
 d0:Nat
 d1:Nat
 d2:Nat
 d3:Nat
 d4:Nat
 d5:Nat
 d6:Nat
 t0:Tok
 t1:Tok
 t2:Tok
 t3:Tok
 t4:Tok
 t5:Tok
 t6:Tok
noncomputable def tU(P:Params)(aL aI aC aG:Nat)(gs:Array Value)(epG:Nat)(x:j8):Result×List Obj×ae:=(mV,([(A aL,ah "dict" [aa P [120] x.u x.v] 1),(A aI,aK "list_iterator" [.none,.int (Int.ofNat x.k) 0]),(Yk aG gs epG),(A aC,ab ⟨[.int (Int.ofNat x.d0) x.t0,.int (Int.ofNat x.d1) x.t1,.int (Int.ofNat x.d2) x.t2,.int (Int.ofNat x.d3) x.t3,.int (Int.ofNat x.d4) x.t4,.int (Int.ofNat x.d5) x.t5,.int (Int.ofNat x.d6) x.t6]⟩ x.ep)]:ae).map (·.2),[])
def cond154(x:j8):Prop:=x.d0<1000000/\x.d1<1000000/\x.d2<1000000/\x.d3<1000000/\x.d4<1000000/\x.d5<1000000/\x.d6<1000000
theorem dX{js:List Value}{a:Nat}{l:List Nat}(h:aY ⟨js⟩ (a::l)):∃t js',js=.int (Int.ofNat a) t::js'/\aY ⟨js'⟩ l:=by
 cases js with
 |nil=>have:=h.1;simp at this
 |cons v js'=>
  obtain⟨t,e⟩:=h.2 0 a rfl
  have e:some v=some (Value.int (Int.ofNat a) t):=by simpa using e
  cases e
  refine⟨t,js',rfl,by have:=h.1;simpa using this,fun i j e=>?_⟩
  obtain⟨t',e'⟩:=h.2 (i+1) j (by simpa using e)
  exact⟨t',by simpa using e'⟩
theorem yu{js:List Value}(h:aY ⟨js⟩ []):js=[]:=eq_nil_of_length_eq_zero (by simpa using h.1)
theorem eW(v:Int):fS v<1000000:=by unfold fS;lia
theorem rz{α:Type}{l:List α}{n:Nat}(h:l.length=n+1){Q:Prop}(k:∀a t,l=a::t->t.length=n->Q):Q:=by
 cases l with
 |nil=>cases h
 |cons a t=>exact k a t rfl (Nat.succ.inj h)
theorem G3{α:Type}{l:List α}(h:l.length=7){Q:Prop}(k:∀x0 x1 x2 x3 x4 x5 x6,l=[x0,x1,x2,x3,x4,x5,x6]->Q):Q:=
 rz h fun x0 l0 e0 h0=>rz h0 fun x1 l1 e1 h1=>rz h1 fun x2 l2 e2 h2=>rz h2 fun x3 l3 e3 h3=>rz h3 fun x4 l4 e4 h4=>rz h4 fun x5 l5 e5 h5=>rz h5 fun x6 l6 e6 h6=>k x0 x1 x2 x3 x4 x5 x6 (by rw [e0,e1,e2,e3,e4,e5,e6,eq_nil_of_length_eq_zero h6])
theorem E7{js:List Value}{v0 v1 v2 v3 v4 v5 v6:Nat}(h:aY ⟨js⟩ [v0,v1,v2,v3,v4,v5,v6]){Q:Prop}(k:∀t0 t1 t2 t3 t4 t5 t6,js=[.int (Int.ofNat v0) t0,.int (Int.ofNat v1) t1,.int (Int.ofNat v2) t2,.int (Int.ofNat v3) t3,.int (Int.ofNat v4) t4,.int (Int.ofNat v5) t5,.int (Int.ofNat v6) t6]->Q):Q:=by
 obtain⟨t0,j0,e0,h0⟩:=dX h
 obtain⟨t1,j1,e1,h1⟩:=dX h0
 obtain⟨t2,j2,e2,h2⟩:=dX h1
 obtain⟨t3,j3,e3,h3⟩:=dX h2
 obtain⟨t4,j4,e4,h4⟩:=dX h3
 obtain⟨t5,j5,e5,h5⟩:=dX h4
 obtain⟨t6,j6,e6,h6⟩:=dX h5
 exact k t0 t1 t2 t3 t4 t5 t6 (by rw [e0,e1,e2,e3,e4,e5,e6,yu h6])
theorem r5(W:WW)(vE:FE)(aF c1 c2:Nat)(aL aI aC aG:Nat)(gs:Array Value)(epG:Nat)(h:∃xs,aj gs xs/\xs.length=7):
  cm (Vw W) ⟨ay (ao (fN (pW W)) (bo (pW W) aF c1 c2) aL aI aC),none,none,(c6 vE),none⟩ (Y9 aL aI aG gs epG aC) (tU (pW W) aL aI aC aG gs epG) cond154:=by
 obtain⟨xs,hx,h7⟩:=h
 refine G3 h7 fun x0 x1 x2 x3 x4 x5 x6 ex=>?_
 subst ex
 intro p s hP
 refine gQ fun Q zQ=>?_
 obtain⟨⟨u,v,k,ep,⟨js⟩⟩,s',r,rdy,K,has,hasN,newN,ndN,cx⟩:=uT W vE aF c1 c2 aL aI aC aG gs epG [x0,x1,x2,x3,x4,x5,x6] hx (by simp) (by simp) p s hP
 refine zQ ?_
 have cx:aY ⟨js⟩ [fS x0,fS x1,fS x2,fS x3,fS x4,fS x5,fS x6]:=cx
 refine E7 cx fun t0 t1 t2 t3 t4 t5 t6 ex=>?_
 subst ex
 exact⟨⟨u,v,k,ep,_,_,_,_,_,_,_,t0,t1,t2,t3,t4,t5,t6⟩,s',r,rdy,K,has,hasN,newN,ndN,eW _,eW _,eW _,eW _,eW _,eW _,eW _⟩
noncomputable def Ex(W:WW)(vE:FE)(aF c1 c2:Nat)(iL iI iC iG mm ro:Nat):bL:=nI (X:=j8) (Vw W) (fun st=>∃xs,aj (fp st iG) xs/\xs.length=7) (fun st=>⟨ay (ao (fN (pW W)) (bo (pW W) aF c1 c2) (b8 st iL) (b8 st iI) (b8 st iC)),none,none,(c6 vE),none⟩) (Lj iL iI iG iC) [iL,iI,iG,iC] mm ro (fun st=>tU (pW W) (b8 st iL) (b8 st iI) (b8 st iC) (b8 st iG) (fp st iG) (fc st iG)) (fun st=>cond154)
theorem xn(W:WW)(vE:FE)(aF c1 c2:Nat){iL iI iC iG:Nat}{V:XV}(hk:V.kt=eD (pW W)):bX V (model pw (Vw W)) (Ex W vE aF c1 c2 iL iI iC iG V.mm V.ro):=
 fn hk fun st h=>(r5 W vE aF c1 c2 _ _ _ _ _ _ h).toF
def Oo(i:Int):Prop:= -(2^63)<=i/\i<2^63
def dN:Int->List Int->Prop
 |_,[]=>True
 |a,b::l=>Oo b/\Oo (a+b)/\dN (a+b) l
noncomputable def dP:Int->List Int->Int
 |a,[]=>a
 |a,b::l=>dP (a+b) l
theorem ji{prog:Program}{w:World}{A:Around}{R:Result->Shared->Prop}{it l S:Addr}{items:Array Value}(xs:List Int)(hv:aj items xs)(h1:S≠it)(h2:S≠l)(h3:it≠l)(hh:A.in1.handled=none):
  ∀(rest:List Int) (k:Nat) (a:Int) (tA:Tok) (c:Nat) (s:Shared),xs.drop k=rest->dN a rest->s.heap.IsListIter it l k->s.heap.IsList l items->s.heap.get? S=some {cls:=.type "list",dict:=none,data:=.seq #[.int a tA] c,slots:= #[]}->
  (∀h' tk t',(∀b o,b≠it->b≠S->s.heap.get? b=some o->h'.get? b=some o)->(∃o,h'.get? S=some o)->s.toks<=tk->R (.ok (.ret (.int (dP a rest) t'))) {s with heap:=h',toks:=tk})->
  codeAny (model prog w) A (.builtin "sum.loop" ⟨[.ref it,.ref S,rawInt 0,rawInt 0],[]⟩) R s
 |[],k,a,tA,c,s,hd,hf,hit,hl,hS,hR=>by
  refine codeAny_builtin F.entry_sum_loop ?_
  rw [Around.under_plainId F.plain_sum_loop _]
  show wpAny _ A.in1 (seqItems? (.ref S)>>=_) _ _ s
  refine wpAny_bind (wpAny_seqItems hS rfl ?_)
  show wpAny _ A.in1 (tryCatch (pyNext (.ref it)) _>>=_) _ _ s
  refine wpAny_bind (wpAny_tryCatch (wpAny_pyNext_list_end hh hit hl (hv.noneV hd) fun h' hx=>?_))
  exact wpAny_pure (hR h' s.toks tA (fun b o hb _ e=>hx b o hb e) ⟨_,hx S _ h1 hS⟩ (Nat.le_refl _))
 |b::rest,k,a,tA,c,s,hd,hf,hit,hl,hS,hR=>by
  obtain⟨hk,hd'⟩:=bw hd
  obtain⟨t,hx⟩:=hv.getV hk
  obtain⟨⟨f1,f2⟩,⟨f3,f4⟩,hf'⟩:=hf
  refine codeAny_builtin F.entry_sum_loop ?_
  rw [Around.under_plainId F.plain_sum_loop _]
  show wpAny _ A.in1 (seqItems? (.ref S)>>=_) _ _ s
  refine wpAny_bind (wpAny_seqItems hS rfl ?_)
  show wpAny _ A.in1 (tryCatch (pyNext (.ref it)) _>>=_) _ _ s
  refine wpAny_bind (wpAny_tryCatch (wpAny_pyNext_list_item hit hl hx fun h' hit' hs'=>?_))
  have hS':h'.get? S=_:=(hs'.2 S h1).trans hS
  have hc:((decide (-(2^63)<=b)&&decide (b<2^63))&&(decide (-(2^63)<=a+b)&&decide (a+b<2^63)))=true:=by
   simp only [Bool.and_eq_true,decide_eq_true_eq]
   exact⟨⟨f1,f2⟩,f3,f4⟩
  show wpAny _ A.in1 (if(_:Bool)=true then(mkInt (a+b)>>=_) else _) _ _ _
  split
  ·refine wpAny_bind (wpAny_mkInt ?_)
   show wpAny _ A.in1 (updateSeq S (fun _=> #[.int (a+b) s.toks])>>=_) _ _ _
   refine wpAny_bind ?_
   have hl':h'.IsList l items:=by
    obtain⟨o,ho,q⟩:=hl
    exact⟨o,(hs'.2 l (Ne.symm h3)).trans ho,q⟩
   have hsb:Heap.SameBut S h' (h'.update S (Obj.mapSeq fun _=> #[.int (a+b) s.toks])):=Heap.SameBut.update ..
   refine wpAny_updateSeq hS' rfl (wpAny_pure ⟨plainId_quiet F.plain_sum_loop _,ji xs hv h1 h2 h3 hh rest (k+1) (a+b) s.toks _ _ hd' hf' ?_ ?_ (Heap.get?_update_self _ hS' rfl) fun h'' tk'' t'' hk'' hsz htk=>?_⟩)
   ·obtain⟨o,ho,q⟩:=hit'
    exact⟨o,(hsb.2 it (Ne.symm h1)).trans ho,q⟩
   ·obtain⟨o,ho,q⟩:=hl'
    exact⟨o,(hsb.2 l (Ne.symm h2)).trans ho,q⟩
   ·refine hR h'' tk'' t'' (fun b' o hb1 hb2 e=>hk'' b' o hb1 hb2 ((hsb.2 b' hb2).trans ((hs'.2 b' hb1).trans e))) hsz (Nat.le_of_succ_le htk)
  ·rename_i hneg
   exact absurd hc hneg
noncomputable def t9:Int->List Value->Int
 |a,[]=>a
 |a,v::l=>match v with
  |.int b _=>t9 (a+b) l
  |_=>a
noncomputable def mP(items:Array Value):Int:=match items with
 |⟨l⟩=>t9 0 l
theorem qg:∀(xs:List Int) (l:List Value) (a:Int),aj ⟨l⟩ xs->t9 a l=dP a xs
 |[],l,a,h=>by
  have:l=[]:=eq_nil_of_length_eq_zero (by simpa using h.1)
  subst this;rfl
 |x::xs,[],a,h=>by have:=h.1;simp at this
 |x::xs,v::l,a,h=>by
  obtain⟨t,e⟩:=h.2 0 x rfl
  have e:some v=some (Value.int x t):=by simpa using e
  cases e
  show t9 (a+x) l=dP (a+x) xs
  exact qg xs l (a+x) ⟨by have:=h.1;simpa using this,fun i v e=>by
   obtain⟨t',e'⟩:=h.2 (i+1) v (by simpa using e)
   exact⟨t',by simpa using e'⟩⟩
theorem pB{items:Array Value}{xs:List Int}(h:aj items xs):mP items=dP 0 xs:=qg xs items.toList 0 h
theorem vY(W:WW)(p0:Pos)(bl:List nV)(aH:Nat)(lv:Array Value)(eph:Nat)(s:Shared)(E:WW->ae)(hE:E=fun W=>[(Yk aH lv eph)])(hP:az (pW W) (E W) s){Q:Prop}(kQ:∀(n tb:Nat) (s':Shared) (tz:Tok),Hn s n->Ht s tb->cp (Yt W) (⟨.builtin "sum" (oV aH),none,none,bl,none⟩) (.builtin "sum.loop" ⟨[.ref (A (cQ n)),.ref (A (dD n)),rawInt 0,rawInt 0],[]⟩) p0 s s'->az (pW W) ([(Yk aH lv eph),(db n 0,Yf aH),(db n 1,ab ⟨[.int 0 tz]⟩ 0)]) s'->af (E W) s s'->Q):Q:=by
 obtain⟨n,tb,gb,hn,ht,hg⟩:=hP.nt
 refine bT hE hP hn ht hg (fun E W Z hs=>ch (oX W 1) 52 (⟨.builtin "sum" (oV aH),none,none,bl,none⟩) (p0) (a8 (.builtin "sum" (oV aH))) [] hs (cN E n tb gb) (lY Z)) (fun E W Z hs=>ad (lE E) (A n) gb (sl hs 0 4) (Z (.again (.builtin "sum.loop" ⟨[.ref (A (cQ n)),.ref (A (dD n)),rawInt 0,rawInt 0],[]⟩)) (Y2 n 2) (Y8 tb 1) true (ax ([(Yk aH lv eph),(db n 0,Yf aH),(db n 1,ab ⟨[.int 0 (TK tb)]⟩ 0)])))) (fun _=>[1,1,1,2,3000]) (iX (by kernel_rfl)) rfl trivial (by exact trivial) rfl fun hs=>?_
 exact rF fun s' r _ h3 h4 h5=>kQ n tb s' _ hn ht (cf r) ⟨h4,ai h3,Nd (nx hE hP) hn,Mj (nx hE hP)⟩ h5
theorem vm(W:WW)(bl:List (Code×Pos))(aH:Nat)(hs:Array Value)(eph:Nat)(xs:List Int)(hh:aj hs xs)(hf:dN 0 xs):
  cm (Vw W) ⟨.builtin "sum" ⟨[.ref (A aH)],[]⟩,none,none,bl,none⟩ [(A aH,ab hs eph)] (fun x:cA=>(.ok (.ret (.int (mP hs) x.t)),[ab hs eph],[])) (fun _=>True):=by
 intro p s hP
 apply vY (W:=W) (bl:=bl) (p0:=p) (hE:=rfl) (hP:=hP) (kQ:=?k63) ..
 case' k63=>intro n tb s1 tz hn ht zp62 hP1 K1
 refine gQ fun Q zQ=>?_
 obtain⟨p1,H1⟩:=zp62
 have nd:=hP1.nd
 simp only [map_cons,map_nil,List.nodup_cons,List.mem_cons,List.not_mem_nil,or_false,not_or] at nd
 have key:codeAny (model pw (Vw W)) {handled:=none,depth:=frameCount bl,units:=unitsOf bl} (.builtin "sum.loop" ⟨[.ref (A (Nat.add n 0)),.ref (A (Nat.add n 1)),rawInt 0,rawInt 0],[]⟩)
   (fun r s'=>∃h' tk t',r=.ok (.ret (.int (dP 0 xs) t'))/\s'={s1 with heap:=h',toks:=tk}/\(∀b o,b≠A (Nat.add n 0)->b≠A (Nat.add n 1)->s1.heap.get? b=some o->h'.get? b=some o)/\(∃o,h'.get? (A (Nat.add n 1))=some o)/\s1.toks<=tk) s1:=
  ji xs hh (fun e=>nd.2.1 e.symm) (fun e=>nd.1.2 e.symm) (fun e=>nd.1.1 e.symm) rfl xs 0 0 tz 0 s1 rfl hf ⟨_,hP1.has.2.1,rfl,rfl⟩ ⟨_,hP1.has.1,rfl,_,rfl⟩ hP1.has.2.2.1 fun h' tk t' a b c=>⟨h',tk,t',rfl,rfl,a,b,c⟩
 obtain⟨r,s2,R,h',tk,t',rfl,rfl,hk,⟨o,ho⟩,htk⟩:=key ((⟨.builtin "sum" ⟨[.ref (A aH)],[]⟩,none,none,bl,none⟩:Ctx).goto (.builtin "sum.loop" ⟨[.ref (A (Nat.add n 0)),.ref (A (Nat.add n 1)),rawInt 0,rawInt 0],[]⟩)) p1 rfl ⟨rfl,Nat.le_refl _,(fun _ h=>nomatch h),(fun _ h=>nomatch h),Nat.le_refl _⟩
 refine zQ ?_
 have hsz:s.heap.objs.size<=h'.objs.size:=by
  have h1:A (Nat.add n 1)<h'.objs.size:=Heap.lt_size ho
  rw [hn]
  have h1:n+1+245<h'.objs.size:=h1
  show n+245<=_
  lia
 have hkt:∀a o,(eD (pW W)).get a=some o->a≠A (Nat.add n 0)/\a≠A (Nat.add n 1):=by
  intro a o e
  refine⟨fun q=>?_,fun q=>?_⟩
  ·have:=hP1.lo (A (Nat.add n 0)) (by simp)
   rw [<-q,e] at this;cases this
  ·have:=hP1.lo (A (Nat.add n 1)) (by simp)
   rw [<-q,e] at this;cases this
 have hold:∀b o,s.heap.get? b=some o->b≠A (Nat.add n 0)/\b≠A (Nat.add n 1):=by
  intro b o e
  have:=Heap.lt_size e
  rw [hn] at this
  have this:b<n+245:=this
  refine⟨fun q=>?_,fun q=>?_⟩
  ·rw [q] at this;exact absurd this (Nat.not_lt.mpr (show n+245<=n+0+245 by lia))
  ·rw [q] at this;exact absurd this (Nat.not_lt.mpr (show n+245<=n+1+245 by lia))
 refine⟨⟨t'⟩,{s1 with heap:=h',toks:=tk},by rw [pB hh];exact H1 _ _ R,⟨fun a o e=>hk a o (hkt a o e).1 (hkt a o e).2 (hP1.rdy.base a o e),hP1.rdy.gens,?_,Nat.le_trans hP1.rdy.toks htk⟩,⟨fun b o e hb=>?_,K1.drawn,K1.os,hsz⟩,⟨?_,trivial⟩,trivial,(fun y hy=>nomatch hy),nodup_nil,trivial⟩
 ·have:=hP.rdy.size
  show 245<=h'.objs.size
  lia
 ·exact hk b o (hold b o e).1 (hold b o e).2 (K1.keep b o e hb)
 ·exact hk _ _ nd.1.1 nd.1.2 hP1.has.1
noncomputable def oG(i mm ro:Nat):bL:=fun Γ p c st K=>match st.T.get i with
 |some ⟨cl,dd,.seq items ep,sl⟩=>((c=.builtin "sum" ⟨[.ref (bm st.L st.n i)],[]⟩/\Γ.handled=none/\Γ.own=none/\Γ.past=none)/\Nat.ble 245 (bm st.L st.n i)=true/\(⟨cl,dd,.seq items ep,sl⟩:Obj)=ab items ep/\(∃xs,aj items xs/\dN 0 xs))/\
   qe (X:=cA) [(bm st.L st.n i,ab items ep)] [i] mm ro (fun x=>(.ok (.ret (.int (mP items) x.t)),[ab items ep],[])) (fun _=>True) st K
 |_=>False
theorem mG{w:World}{b1 b2:Bool}{i:Nat}{V:XV}(hk:V.kt=eD (W2 w b1 b2).params):bX V (model pw (W2 w b1 b2)) (oG i V.mm V.ro):=by
 intro h0 d os Γ p c st K s H hΓ R
 unfold oG at H
 split at H
 ·rename_i cl dd items ep sl e1
  obtain⟨⟨⟨q,g1,g2,g3⟩,hb,-,xs,hh,hf⟩,H⟩:=H
  obtain⟨aH,ha⟩:∃aH,bm st.L st.n i=A aH:=⟨bm st.L st.n i-245,by have:245<=bm st.L st.n i:=le_of_ble_eq_true hb;show _=_+245;omega⟩
  rw [<-hΓ]
  refine fu hk (fun hP _=>?_) H R
  obtain⟨gc,gh,go,gb,gp⟩:=Γ
  have hΓ:gc=c:=hΓ
  have g1:gh=none:=g1
  have g2:go=none:=g2
  have g3:gp=none:=g3
  subst hΓ g1 g2 g3
  rw [q]
  rw [ha] at hP⊢
  exact vm ⟨w,b1,b2⟩ gb aH items ep xs hh hf p s hP
 ·exact H.elim
noncomputable def lC:Code->Made:=fun c=>match c with
 |.builtin _ ⟨[.int (.ofNat a) _,.int (.ofNat b) _],_⟩=>.int (Int.ofNat (a/b))
 |_=>.val .none
noncomputable def yV:Code->Made:=fun c=>match c with
 |.builtin _ ⟨[.int (.ofNat a) _,.int (.ofNat b) _],_⟩=>.int (Int.ofNat (a % b))
 |_=>.val .none
noncomputable def jj:Code->Made:=fun c=>match c with
 |.builtin _ ⟨[.int a _,.int b _],_⟩=>.int (a*b)
 |_=>.val .none
noncomputable def De:Code->Made:=fun c=>match c with
 |.builtin _ ⟨[.int a _,.int b _],_⟩=>.int (a^b.toNat)
 |_=>.val .none
theorem eM{a b:Nat}{t u:Tok}{l}(hb:b≠0)(h3:b<=1000):av (.builtin "int.__floordiv__" ⟨[.int (Int.ofNat a) t,.int (Int.ofNat b) u],[]⟩) l (.int (Int.ofNat (a/b))):=by
 refine av.mk PySem.F.entry_int_floordiv ?_ trivial
 have e:(Int.ofNat a).fdiv (Int.ofNat b)=Int.ofNat (a/b):=by cases a<;>cases b<;>simp [Int.fdiv]<;>rfl
 rw [<-e]
 refine PySem.AutoIntG4.int___floordiv___int_int_1 (Int.ofNat a) t (Int.ofNat b) u (by simp;exact hb) (fun h=>?_)
 unfold Builtin.divisionGoesByPylong at h
 simp only [Bool.and_eq_true,decide_eq_true_eq] at h
 have h1:=h.1
 split at h1
 ·omega
 ·have:(Int.ofNat b).natAbs.log2<=10:=by
   show b.log2<=10
   have:=Nat.log2_lt (n:=b) (k:=11) hb
   have:=this.mpr (by omega)
   omega
  omega
theorem dC{a b:Nat}{t u:Tok}{l}(hb:b≠0):av (.builtin "int.__mod__" ⟨[.int (Int.ofNat a) t,.int (Int.ofNat b) u],[]⟩) l (.int (Int.ofNat (a % b))):=by
 refine av.mk PySem.F.entry_int_mod ?_ trivial
 have e:(Int.ofNat a).fmod (Int.ofNat b)=Int.ofNat (a % b):=by cases a<;>cases b<;>simp [Int.fmod]<;>rfl
 rw [<-e]
 exact PySem.AutoIntG6.int___mod___int_int_1 (Int.ofNat a) t (Int.ofNat b) u (by simp;exact hb)
theorem eV{a b:Int}{t u:Tok}{l}(h:Builtin.Int.intBits a<=64):av (.builtin "int.__mul__" ⟨[.int a t,.int b u],[]⟩) l (.int (a*b)):=
 av.mk PySem.F.entry_int_mul (gives_int_mul a b t u (.of_left h)) trivial
theorem qr{a b:Int}{t u:Tok}{v:Bool}{l}(h:(a==b)=v):av (.builtin "int.__eq__" ⟨[.int a t,.int b u],[]⟩) l (.val (.bool v)):=by
 subst h;exact av.mk PySem.F.entry_int_eq (gives_int_eq a b t u) trivial
noncomputable def gT(items:Array Value)(k:Int):Int:=match kE items k with
 |.int n _=>n
 |_=>0
noncomputable def p8(items:Array Value)(k:Int):Tok:=match kE items k with
 |.int _ t=>t
 |_=>0
noncomputable def ny(i:Nat):bD:=fun Γ c st=>wA (st.T.get i) nO fun _ _ items _ _=>wO (AA c) nO fun b=>cn i (.int (gT items b.1) (p8 items b.1)) Γ c st
theorem lN{V:XV}{pr:Program}{w:World}{i:Nat}:bE V (model pr w) (ny i):=
 dQ fun hΓ R=>e8 fW fun _ _ _ _ _ _=>fA fW fun _ hc H=>bA _ _ _ _ _ _ _ _ _ _ hc hΓ R H
theorem gO{t u:Tok}{j:Nat}(h:j<2):(seqIndex? (Int.ofNat j) (Array.mk [Value.int 1 t,Value.int (-1) u]).size).bind (fun i=>(Array.mk [Value.int 1 t,Value.int (-1) u])[i]?)=some (.int (gT (Array.mk [Value.int 1 t,Value.int (-1) u]) (Int.ofNat j)) (p8 (Array.mk [Value.int 1 t,Value.int (-1) u]) (Int.ofNat j)))/\gT (Array.mk [Value.int 1 t,Value.int (-1) u]) (Int.ofNat j)=if j=0 then 1 else-1:=by
 have:j=0\/j=1:=by lia
 rcases this with rfl|rfl
 ·exact⟨rfl,rfl⟩
 ·exact⟨rfl,rfl⟩
noncomputable def qf(B q:Nat):Int:=(if q/8 % 2=0 then 1 else-1)*(1+Int.ofNat (q/4 % 2)*Int.ofNat B)*Int.ofNat B^(q % 4)
noncomputable def cW(B i q:Nat):Int:=if(i=1\/i=2\/i=5)/\q/16 % 4=3 then 0 else qf B q
noncomputable def eY(B:Nat):Nat->List Nat->List Int
 |_,[]=>[]
 |k,q::l=>cW B k q::eY B (k+1) l
noncomputable def oD(i:Nat)(v:Bool):bD:=fun Γ c st=>wA (st.T.get i) nO fun cl dd l _ sl=>w3 l.toList nO fun x y z=>wi x nO fun a=>wi y nO fun b=>wi z nO fun d=>wO (AA c) nO fun g=>
  (c=.builtin "list.__contains__" ⟨[.ref (bm st.L st.n i),.int g.1 g.2],[]⟩/\(cl=.type "list"/\dd=none/\sl=⟨[]⟩)/\((a==g.1)||((b==g.1)||(d==g.1)))=v,ret (.bool v))
theorem jE{V:XV}{pr:Program}{w:World}{i:Nat}{v:Bool}:bE V (model pr w) (oD i v):=by
 refine dQ fun hΓ R=>e8 fW fun cl dd l n sl e1=>DL fW fun x y z e2=>kb fW fun a ta e3=>kb fW fun b tb' e4=>kb fW fun d' td e5=>fA fW fun g=>?_
 obtain⟨l⟩:=l
 subst e3 e4 e5
 have e2:l=_:=e2
 subst e2
 rintro⟨rfl,⟨rfl,rfl,rfl⟩,hv⟩ H
 obtain⟨rfl,rfl⟩:=fP H
 rw [bh PySem.F.entry_list_contains]
 refine bu (PySem.MeetsSeq.list_contains _ _ n (.int g.1 g.2) (fun y=>match y with|.int i _=>i==g.1|_=>false) (fun y hy=>?_)) (by rw [hΓ];rfl) ⟨i9 R e1,?_⟩
 ·have:y=.int a ta\/y=.int b tb'\/y=.int d' td:=by simpa using hy
  rcases this with rfl|rfl|rfl<;>exact PySem.MeetsSeq.EqGives.int _ _ _ _
 ·rw [<-hv]
  refine⟨?_,rfl⟩
  simp
theorem pD{B e:Nat}{t u:Tok}{l}(hB:B=2\/B=3)(he:e<4):av (.builtin "int.__pow__" ⟨[.int (Yh B) t,.int (Yh e) u],[]⟩) l (.int (Int.ofNat B^e)):=by
 refine av.mk PySem.F.entry_int_pow ?_ trivial
 have h:e=0\/e=1\/e=2\/e=3:=by lia
 rcases hB with rfl|rfl<;>rcases h with rfl|rfl|rfl|rfl
 ·exact PySem.AutoIntG9.int___pow___int_int_0 (Int.ofNat 2) t Yx u (by decide) (by decide)
 ·exact PySem.AutoIntG2.int___pow___int_int_4 (Int.ofNat 2) t (Int.ofNat 1) u (by decide) (by decide) (by decide) (by decide) (by decide+kernel)
 ·exact PySem.AutoIntG2.int___pow___int_int_4 (Int.ofNat 2) t (Int.ofNat 2) u (by decide) (by decide) (by decide) (by decide) (by decide+kernel)
 ·exact PySem.AutoIntG2.int___pow___int_int_4 (Int.ofNat 2) t (Int.ofNat 3) u (by decide) (by decide) (by decide) (by decide) (by decide+kernel)
 ·exact PySem.AutoIntG9.int___pow___int_int_0 (Int.ofNat 3) t Yx u (by decide) (by decide)
 ·exact PySem.AutoIntG2.int___pow___int_int_4 (Int.ofNat 3) t (Int.ofNat 1) u (by decide) (by decide) (by decide) (by decide) (by decide+kernel)
 ·exact PySem.AutoIntG2.int___pow___int_int_4 (Int.ofNat 3) t (Int.ofNat 2) u (by decide) (by decide) (by decide) (by decide) (by decide+kernel)
 ·exact PySem.AutoIntG2.int___pow___int_int_4 (Int.ofNat 3) t (Int.ofNat 3) u (by decide) (by decide) (by decide) (by decide) (by decide+kernel)
theorem mT{j:Nat}(v:Int)(h:v=if j=0 then 1 else-1):Builtin.Int.intBits v<=64:=by
 by_cases hj:j=0
 ·rw [if_pos hj] at h;subst h;decide+kernel
 ·rw [if_neg hj] at h;subst h;decide+kernel
theorem yk{q:Nat}:Builtin.Int.intBits (Int.ofNat (q/4 % 2))<=64:=by
 have:q/4 % 2=0\/q/4 % 2=1:=by lia
 rcases this with h|h<;>rw [h]<;>decide+kernel
theorem m7{q B:Nat}(v:Int){j:Nat}(h:v=if j=0 then 1 else-1)(hB:B=2\/B=3):Builtin.Int.intBits (v*(1+Int.ofNat (q/4 % 2)*Int.ofNat B))<=64:=by
 have hx:q/4 % 2=0\/q/4 % 2=1:=by lia
 by_cases hj:j=0
 ·rw [if_pos hj] at h;subst h
  rcases hx with h|h<;>rw [h]<;>rcases hB with rfl|rfl<;>decide+kernel
 ·rw [if_neg hj] at h;subst h
  rcases hx with h|h<;>rw [h]<;>rcases hB with rfl|rfl<;>decide+kernel
noncomputable abbrev wN:=[110,117,109,98,101,114,115]
noncomputable abbrev Yr:=wN
noncomputable abbrev wU:=[115,99,114,105,112,116]
noncomputable abbrev Yy:=wU
noncomputable abbrev ii:=[103,105,118,101,110]
noncomputable abbrev ie:=[100,114,97,119,110]
abbrev Hu a b c d e f:=av (.builtin "int.__mod__" ⟨[(.int (Int.ofNat (a/c)) (Y8 b d)),(.int (Int.ofNat e) (Y8 b f))],[]⟩) [] (yV (.builtin "int.__mod__" ⟨[(.int (Int.ofNat (a/c)) (Y8 b d)),(.int (Int.ofNat e) (Y8 b f))],[]⟩))/\Yc
abbrev Hx a b c d e:=av (.builtin "int.__floordiv__" ⟨[(.int (Yh a) b),(.int (Int.ofNat d) (Y8 c e))],[]⟩) [] (lC (.builtin "int.__floordiv__" ⟨[(.int (Yh a) b),(.int (Int.ofNat d) (Y8 c e))],[]⟩))/\Yc
abbrev kr a b:=Value.int (Int.negSucc 0) (Y8 a b)
noncomputable abbrev j7 a:=Int.ofNat (a/8 % 2)
noncomputable abbrev O2 a b c:=Int.ofNat (a/b % c)
noncomputable abbrev Qb a:=((1:Int)==Int.ofNat a)||(((2:Int)==Int.ofNat a)||((5:Int)==Int.ofNat a))
noncomputable abbrev kC a:=Str.mk ⟨[a]⟩
abbrev Kj a b c d e:=(.builtin "int.__pow__" ⟨[(co a b),(.int (Int.ofNat (c % 4)) (Y8 d e))],[]⟩:Code)
noncomputable abbrev Ae:=Str.mk ⟨ie⟩
abbrev JN a b c d e:=(.builtin "int.__mul__" ⟨[(.int (O2 a 4 2) (Y8 b e)),(co c d)],[]⟩:Code)
noncomputable abbrev ED a:=Int.ofNat (a % 4)
abbrev Kw a b c d:=(.int (1+Int.ofNat (a/4 % 2)*Int.ofNat b) (Y8 c d):Value)
abbrev Ns a b c:=Rf (.builtin "list.__contains__" ⟨[(dV a 0),(kh b c)],[]⟩:Code)
noncomputable abbrev Mm a:=Int.ofNat 2==Int.ofNat a||Int.ofNat 5==Int.ofNat a
noncomputable abbrev An:=Str.mk ⟨ii⟩
noncomputable abbrev Au:=Str.mk ⟨Yy⟩
abbrev Qn a b c d:=av (.builtin "int.__mod__" ⟨[(co a b),(Dm c 4 d)],[]⟩) [] (yV (.builtin "int.__mod__" ⟨[(co a b),(Dm c 4 d)],[]⟩))/\Yc
abbrev Ee:=dH [] yV
noncomputable abbrev Ak:=Str.mk ⟨Yr⟩
theorem zV(W:WW)(b7:Bool)(p0:Pos)(vE:FE)(aF c1 c2 aI aD aN B k m qn:Nat)(u1 u2 u3 u4 u5 u6 u7 tB tq:Tok)(v1 v2 vI vQ:Value)(dv nv:Array Value)(epD epN:Nat)(s:Shared)(hdv:(Ag k dv).bind (fun j=>dv[j]?)=some (co qn tq))(hfk:bN (Yh k))(hB:B=2\/B=3)(hsz:nv.size<=1000)(hin:(Qb k)=false)(E:WW->ae)(hE:E=fun W=>[(A aF,ah "frame" ([aa (pW W) Yy u1 v1,aa (pW W) ii u2 v2,aa (pW W) ie u3 (Yp aD),aa (pW W) eH u4 (co B tB),aa (pW W) Yr u5 (Yp aN)]++(cond b7 [] [aa (pW W) [105] u6 vI,aa (pW W) [113] u7 vQ])) (cond b7 5 7)),(qQ aI k m),(Yk aD dv epD),(Yk aN nv epN)])(hP:az (pW W) (E W) s){Q:Prop}(kQ:∀(n tb:Nat) (s':Shared) (y6 y7 yi yq tz:Tok) (vz:Int) (ep:Nat),Hn s n->Ht s tb->vz=qf B qn->br (Yt W) (⟨fb (pW W) aF c1 c2 aI,none,none,(c6 vE),none⟩) p0 s s'->az (pW W) ([(A aF,ah "frame" [aa (pW W) Yy u1 v1,aa (pW W) ii u2 v2,aa (pW W) ie u3 (Yp aD),aa (pW W) eH u4 (co B tB),aa (pW W) Yr u5 (Yp aN),aa (pW W) [105] y6 (co k yi),aa (pW W) [113] y7 (co qn yq)] 7),(A aI,aK "range_iterator" [qS k,.int (Int.ofNat (Nat.succ m)-1) 0,jv]),(Yk aD dv epD),(A aN,ab (nv.push (bY vz tz)) ep)]) s'->af (E W) s s'->Q):Q:=by
 obtain⟨n,tb,gb,hn,ht,hg⟩:=hP.nt
 refine bT hE hP hn ht hg (fun E W Z hs=>ch (ec (Vw W) 4 [(cn 2 (co qn tq)),(oD 4 false),(dH [] lC),Ee,(ny 5),(dH [] lC),Ee,(dH [] jj),(dH [] jj),Ee,(dH [] De),(dH [] jj),(b9 3)] [] [] []) 198 (⟨fb (pW W) aF c1 c2 aI,none,none,(c6 vE),none⟩) (p0) (a8 (fb (pW W) aF c1 c2 aI)) [] hs (cN E n tb gb) (mB Z)) (fun E W Z hs=>ad (lE E) (A n) gb (sl hs 0 17) (((IF aD k tb)/\(bN (Yh k)/\(((Hj k dv):i6)=(some (co qn tq)))))/\ad (lE E) (A n) gb (sl hs 18 6) (((Ns n k tb)/\(Yi/\(((Int.ofNat 1==Int.ofNat k||(Mm k)):(Bool))=(false))))/\ad (lE E) (A n) gb (sl hs 25 6) ((Hx qn tq tb 8 9)/\ad (lE E) (A n) gb (sl hs 31 0) ((Hu qn tb 8 10 2 11)/\ad (lE E) (A n) gb (sl hs 33 4) (((Rf (.builtin "list.__getitem__" ⟨[(dV n 1),(.int (j7 qn) (Y8 tb 12))],[]⟩:Code))/\(bN (j7 qn)/\((((seqIndex? (j7 qn) (Array.mk [Value.int (Int.ofNat 1) (Y8 tb 6),kr tb 8]).size).bind fun j=>(Array.mk [Value.int (Int.ofNat 1) (Y8 tb 6),kr tb 8])[j]?):i6)=(some (.int (gT (Array.mk [Value.int (Int.ofNat 1) (Y8 tb 6),kr tb 8]) (j7 qn)) (p8 (Array.mk [Value.int (Int.ofNat 1) (Y8 tb 6),kr tb 8]) (j7 qn)))))))/\ad (lE E) (A n) gb (sl hs 38 1) ((Hx qn tq tb 4 14)/\ad (lE E) (A n) gb (sl hs 39 0) ((Hu qn tb 4 15 2 16)/\ad (lE E) (A n) gb (sl hs 41 1) ((av (JN qn tb B tB 17) [] (jj (JN qn tb B tB 17))/\Yc)/\ad (lE E) (A n) gb (sl hs 42 0) ((av (.builtin "int.__mul__" ⟨[(.int (gT (Array.mk [Value.int (Int.ofNat 1) (Y8 tb 6),kr tb 8]) (j7 qn)) (p8 (Array.mk [Value.int (Int.ofNat 1) (Y8 tb 6),kr tb 8]) (j7 qn))),(Kw qn B tb 19)],[]⟩) [] (jj (.builtin "int.__mul__" ⟨[(.int (gT (Array.mk [Value.int (Int.ofNat 1) (Y8 tb 6),kr tb 8]) (j7 qn)) (p8 (Array.mk [Value.int (Int.ofNat 1) (Y8 tb 6),kr tb 8]) (j7 qn))),(Kw qn B tb 19)],[]⟩))/\Yc)/\ad (lE E) (A n) gb (sl hs 45 2) ((Qn qn tq tb 21)/\ad (lE E) (A n) gb (sl hs 47 0) ((av (Kj B tB qn tb 22) [] (De (Kj B tB qn tb 22))/\Yc)/\ad (lE E) (A n) gb (sl hs 47 0) ((av (.builtin "int.__mul__" ⟨[(.int (gT (Array.mk [Value.int (Int.ofNat 1) (Y8 tb 6),kr tb 8]) (j7 qn)*(1+Int.ofNat (qn/4 % 2)*Int.ofNat B)) (Y8 tb 20)),(.int (Int.ofNat B^(ED qn).toNat) (Y8 tb 23))],[]⟩) [] (jj (.builtin "int.__mul__" ⟨[(.int (gT (Array.mk [Value.int (Int.ofNat 1) (Y8 tb 6),kr tb 8]) (j7 qn)*(1+Int.ofNat (qn/4 % 2)*Int.ofNat B)) (Y8 tb 20)),(.int (Int.ofNat B^(ED qn).toNat) (Y8 tb 23))],[]⟩))/\Yc)/\ad (lE E) (A n) gb (sl hs 50 1) (((Rf (.builtin "list.append" ⟨[(Yp aN),(.int (gT (Array.mk [Value.int (Int.ofNat 1) (Y8 tb 6),kr tb 8]) (j7 qn)*(1+Int.ofNat (qn/4 % 2)*Int.ofNat B)*Int.ofNat B^(ED qn).toNat) (Y8 tb 24))],[]⟩:Code))/\(rJ nv))/\ad (lE E) (A n) gb (sl hs 52 1) (Z (.again (fb (pW W) aF c1 c2 aI)) (Y2 n 2) (Y8 tb 25) true (ax ([((A aF),⟨D3,none,(.dict ⟨[⟨(PyData.keyHash (pW W) Au),(.str Au u1),(v1)⟩,⟨(PyData.keyHash (pW W) An),(.str An u2),(v2)⟩,⟨(PyData.keyHash (pW W) Ae),(.str Ae u3),(Yp aD)⟩,⟨(PyData.keyHash (pW W) qN),(.str qN u4),(co B tB)⟩,⟨(PyData.keyHash (pW W) Ak),(.str Ak u5),(Yp aN)⟩,⟨(PyData.keyHash (pW W) (kC 105)),(.str (kC 105) (cond b7 (Y8 tb 1) u6)),(kh k tb)⟩,⟨(PyData.keyHash (pW W) (EU 113)),(.str (EU 113) (cond b7 (Y8 tb 2) u7)),(co qn tq)⟩]⟩ 7),⟨[]⟩⟩),((A aI),⟨Am,none,(.fields ⟨[(.int (Int.ofNat k+Int.ofNat 1) 0),(.int (Int.ofNat (m.add 1)-1) 0),(.int (Int.ofNat 1) 0)]⟩),⟨[]⟩⟩),(rA aD dv epD),(A aN,Obj.mapSeq (·.push (Value.int (gT (Array.mk [Value.int (Int.ofNat 1) (Y8 tb 6),kr tb 8]) (j7 qn)*(1+Int.ofNat (qn/4 % 2)*Int.ofNat B)*Int.ofNat B^(ED qn).toNat) (Y8 tb 24))) (ab nv epN))]))))))))))))))))) (fun _=>(gC [90002,40001,40003,4000,1,1,1,5,5,5,4001,1,40004,1,4002,4003,40006,4004,1,4005,4006,1,4007,3001,4008,1,1,4009,4010,4011,4,4012,4,3000])) (by apply iR b7<;>exact oU (by kernel_rfl)) rfl ⟨fun _=>bA,fun _=>jE,fun _=>bs,fun _=>bs,fun _=>lN,fun _=>bs,fun _=>bs,fun _=>bs,fun _=>bs,fun _=>bs,fun _=>bs,fun _=>bs,fun _=>bx,trivial⟩ trivial rfl fun hs=>?_
 refine rI ⟨rfl,hfk,hdv⟩ ?_
 refine rI ⟨rfl,⟨rfl,rfl,rfl⟩,hin⟩ ?_
 refine rI ⟨eM (by decide) (by decide),rfl⟩ ?_
 refine rI ⟨dC (by decide),rfl⟩ ?_
 refine rI ⟨rfl,bV (by lia),(gO (by lia)).1⟩ ?_
 refine rI ⟨eM (by decide) (by decide),rfl⟩ ?_
 refine rI ⟨dC (by decide),rfl⟩ ?_
 refine rI ⟨eV yk,rfl⟩ ?_
 refine rI ⟨eV (mT (j:=qn/8 % 2) _ (gO (by lia)).2),rfl⟩ ?_
 refine rI ⟨dC (by decide),rfl⟩ ?_
 refine rI ⟨pD hB (by lia),rfl⟩ ?_
 refine rI ⟨eV (m7 (B:=B) (q:=qn) _ (gO (j:=qn/8 % 2) (by lia)).2 hB),rfl⟩ ?_
 refine rI ⟨rfl,⟨rfl,rfl,rfl⟩,hsz⟩ ?_
 exact rF fun s' r _ h3 h4 h5=>kQ n tb s' _ _ _ _ _ _ _ hn ht (by unfold qf;rw [<-(gO (j:=qn/8 % 2) (by lia)).2];rfl) (am rfl r) ⟨h4,ai h3,(nx hE hP).nd,(nx hE hP).lo⟩ h5
section
variable(W:WW)(p0:Pos)(vE:FE)(aF c1 c2 aI aD aN B k m qn:Nat)(u1 u2 u3 u4 u5 u6 u7 tB tq:Tok)(v1 v2 vI vQ:Value)(dv nv:Array Value)(epD epN:Nat)(s:Shared)(hdv:(Ag k dv).bind (fun j=>dv[j]?)=some (co qn tq))(hfk:bN (Yh k))(hB:B=2\/B=3)(hsz:nv.size<=1000)(hin:(Qb k)=true)
include W p0 vE aF c1 c2 aI aD aN B k m qn u1 u2 u3 u4 u5 u6 u7 tB tq v1 v2 vI vQ dv nv epD epN s hdv hfk hB hsz hin
theorem Fr(h3:qn/16 % 4=3)(E:WW->ae)(hE:E=fun W=>[(A aF,ah "frame" [aa (pW W) Yy u1 v1,aa (pW W) ii u2 v2,aa (pW W) ie u3 (Yp aD),aa (pW W) eH u4 (co B tB),aa (pW W) Yr u5 (Yp aN),aa (pW W) [105] u6 vI,aa (pW W) [113] u7 vQ] 7),(qQ aI k m),(Yk aD dv epD),(Yk aN nv epN)])(hP:az (pW W) (E W) s){Q:Prop}(kQ:∀(n tb:Nat) (s':Shared) (y6 y7 yi yq tz:Tok) (vz:Int) (ep:Nat),Hn s n->Ht s tb->vz=0->br (Yt W) (⟨fb (pW W) aF c1 c2 aI,none,none,(c6 vE),none⟩) p0 s s'->az (pW W) ([(A aF,ah "frame" [aa (pW W) Yy u1 v1,aa (pW W) ii u2 v2,aa (pW W) ie u3 (Yp aD),aa (pW W) eH u4 (co B tB),aa (pW W) Yr u5 (Yp aN),aa (pW W) [105] y6 (co k yi),aa (pW W) [113] y7 (co qn yq)] 7),(A aI,aK "range_iterator" [qS k,.int (Int.ofNat (Nat.succ m)-1) 0,jv]),(Yk aD dv epD),(A aN,ab (nv.push (bY vz tz)) ep)]) s'->af (E W) s s'->Q):Q:=by
 obtain⟨n,tb,gb,hn,ht,hg⟩:=hP.nt
 refine bT hE hP hn ht hg (fun E W Z hs=>ch (ec (Vw W) 4 [(cn 2 (co qn tq)),(oD 4 true),(dH [] lC),Ee,po,(b9 3)] [] [] []) 134 (⟨fb (pW W) aF c1 c2 aI,none,none,(c6 vE),none⟩) (p0) (a8 (fb (pW W) aF c1 c2 aI)) [] hs (cN E n tb gb) (mB Z)) (fun E W Z hs=>ad (lE E) (A n) gb (sl hs 0 17) (((IF aD k tb)/\(bN (Yh k)/\(((Hj k dv):i6)=(some (co qn tq)))))/\ad (lE E) (A n) gb (sl hs 18 6) (((Ns n k tb)/\(Yi/\(((Int.ofNat 1==Int.ofNat k||(Mm k)):(Bool))=(true))))/\ad (lE E) (A n) gb (sl hs 25 1) ((Hx qn tq tb 16 6)/\ad (lE E) (A n) gb (sl hs 26 0) ((Hu qn tb 16 7 4 8)/\ad (lE E) (A n) gb (sl hs 26 0) ((av (.builtin "int.__eq__" ⟨[(.int (O2 qn 16 4) (Y8 tb 9)),(Dm tb 3 10)],[]⟩) [] wB/\Yc)/\ad (lE E) (A n) gb (sl hs 29 6) (((Rf (.builtin "list.append" ⟨[(Yp aN),(.int Yx (Y8 tb 11))],[]⟩:Code))/\(rJ nv))/\ad (lE E) (A n) gb (sl hs 36 1) (Z (.again (fb (pW W) aF c1 c2 aI)) (Y2 n 1) (Y8 tb 12) true (ax ([((A aF),⟨(.type "frame"),none,(.dict ⟨[⟨(PyData.keyHash (pW W) (Str.mk ⟨Yy⟩)),(.str (Str.mk ⟨Yy⟩) u1),(v1)⟩,⟨(PyData.keyHash (pW W) (Str.mk ⟨ii⟩)),(.str (Str.mk ⟨ii⟩) u2),(v2)⟩,⟨(PyData.keyHash (pW W) (Str.mk ⟨ie⟩)),(.str (Str.mk ⟨ie⟩) u3),(Yp aD)⟩,⟨(PyData.keyHash (pW W) (Str.mk ⟨eH⟩)),(.str (Str.mk ⟨eH⟩) u4),(co B tB)⟩,⟨(PyData.keyHash (pW W) (Str.mk ⟨Yr⟩)),(.str (Str.mk ⟨Yr⟩) u5),(Yp aN)⟩,⟨(PyData.keyHash (pW W) (Str.mk ⟨[105]⟩)),(.str (Str.mk ⟨[105]⟩) u6),(kh k tb)⟩,⟨(PyData.keyHash (pW W) (Str.mk ⟨[113]⟩)),(.str (Str.mk ⟨[113]⟩) u7),(co qn tq)⟩]⟩ 7),⟨[]⟩⟩),((A aI),⟨Am,none,(.fields ⟨[(.int (Int.ofNat k+Int.ofNat 1) 0),(.int (Int.ofNat (m.add 1)-1) 0),(.int (Int.ofNat 1) 0)]⟩),⟨[]⟩⟩),(rA aD dv epD),(A aN,Obj.mapSeq (·.push (Value.int 0 (Y8 tb 11))) (ab nv epN))])))))))))) (fun _=>(gC [90002,40001,40003,4000,1,1,1,5,5,5,4001,1,4002,4003,4004,1,50004,4005,4,3000])) (iX (by kernel_rfl)) rfl ⟨fun _=>bA,fun _=>jE,fun _=>bs,fun _=>bs,fun _=>au,fun _=>bx,trivial⟩ trivial rfl fun hs=>?_
 refine rI ⟨rfl,hfk,hdv⟩ ?_
 refine rI ⟨rfl,⟨rfl,rfl,rfl⟩,hin⟩ ?_
 refine rI ⟨eM (by decide) (by decide),rfl⟩ ?_
 refine rI ⟨dC (by decide),rfl⟩ ?_
 refine rI ⟨qr (by show(Int.ofNat (qn/16 % 4)==Int.ofNat 3)=true;rw [h3];rfl),rfl⟩ ?_
 refine rI ⟨rfl,⟨rfl,rfl,rfl⟩,hsz⟩ ?_
 exact rF fun s' r _ h3 h4 h5=>kQ n tb s' _ _ _ _ _ _ _ hn ht rfl (am rfl r) ⟨h4,ai h3,(nx hE hP).nd,(nx hE hP).lo⟩ h5
theorem GJ(h3:qn/16 % 4≠3)(E:WW->ae)(hE:E=fun W=>[(A aF,ah "frame" [aa (pW W) Yy u1 v1,aa (pW W) ii u2 v2,aa (pW W) ie u3 (Yp aD),aa (pW W) eH u4 (co B tB),aa (pW W) Yr u5 (Yp aN),aa (pW W) [105] u6 vI,aa (pW W) [113] u7 vQ] 7),(qQ aI k m),(Yk aD dv epD),(Yk aN nv epN)])(hP:az (pW W) (E W) s){Q:Prop}(kQ:∀(n tb:Nat) (s':Shared) (y6 y7 yi yq tz:Tok) (vz:Int) (ep:Nat),Hn s n->Ht s tb->vz=qf B qn->br (Yt W) (⟨fb (pW W) aF c1 c2 aI,none,none,(c6 vE),none⟩) p0 s s'->az (pW W) ([(A aF,ah "frame" [aa (pW W) Yy u1 v1,aa (pW W) ii u2 v2,aa (pW W) ie u3 (Yp aD),aa (pW W) eH u4 (co B tB),aa (pW W) Yr u5 (Yp aN),aa (pW W) [105] y6 (co k yi),aa (pW W) [113] y7 (co qn yq)] 7),(A aI,aK "range_iterator" [qS k,.int (Int.ofNat (Nat.succ m)-1) 0,jv]),(Yk aD dv epD),(A aN,ab (nv.push (bY vz tz)) ep)]) s'->af (E W) s s'->Q):Q:=by
 obtain⟨n,tb,gb,hn,ht,hg⟩:=hP.nt
 refine bT hE hP hn ht hg (fun E W Z hs=>ch (ec (Vw W) 4 [(cn 2 (co qn tq)),(oD 4 true),(dH [] lC),Ee,mu,(dH [] lC),Ee,(ny 5),(dH [] lC),Ee,(dH [] jj),(dH [] jj),Ee,(dH [] De),(dH [] jj),(b9 3)] [] [] []) 218 (⟨fb (pW W) aF c1 c2 aI,none,none,(c6 vE),none⟩) (p0) (a8 (fb (pW W) aF c1 c2 aI)) [] hs (cN E n tb gb) (mB Z)) (fun E W Z hs=>ad (lE E) (A n) gb (sl hs 0 17) (((IF aD k tb)/\(bN (Yh k)/\(((Hj k dv):i6)=(some (co qn tq)))))/\ad (lE E) (A n) gb (sl hs 18 6) (((Ns n k tb)/\(Yi/\(((Int.ofNat 1==Int.ofNat k||(Mm k)):(Bool))=(true))))/\ad (lE E) (A n) gb (sl hs 25 1) ((Hx qn tq tb 16 6)/\ad (lE E) (A n) gb (sl hs 26 0) ((Hu qn tb 16 7 4 8)/\ad (lE E) (A n) gb (sl hs 26 0) ((av (.builtin "int.__eq__" ⟨[(.int (O2 qn 16 4) (Y8 tb 9)),(Dm tb 3 10)],[]⟩) [] wx/\Yc)/\ad (lE E) (A n) gb (sl hs 29 6) ((Hx qn tq tb 8 14)/\ad (lE E) (A n) gb (sl hs 35 0) ((Hu qn tb 8 15 2 16)/\ad (lE E) (A n) gb (sl hs 37 4) (((Rf (.builtin "list.__getitem__" ⟨[(dV n 1),(.int (j7 qn) (Y8 tb 17))],[]⟩:Code))/\(bN (j7 qn)/\((((seqIndex? (j7 qn) (Array.mk [Value.int (Int.ofNat 1) (Y8 tb 11),kr tb 13]).size).bind fun j=>(Array.mk [Value.int (Int.ofNat 1) (Y8 tb 11),kr tb 13])[j]?):i6)=(some (.int (gT (Array.mk [Value.int (Int.ofNat 1) (Y8 tb 11),kr tb 13]) (j7 qn)) (p8 (Array.mk [Value.int (Int.ofNat 1) (Y8 tb 11),kr tb 13]) (j7 qn)))))))/\ad (lE E) (A n) gb (sl hs 42 1) ((Hx qn tq tb 4 19)/\ad (lE E) (A n) gb (sl hs 43 0) ((Hu qn tb 4 20 2 21)/\ad (lE E) (A n) gb (sl hs 45 1) ((av (JN qn tb B tB 22) [] (jj (JN qn tb B tB 22))/\Yc)/\ad (lE E) (A n) gb (sl hs 46 0) ((av (.builtin "int.__mul__" ⟨[(.int (gT (Array.mk [Value.int (Int.ofNat 1) (Y8 tb 11),kr tb 13]) (j7 qn)) (p8 (Array.mk [Value.int (Int.ofNat 1) (Y8 tb 11),kr tb 13]) (j7 qn))),(Kw qn B tb 24)],[]⟩) [] (jj (.builtin "int.__mul__" ⟨[(.int (gT (Array.mk [Value.int (Int.ofNat 1) (Y8 tb 11),kr tb 13]) (j7 qn)) (p8 (Array.mk [Value.int (Int.ofNat 1) (Y8 tb 11),kr tb 13]) (j7 qn))),(Kw qn B tb 24)],[]⟩))/\Yc)/\ad (lE E) (A n) gb (sl hs 49 2) ((Qn qn tq tb 26)/\ad (lE E) (A n) gb (sl hs 51 0) ((av (Kj B tB qn tb 27) [] (De (Kj B tB qn tb 27))/\Yc)/\ad (lE E) (A n) gb (sl hs 51 0) ((av (.builtin "int.__mul__" ⟨[(.int (gT (Array.mk [Value.int (Int.ofNat 1) (Y8 tb 11),kr tb 13]) (j7 qn)*(1+Int.ofNat (qn/4 % 2)*Int.ofNat B)) (Y8 tb 25)),(.int (Int.ofNat B^(ED qn).toNat) (Y8 tb 28))],[]⟩) [] (jj (.builtin "int.__mul__" ⟨[(.int (gT (Array.mk [Value.int (Int.ofNat 1) (Y8 tb 11),kr tb 13]) (j7 qn)*(1+Int.ofNat (qn/4 % 2)*Int.ofNat B)) (Y8 tb 25)),(.int (Int.ofNat B^(ED qn).toNat) (Y8 tb 28))],[]⟩))/\Yc)/\ad (lE E) (A n) gb (sl hs 54 1) (((Rf (.builtin "list.append" ⟨[(Yp aN),(.int (gT (Array.mk [Value.int (Int.ofNat 1) (Y8 tb 11),kr tb 13]) (j7 qn)*(1+Int.ofNat (qn/4 % 2)*Int.ofNat B)*Int.ofNat B^(ED qn).toNat) (Y8 tb 29))],[]⟩:Code))/\(rJ nv))/\ad (lE E) (A n) gb (sl hs 56 1) (Z (.again (fb (pW W) aF c1 c2 aI)) (Y2 n 2) (Y8 tb 30) true (ax ([((A aF),⟨(.type "frame"),none,(.dict ⟨[⟨(PyData.keyHash (pW W) (Str.mk ⟨Yy⟩)),(.str (Str.mk ⟨Yy⟩) u1),(v1)⟩,⟨(PyData.keyHash (pW W) (Str.mk ⟨ii⟩)),(.str (Str.mk ⟨ii⟩) u2),(v2)⟩,⟨(PyData.keyHash (pW W) (Str.mk ⟨ie⟩)),(.str (Str.mk ⟨ie⟩) u3),(Yp aD)⟩,⟨(PyData.keyHash (pW W) (Str.mk ⟨eH⟩)),(.str (Str.mk ⟨eH⟩) u4),(co B tB)⟩,⟨(PyData.keyHash (pW W) (Str.mk ⟨Yr⟩)),(.str (Str.mk ⟨Yr⟩) u5),(Yp aN)⟩,⟨(PyData.keyHash (pW W) (Str.mk ⟨[105]⟩)),(.str (Str.mk ⟨[105]⟩) u6),(kh k tb)⟩,⟨(PyData.keyHash (pW W) (Str.mk ⟨[113]⟩)),(.str (Str.mk ⟨[113]⟩) u7),(co qn tq)⟩]⟩ 7),⟨[]⟩⟩),((A aI),⟨Am,none,(.fields ⟨[(.int (Int.ofNat k+Int.ofNat 1) 0),(.int (Int.ofNat (m.add 1)-1) 0),(.int (Int.ofNat 1) 0)]⟩),⟨[]⟩⟩),(rA aD dv epD),(A aN,Obj.mapSeq (·.push (Value.int (gT (Array.mk [Value.int (Int.ofNat 1) (Y8 tb 11),kr tb 13]) (j7 qn)*(1+Int.ofNat (qn/4 % 2)*Int.ofNat B)*Int.ofNat B^(ED qn).toNat) (Y8 tb 29))) (ab nv epN))])))))))))))))))))))) (fun _=>(gC [90002,40001,40003,4000,1,1,1,5,5,5,4001,1,4002,4003,4004,1,40004,1,4005,4006,40006,4007,1,4008,4009,1,4010,3001,4011,1,1,4012,4013,4014,4,4015,4,3000])) (iX (by kernel_rfl)) rfl ⟨fun _=>bA,fun _=>jE,fun _=>bs,fun _=>bs,fun _=>au,fun _=>bs,fun _=>bs,fun _=>lN,fun _=>bs,fun _=>bs,fun _=>bs,fun _=>bs,fun _=>bs,fun _=>bs,fun _=>bs,fun _=>bx,trivial⟩ trivial rfl fun hs=>?_
 refine rI ⟨rfl,hfk,hdv⟩ ?_
 refine rI ⟨rfl,⟨rfl,rfl,rfl⟩,hin⟩ ?_
 refine rI ⟨eM (by decide) (by decide),rfl⟩ ?_
 refine rI ⟨dC (by decide),rfl⟩ ?_
 refine rI ⟨qr (by exact decide_eq_false (fun e=>h3 (Int.ofNat.inj e))),rfl⟩ ?_
 refine rI ⟨eM (by decide) (by decide),rfl⟩ ?_
 refine rI ⟨dC (by decide),rfl⟩ ?_
 refine rI ⟨rfl,bV (by lia),(gO (by lia)).1⟩ ?_
 refine rI ⟨eM (by decide) (by decide),rfl⟩ ?_
 refine rI ⟨dC (by decide),rfl⟩ ?_
 refine rI ⟨eV yk,rfl⟩ ?_
 refine rI ⟨eV (mT (j:=qn/8 % 2) _ (gO (by lia)).2),rfl⟩ ?_
 refine rI ⟨dC (by decide),rfl⟩ ?_
 refine rI ⟨pD hB (by lia),rfl⟩ ?_
 refine rI ⟨eV (m7 (B:=B) (q:=qn) _ (gO (j:=qn/8 % 2) (by lia)).2 hB),rfl⟩ ?_
 refine rI ⟨rfl,⟨rfl,rfl,rfl⟩,hsz⟩ ?_
 exact rF fun s' r _ h3 h4 h5=>kQ n tb s' _ _ _ _ _ _ _ hn ht (by unfold qf;rw [<-(gO (j:=qn/8 % 2) (by lia)).2];rfl) (am rfl r) ⟨h4,ai h3,(nx hE hP).nd,(nx hE hP).lo⟩ h5
end
theorem Ft(W:WW)(p0:Pos)(vE:FE)(aF c1 c2 aI k bP:Nat)(frl:List DictEntry)(s:Shared)(E:WW->ae)(hE:E=fun W=>[(wW aF frl bP),(kA aI k)])(hP:az (pW W) (E W) s){Q:Prop}(kQ:∀(n tb:Nat) (s':Shared),Hn s n->Ht s tb->Runs (Yt W) (⟨fb (pW W) aF c1 c2 aI,none,none,(c6 vE),none⟩) p0 ((Yt W).den (fb (pW W) aF c1 c2 aI)) [] s ft s'->cL (pW W) s'->cG ([(wW aF frl bP),(kA aI k)]) s'.heap->af (E W) s s'->Q):Q:=by
 obtain⟨n,tb,gb,hn,ht,hg⟩:=hP.nt
 refine bT hE hP hn ht hg (fun E W Z hs=>ch (oX W 2) 56 (⟨fb (pW W) aF c1 c2 aI,none,none,(c6 vE),none⟩) (p0) (a8 (fb (pW W) aF c1 c2 aI)) [] hs (cN E n tb gb) (kZ [0,1] Z)) (fun E W Z hs=>ad (lE E) (A n) gb (sl hs 0 6) (Z oW (Y2 n 2) (Y8 tb 0) true (ax ([(wW aF frl bP),(kA aI k)])))) (fun _=>[2,2,2,2,2,4]) (oU (by kernel_rfl)) rfl trivial (by exact trivial) rfl fun hs=>?_
 exact rF fun s' r _ h3 h4 h5=>kQ n tb s' hn ht (by rw [bG];exact r) h4 (ai h3) h5
noncomputable def lj(P:Params)(aF aI aD aN B:Nat)(u1 u2 u3 u4 u5 tB:Tok)(v1 v2:Value)(dv:Array Value)(epD:Nat)(fr:List DictEntry)(bP k m:Nat)(nv:Array Value)(epN:Nat):ae:=
 [(A aF,ah "frame" ([aa P Yy u1 v1,aa P ii u2 v2,aa P ie u3 (Yp aD),aa P eH u4 (co B tB),aa P Yr u5 (Yp aN)]++fr) bP),(Eb aI k m),(Yk aD dv epD),(Yk aN nv epN)]
theorem aj.push{vs:Array Value}{l:List Int}{v:Int}{t:Tok}(h:aj vs l):aj (vs.push (.int v t)) (l++[v]):=by
 refine⟨by simp [h.1],fun i x e=>?_⟩
 by_cases q:i<l.length
 ·rw [getElem?_append_left q] at e
  rw [getElem?_push,if_neg (by rw [h.1];lia)]
  exact h.2 i x e
 ·rw [getElem?_append_right (by lia)] at e
  have hl:=(List.getElem?_eq_some_iff.mp e).1
  have:i=l.length:=by simp at hl;lia
  subst this
  simp at e
  rw [getElem?_push,if_pos (by rw [h.1])]
  exact⟨t,by rw [<-e]⟩
theorem Oz{k:Nat}{v:Bool}(h:decide (k=1\/k=2\/k=5)=v):(((1:Int)==Int.ofNat k)||(((2:Int)==Int.ofNat k)||((5:Int)==Int.ofNat k)))=v:=by
 have e:∀j:Nat,(((j:Nat):Int)==Int.ofNat k)=decide (k=j):=by
  intro j
  by_cases q:k=j
  ·subst q;simp
  ·rw [decide_eq_false q]
   exact beq_eq_false_iff_ne.mpr (fun x=>q (Int.ofNat.inj x).symm)
 have e1:=e 1;have e2:=e 2;have e5:=e 5
 rw [show((1:Int)==Int.ofNat k)=decide (k=1) from e1,show((2:Int)==Int.ofNat k)=decide (k=2) from e2,show((5:Int)==Int.ofNat k)=decide (k=5) from e5,<-h]
 simp
theorem C9(W:WW)(vE:FE)(aF c1 c2 aI aD aN B:Nat)(u1 u2 u3 u4 u5 tB:Tok)(v1 v2:Value)(dv:Array Value)(epD:Nat)(hB:B=2\/B=3)(ds:List Nat)(hdv:aY dv ds)(hlen:ds.length<=100):∀(rest:List Nat) (k:Nat) (y6 y7:Tok) (x6 x7:Value) (pre:List Int) (nv:Array Value) (ep:Nat) (p0:Pos) (s:Shared),ds.drop k=rest->aj nv pre->nv.size+rest.length<=1000->az (pW W) (lj (pW W) aF aI aD aN B u1 u2 u3 u4 u5 tB v1 v2 dv epD [aa (pW W) [105] y6 x6,aa (pW W) [113] y7 x7] 7 k rest.length nv ep) s->
  ∀Q:Prop,(∀s' y6' y7' x6' x7' k' nv' ep',Runs (Yt W) ⟨fb (pW W) aF c1 c2 aI,none,none,(c6 vE),none⟩ p0 ((Yt W).den (fb (pW W) aF c1 c2 aI)) [] s ft s'->cL (pW W) s'->cG (lj (pW W) aF aI aD aN B u1 u2 u3 u4 u5 tB v1 v2 dv epD [aa (pW W) [105] y6' x6',aa (pW W) [113] y7' x7'] 7 k' 0 nv' ep') s'.heap->af (lj (pW W) aF aI aD aN B u1 u2 u3 u4 u5 tB v1 v2 dv epD [aa (pW W) [105] y6 x6,aa (pW W) [113] y7 x7] 7 k rest.length nv ep) s s'->aj nv' (pre++eY B k rest)->Q)->Q:=by
 intro rest0
 induction rest0 with
 |nil=>
  intro k y6 y7 x6 x7 pre nv ep p0 s hd hnv hsz hP Q kQ
  have hP2:az (pW W) [(A aF,ah "frame" ([aa (pW W) Yy u1 v1,aa (pW W) ii u2 v2,aa (pW W) ie u3 (Yp aD),aa (pW W) eH u4 (co B tB),aa (pW W) Yr u5 (Yp aN)]++[aa (pW W) [105] y6 x6,aa (pW W) [113] y7 x7]) 7),(kA aI k)] s:=az.mid (E1:=[]) (E3:=[(Yk aD dv epD),(Yk aN nv ep)]) hP
  apply Ft (W:=W) (hE:=rfl) (hP:=hP2) (p0:=p0) (kQ:=?k64) ..
  case' k64=>intro n tb s' _ _ r h1 h2 h3
  obtain⟨hr,hk⟩:=az.mid_back (E1:=[]) (E3:=[(Yk aD dv epD),(Yk aN nv ep)]) hP h2 h3
  exact kQ s' y6 y7 x6 x7 k nv ep r h1 hr hk (by simpa [eY] using hnv)
 |cons q rest ih=>
  intro k y6 y7 x6 x7 pre nv ep p0 s hd hnv hsz hP Q kQ
  obtain⟨hk,hd'⟩:=bw hd
  obtain⟨tq,hit⟩:=hdv.2 k q hk
  have hkl:=(List.getElem?_eq_some_iff.mp hk).1
  have hfk:bN (Yh k):=bV (by lia)
  have hgv:=fm hit
  have hP:az (pW W) (lj (pW W) aF aI aD aN B u1 u2 u3 u4 u5 tB v1 v2 dv epD [aa (pW W) [105] y6 x6,aa (pW W) [113] y7 x7] 7 k (rest.length+1) nv ep) s:=hP
  have hsz':nv.size<=1000:=by simp at hsz;lia
  have step:∀G:Prop,(∀s1 a6 a7 b6 b7 tz ep1,br (Yt W) ⟨fb (pW W) aF c1 c2 aI,none,none,(c6 vE),none⟩ p0 s s1->az (pW W) (lj (pW W) aF aI aD aN B u1 u2 u3 u4 u5 tB v1 v2 dv epD [aa (pW W) [105] a6 b6,aa (pW W) [113] a7 b7] 7 (k+1) rest.length (nv.push (.int (cW B k q) tz)) ep1) s1->af (lj (pW W) aF aI aD aN B u1 u2 u3 u4 u5 tB v1 v2 dv epD [aa (pW W) [105] y6 x6,aa (pW W) [113] y7 x7] 7 k (rest.length+1) nv ep) s s1->G)->G:=by
   intro G kG
   by_cases h3:k=1\/k=2\/k=5
   ·have hin:=Oz (decide_eq_true h3)
    by_cases h4:q/16 % 4=3
    ·apply Fr (W:=W) (hdv:=hgv) (hfk:=hfk) (hB:=hB) (hsz:=hsz') (hin:=hin) (h3:=h4) (hE:=rfl) (hP:=hP) (p0:=p0) (m:=rest.length) (kQ:=?k65) ..
     case' k65=>intro n tb s1 a6 a7 yi yq tz vz ep1 _ _ hz H hP1 K
     rw [bI] at hP1
     exact kG s1 a6 a7 _ _ tz ep1 H (by rw [show cW B k q=vz from(by rw [hz,cW,if_pos ⟨h3,h4⟩])];exact hP1) K
    ·apply GJ (W:=W) (hdv:=hgv) (hfk:=hfk) (hB:=hB) (hsz:=hsz') (hin:=hin) (h3:=h4) (hE:=rfl) (hP:=hP) (p0:=p0) (m:=rest.length) (kQ:=?k66) ..
     case' k66=>intro n tb s1 a6 a7 yi yq tz vz ep1 _ _ hz H hP1 K
     rw [bI] at hP1
     exact kG s1 a6 a7 _ _ tz ep1 H (by rw [show cW B k q=vz from(by rw [hz,cW,if_neg (fun x=>h4 x.2)])];exact hP1) K
   ·have hin:=Oz (decide_eq_false h3)
    apply zV (b7:=false) (W:=W) (hdv:=hgv) (hfk:=hfk) (hB:=hB) (hsz:=hsz') (hin:=hin) (hE:=rfl) (hP:=hP) (p0:=p0) (m:=rest.length) (kQ:=?k67) ..
    case' k67=>intro n tb s1 a6 a7 yi yq tz vz ep1 _ _ hz H hP1 K
    rw [bI] at hP1
    exact kG s1 a6 a7 _ _ tz ep1 H (by rw [show cW B k q=vz from(by rw [hz,cW,if_neg (fun x=>h3 x.1)])];exact hP1) K
  refine step _ fun s1 a6 a7 b6 b7 tz ep1 zq8 hP1 K1=>?_
  obtain⟨p',H⟩:=zq8
  refine ih (k+1) a6 a7 b6 b7 (pre++[cW B k q]) _ ep1 p' s1 hd' hnv.push (by simp at hsz⊢;lia) hP1 _ fun s2 a62 a72 b62 b72 k2 nv2 ep2 r h4 h5 h6 h7=>?_
  exact kQ s2 a62 a72 b62 b72 k2 nv2 ep2 (H _ _ r) h4 h5 (K1.trans (h6.cast rfl)) (by rw [eY];simpa using h7)
structure pF where
 y6:Tok
 y7:Tok
 x6:Value
 x7:Value
 k:Nat
 ep:Nat
 a0:Int
 a1:Int
 a2:Int
 a3:Int
 a4:Int
 a5:Int
 a6:Int
 t0:Tok
 t1:Tok
 t2:Tok
 t3:Tok
 t4:Tok
 t5:Tok
 t6:Tok
noncomputable def zy(P:Params)(aF aI aD aN B:Nat)(u1 u2 u3 u4 u5 tB:Tok)(v1 v2:Value)(dv:Array Value)(epD:Nat)(x:pF):Result×List Obj×ae:=(mV,(lj P aF aI aD aN B u1 u2 u3 u4 u5 tB v1 v2 dv epD [aa P [105] x.y6 x.x6,aa P [113] x.y7 x.x7] 7 x.k 0 ⟨[.int x.a0 x.t0,.int x.a1 x.t1,.int x.a2 x.t2,.int x.a3 x.t3,.int x.a4 x.t4,.int x.a5 x.t5,.int x.a6 x.t6]⟩ x.ep).map (·.2),[])
theorem dU{js:List Value}{a:Int}{l:List Int}(h:aj ⟨js⟩ (a::l)):∃t js',js=.int a t::js'/\aj ⟨js'⟩ l:=by
 cases js with
 |nil=>have:=h.1;simp at this
 |cons v js'=>
  obtain⟨t,e⟩:=h.2 0 a rfl
  have e:some v=some (Value.int a t):=by simpa using e
  cases e
  refine⟨t,js',rfl,by have:=h.1;simpa using this,fun i j e=>?_⟩
  obtain⟨t',e'⟩:=h.2 (i+1) j (by simpa using e)
  exact⟨t',by simpa using e'⟩
theorem xo{js:List Value}(h:aj ⟨js⟩ []):js=[]:=eq_nil_of_length_eq_zero (by simpa using h.1)
def oE(B:Nat)(ds:List Nat)(x:pF):Prop:=[x.a0,x.a1,x.a2,x.a3,x.a4,x.a5,x.a6]=eY B 0 ds
theorem EW{js:List Value}{v0 v1 v2 v3 v4 v5 v6:Int}(h:aj ⟨js⟩ [v0,v1,v2,v3,v4,v5,v6]){Q:Prop}(k:∀t0 t1 t2 t3 t4 t5 t6,js=[.int v0 t0,.int v1 t1,.int v2 t2,.int v3 t3,.int v4 t4,.int v5 t5,.int v6 t6]->Q):Q:=by
 obtain⟨t0,j0,e0,h0⟩:=dU h
 obtain⟨t1,j1,e1,h1⟩:=dU h0
 obtain⟨t2,j2,e2,h2⟩:=dU h1
 obtain⟨t3,j3,e3,h3⟩:=dU h2
 obtain⟨t4,j4,e4,h4⟩:=dU h3
 obtain⟨t5,j5,e5,h5⟩:=dU h4
 obtain⟨t6,j6,e6,h6⟩:=dU h5
 exact k t0 t1 t2 t3 t4 t5 t6 (by rw [e0,e1,e2,e3,e4,e5,e6,xo h6])
theorem uN(W:WW)(vE:FE)(aF c1 c2 aI aD aN B:Nat)(u1 u2 u3 u4 u5 tB:Tok)(v1 v2:Value)(dv:Array Value)(epD:Nat)(hB:B=2\/B=3)(ds:List Nat)(hdv:aY dv ds)(h7:ds.length=7):
  cm (Vw W) ⟨fb (pW W) aF c1 c2 aI,none,none,(c6 vE),none⟩ (lj (pW W) aF aI aD aN B u1 u2 u3 u4 u5 tB v1 v2 dv epD [] 5 0 7 ⟨[]⟩ 0) (zy (pW W) aF aI aD aN B u1 u2 u3 u4 u5 tB v1 v2 dv epD) (oE B ds):=by
 intro p0 s hP
 refine G3 h7 fun d0 d1 d2 d3 d4 d5 d6 ex=>?_
 subst ex
 obtain⟨tq,hit⟩:=hdv.2 0 d0 rfl
 have hin:=Oz (k:=0) (decide_eq_false (by lia))
 have hP:az (pW W) (lj (pW W) aF aI aD aN B u1 u2 u3 u4 u5 tB v1 v2 dv epD [] 5 0 7 ⟨[]⟩ 0) s:=hP
 apply zV (b7:=true) (W:=W) (hdv:=fm hit) (hfk:=bV (by lia)) (hB:=hB) (hsz:=zero_le _) (hin:=hin) (hE:=rfl) (hP:=hP) (p0:=p0) (m:=6) (u6:=0) (u7:=0) (vI:=.none) (vQ:=.none) (kQ:=?k69) ..
 case' k69=>intro n tb s1 a6 a7 yi yq tz vz ep1 _ _ hz zp68 hP1 K1
 obtain⟨p',H⟩:=zp68
 rw [bI] at hP1
 have hz:vz=cW B 0 d0:=by rw [hz,cW,if_neg (by lia)]
 subst hz
 refine C9 W vE aF c1 c2 aI aD aN B u1 u2 u3 u4 u5 tB v1 v2 dv epD hB [d0,d1,d2,d3,d4,d5,d6] hdv (by simp) [d1,d2,d3,d4,d5,d6] 1 a6 a7 _ _ ([]++[cW B 0 d0]) _ ep1 p' s1 rfl (aj.push (vs:=⟨[]⟩) (l:=[]) ⟨rfl,fun i v e=>by simp at e⟩) (by simp) hP1 _ fun s2 y6 y7 x6 x7 k2 zq23 ep2 r h4 h5 h6 h8=>?_
 obtain⟨js⟩:=zq23
 have cx:aj ⟨js⟩ [cW B 0 d0,cW B 1 d1,cW B 2 d2,cW B 3 d3,cW B 4 d4,cW B 5 d5,cW B 6 d6]:=h8
 refine EW cx fun t0 t1 t2 t3 t4 t5 t6 ex=>?_
 subst ex
 exact⟨⟨y6,y7,x6,x7,k2,ep2,_,_,_,_,_,_,_,t0,t1,t2,t3,t4,t5,t6⟩,s2,H _ _ r,h4,K1.trans (h6.cast rfl),⟨h5.1,h5.2.1,h5.2.2.1,h5.2.2.2.1,trivial⟩,trivial,(fun y hy=>nomatch hy),nodup_nil,rfl⟩
noncomputable def rq:Value->Int
 |.int i _=>i
 |_=>0
noncomputable def Ov:Value->Nat
 |.int (.ofNat n) _=>n
 |_=>0
noncomputable def mZ(items:Array Value):List Nat:=match items with
 |⟨l⟩=>l.map Ov
abbrev ur a b:=Int.toNat (rq (bU a b 3).2)
noncomputable def Ep(W:WW)(vE:FE)(aF c1 c2:Nat)(iF iI iD iN mm ro:Nat):bL:=nI (X:=pF) (Vw W) (fun st=>aY (fp st iD) (mZ (fp st iD))/\(mZ (fp st iD)).length=7/\((ur st iF)=2\/(ur st iF)=3)) (fun st=>⟨fb (pW W) aF c1 c2 (b8 st iI),none,none,(c6 vE),none⟩) (fun st=>lj (pW W) aF (b8 st iI) (b8 st iD) (b8 st iN) (ur st iF) (bU st iF 0).1 (bU st iF 1).1 (bU st iF 2).1 (bU st iF 3).1 (bU st iF 4).1 (ly (bU st iF 3).2) (bU st iF 0).2 (bU st iF 1).2 (fp st iD) (fc st iD) [] 5 0 7 ⟨[]⟩ 0) [iF,iI,iD,iN] mm ro (fun st=>zy (pW W) aF (b8 st iI) (b8 st iD) (b8 st iN) (ur st iF) (bU st iF 0).1 (bU st iF 1).1 (bU st iF 2).1 (bU st iF 3).1 (bU st iF 4).1 (ly (bU st iF 3).2) (bU st iF 0).2 (bU st iF 1).2 (fp st iD) (fc st iD)) (fun st=>oE (ur st iF) (mZ (fp st iD)))
theorem zd(W:WW)(vE:FE)(aF c1 c2:Nat){iF iI iD iN:Nat}{V:XV}(hk:V.kt=eD (pW W)):bX V (model pw (Vw W)) (Ep W vE aF c1 c2 iF iI iD iN V.mm V.ro):=
 fn hk fun st h=>(uN W vE aF c1 c2 _ _ _ _ _ _ _ _ _ _ _ _ _ _ h.2.2 _ h.1 h.2.1).toF
noncomputable def ER(e:Expr)(outer:Env)(L:Addr)(n:Str)(c:Addr):Env:={lk e outer L with cells:=(n,c)::ng (iY e) outer}
noncomputable def lK(P:Params)(aF c1 c2 ck aL:Nat):Env:=ER (wu P) (bo P aF c1 c2) (A aL) ⟨⟨[107]⟩⟩ (A ck)
noncomputable def gr(P:Params)(aF c1 c2 ck aL aI aC:Nat):Code:=.compLoop (wu P) 0 (Yp aI) (Yp aC) (lK P aF c1 c2 ck aL)
noncomputable def Es(P:Params):Expr:=nf (CU (wu P))
noncomputable def ct(P:Params)(aF c1 c2 ck aL0 aL aI aC:Nat):Code:=.compLoop (Es P) 0 (Yp aI) (Yp aC) (lk (Es P) (lK P aF c1 c2 ck aL0) (A aL))
theorem lX{a b:Int}{t u:Tok}{v:Bool}{l}(h:decide (a<=b)=v):av (.builtin "int.__le__" ⟨[.int a t,.int b u],[]⟩) l (.val (.bool v)):=by
 subst h;exact av.mk PySem.F.entry_int_le (gives_int_le a b t u) trivial
noncomputable abbrev sE a b c d e f g h i:=([(.compLoop a 0 b c d,e),(.func f g,h),(Y7,i)]:List (Code×Pos))
abbrev OR a b c:=(.builtin "int.__le__" ⟨[(.int Yx (Y8 a 2)),(.int (Int.ofNat b-Int.ofNat c) (Y8 a 3))],[]⟩:Code)
theorem mE(W:WW)(b7:Bool)(p0:Pos)(p3 p5 p6:Pos)(ge:Expr)(gi ga:Value)(gn n4:Env)(f2:List Stmt)(aF c1 c2 ck aM aL aI aC aA aB k i m:Nat)(a b:Int)(uI tk ta tc:Tok)(vI:Value)(fv sv as:Array Value)(epA epB epC:Nat)(s:Shared)(hle:decide ((0:Int)<=Int.ofNat k-Int.ofNat i)=true)(hlt:decide (Int.ofNat k-Int.ofNat i<3)=true)(hfi:bN (Yh i))(hga:(Ag i fv).bind (fun j=>fv[j]?)=some (bY a ta))(hfj:bN (Int.ofNat k-Int.ofNat i))(hgb:(seqIndex? (Int.ofNat k-Int.ofNat i) sv.size).bind (fun j=>sv[j]?)=some (bY b tc))(hba:Builtin.Int.intBits a<=64)(hsz:as.size<=1000)(E:WW->ae)(hE:E=fun W=>[(A aL,ah "dict" (cond b7 [] [aa (pW W) [105] uI vI]) (cond b7 0 1)),(qQ aI i m),(Yk aC as epC),(Y6 c1 aA),(Y6 c2 aB),(jx ck k tk),(Yk aA fv epA),(Yk aB sv epB)])(hP:az (pW W) (E W) s){Q:Prop}(kQ:∀(n tb:Nat) (s':Shared) (y yi tz:Tok) (ep:Nat),Hn s n->Ht s tb->br (Yt W) (⟨ct (pW W) aF c1 c2 ck aM aL aI aC,none,none,(sE ge gi ga gn p3 f2 n4 p5 p6),none⟩) p0 s s'->az (pW W) ([(A aL,ah "dict" [aa (pW W) [105] y (co i yi)] 1),(A aI,aK "range_iterator" [qS i,.int (Int.ofNat (Nat.succ m)-1) 0,jv]),(A aC,ab (as.push (.int (a*b) tz)) ep),(Y6 c1 aA),(Y6 c2 aB),(jx ck k tk),(Yk aA fv epA),(Yk aB sv epB)]) s'->af (E W) s s'->Q):Q:=by
 obtain⟨n,tb,gb,hn,ht,hg⟩:=hP.nt
 refine bT hE hP hn ht hg (fun E W Z hs=>ch (ec (Vw W) 8 [po,po,(cn 6 (bY a ta)),(cn 7 (bY b tc)),(dH [] jj),(b9 2)] [] [] []) 124 (⟨ct (pW W) aF c1 c2 ck aM aL aI aC,none,none,(sE ge gi ga gn p3 f2 n4 p5 p6),none⟩) (p0) (a8 (ct (pW W) aF c1 c2 ck aM aL aI aC)) [] hs (cN E n tb gb) (kZ [0,1,2,3,4,5,6,7] Z)) (fun E W Z hs=>ad (lE E) (A n) gb (sl hs 0 13) ((av (OR tb k i) [] wB/\Yc)/\ad (lE E) (A n) gb (sl hs 13 0) ((av (.builtin "int.__lt__" ⟨[(.int (Int.ofNat k-Int.ofNat i) (Y8 tb 3)),(Dm tb 3 4)],[]⟩) [] wB/\Yc)/\ad (lE E) (A n) gb (sl hs 16 6) ((HB aA i tb fv a ta)/\ad (lE E) (A n) gb (sl hs 23 7) (((Rf (.builtin "list.__getitem__" ⟨[(Yp aB),(.int (Int.ofNat k-Int.ofNat i) (Y8 tb 5))],[]⟩:Code))/\(bN (Int.ofNat k-Int.ofNat i)/\((((seqIndex? (Int.ofNat k-Int.ofNat i) sv.size).bind fun j=>sv[j]?):i6)=(some (iU b tc)))))/\ad (lE E) (A n) gb (sl hs 30 0) ((av (.builtin "int.__mul__" ⟨[(iU a ta),(iU b tc)],[]⟩) [] (jj (.builtin "int.__mul__" ⟨[(iU a ta),(iU b tc)],[]⟩))/\Yc)/\ad (lE E) (A n) gb (sl hs 32 1) (((Rf (.builtin "list.append" ⟨[(Yp aC),(.int (a*b) (Y8 tb 6))],[]⟩:Code))/\(rJ as))/\ad (lE E) (A n) gb (sl hs 34 1) (Z (.again (ct (pW W) aF c1 c2 ck aM aL aI aC)) (Y2 n 0) (Y8 tb 7) true (ax ([((A aL),⟨(.type "dict"),none,(.dict ⟨[⟨(PyData.keyHash (pW W) (kC 105)),(.str (kC 105) (cond b7 (Y8 tb 1) uI)),(kh i tb)⟩]⟩ 1),⟨[]⟩⟩),((A aI),⟨Am,none,(.fields ⟨[(.int (Int.ofNat i+Int.ofNat 1) 0),(.int (Int.ofNat (m.add 1)-1) 0),(.int (Int.ofNat 1) 0)]⟩),⟨[]⟩⟩),(A aC,Obj.mapSeq (·.push (Value.int (a*b) (Y8 tb 6))) (ab as epC)),(Y6 c1 aA),(Y6 c2 aB),(jx ck k tk),(Yk aA fv epA),(Yk aB sv epB)])))))))))) (fun _=>(gC [90002,1,1,6,1,3001,4000,4001,4,1,40007,4002,5,6,1,40008,4003,4004,3,4005,3,3000])) (by apply iR b7<;>exact iX (by kernel_rfl)) rfl ⟨fun _=>au,fun _=>au,fun _=>bA,fun _=>bA,fun _=>bs,fun _=>bx,trivial⟩ trivial rfl fun hs=>?_
 refine rI ⟨lX hle,rfl⟩ ?_
 refine rI ⟨gG hlt,rfl⟩ ?_
 refine rI ⟨rfl,hfi,hga⟩ ?_
 refine rI ⟨rfl,hfj,hgb⟩ ?_
 refine rI ⟨eV hba,rfl⟩ ?_
 refine rI ⟨rfl,⟨rfl,rfl,rfl⟩,hsz⟩ ?_
 exact rF fun s' r _ h3 h4 h5=>kQ n tb s' _ _ _ _ hn ht (am rfl r) ⟨h4,ai h3,(nx hE hP).nd,(nx hE hP).lo⟩ h5
theorem wk(W:WW)(p0:Pos)(p3 p5 p6:Pos)(ge:Expr)(gi ga:Value)(gn n4:Env)(f2:List Stmt)(aF c1 c2 ck aM aL aI aC aA aB k i m:Nat)(a b:Int)(uI tk ta tc:Tok)(vI:Value)(fv sv as:Array Value)(epA epB epC:Nat)(s:Shared)(hle:decide ((0:Int)<=Int.ofNat k-Int.ofNat i)=false)(E:WW->ae)(hE:E=fun W=>[(A aL,ah "dict" [aa (pW W) [105] uI vI] 1),(qQ aI i m),(Yk aC as epC),(Y6 c1 aA),(Y6 c2 aB),(jx ck k tk),(Yk aA fv epA),(Yk aB sv epB)])(hP:az (pW W) (E W) s){Q:Prop}(kQ:∀(n tb:Nat) (s':Shared) (y yi:Tok),Hn s n->Ht s tb->br (Yt W) (⟨ct (pW W) aF c1 c2 ck aM aL aI aC,none,none,(sE ge gi ga gn p3 f2 n4 p5 p6),none⟩) p0 s s'->az (pW W) ([(A aL,ah "dict" [aa (pW W) [105] y (co i yi)] 1),(A aI,aK "range_iterator" [qS i,.int (Int.ofNat (Nat.succ m)-1) 0,jv]),(Yk aC as epC),(Y6 c1 aA),(Y6 c2 aB),(jx ck k tk),(Yk aA fv epA),(Yk aB sv epB)]) s'->af (E W) s s'->Q):Q:=by
 obtain⟨n,tb,gb,hn,ht,hg⟩:=hP.nt
 refine bT hE hP hn ht hg (fun E W Z hs=>ch (ec (Vw W) 8 [mu] [] [] []) 77 (⟨ct (pW W) aF c1 c2 ck aM aL aI aC,none,none,(sE ge gi ga gn p3 f2 n4 p5 p6),none⟩) (p0) (a8 (ct (pW W) aF c1 c2 ck aM aL aI aC)) [] hs (cN E n tb gb) (kZ [0,1,2,3,4,5,6,7] Z)) (fun E W Z hs=>ad (lE E) (A n) gb (sl hs 0 13) ((av (OR tb k i) [] wx/\Yc)/\ad (lE E) (A n) gb (sl hs 13 0) (Z (.again (ct (pW W) aF c1 c2 ck aM aL aI aC)) (Y2 n 0) (Y8 tb 4) true (ax ([((A aL),⟨(.type "dict"),none,(.dict ⟨[⟨(PyData.keyHash (pW W) (kC 105)),(.str (kC 105) uI),(kh i tb)⟩]⟩ 1),⟨[]⟩⟩),((A aI),⟨Am,none,(.fields ⟨[(.int (Int.ofNat i+Int.ofNat 1) 0),(.int (Int.ofNat (m.add 1)-1) 0),(.int (Int.ofNat 1) 0)]⟩),⟨[]⟩⟩),(Yk aC as epC),(Y6 c1 aA),(Y6 c2 aB),(jx ck k tk),(Yk aA fv epA),(Yk aB sv epB)]))))) (fun _=>(gC [90002,1,1,6,1,3001,4000,3000])) (iX (by kernel_rfl)) rfl ⟨fun _=>au,trivial⟩ trivial rfl fun hs=>?_
 refine rI ⟨lX hle,rfl⟩ ?_
 exact rF fun s' r _ h3 h4 h5=>kQ n tb s' _ _ hn ht (am rfl r) ⟨h4,ai h3,(nx hE hP).nd,(nx hE hP).lo⟩ h5
theorem mF(W:WW)(b7:Bool)(p0:Pos)(p3 p5 p6:Pos)(ge:Expr)(gi ga:Value)(gn n4:Env)(f2:List Stmt)(aF c1 c2 ck aM aL aI aC aA aB k i m:Nat)(a b:Int)(uI tk ta tc:Tok)(vI:Value)(fv sv as:Array Value)(epA epB epC:Nat)(s:Shared)(hle:decide ((0:Int)<=Int.ofNat k-Int.ofNat i)=true)(hlt:decide (Int.ofNat k-Int.ofNat i<3)=false)(E:WW->ae)(hE:E=fun W=>[(A aL,ah "dict" (cond b7 [] [aa (pW W) [105] uI vI]) (cond b7 0 1)),(qQ aI i m),(Yk aC as epC),(Y6 c1 aA),(Y6 c2 aB),(jx ck k tk),(Yk aA fv epA),(Yk aB sv epB)])(hP:az (pW W) (E W) s){Q:Prop}(kQ:∀(n tb:Nat) (s':Shared) (y yi:Tok),Hn s n->Ht s tb->br (Yt W) (⟨ct (pW W) aF c1 c2 ck aM aL aI aC,none,none,(sE ge gi ga gn p3 f2 n4 p5 p6),none⟩) p0 s s'->az (pW W) ([(A aL,ah "dict" [aa (pW W) [105] y (co i yi)] 1),(A aI,aK "range_iterator" [qS i,.int (Int.ofNat (Nat.succ m)-1) 0,jv]),(Yk aC as epC),(Y6 c1 aA),(Y6 c2 aB),(jx ck k tk),(Yk aA fv epA),(Yk aB sv epB)]) s'->af (E W) s s'->Q):Q:=by
 obtain⟨n,tb,gb,hn,ht,hg⟩:=hP.nt
 refine bT hE hP hn ht hg (fun E W Z hs=>ch (ec (Vw W) 8 [po,mu] [] [] []) 83 (⟨ct (pW W) aF c1 c2 ck aM aL aI aC,none,none,(sE ge gi ga gn p3 f2 n4 p5 p6),none⟩) (p0) (a8 (ct (pW W) aF c1 c2 ck aM aL aI aC)) [] hs (cN E n tb gb) (kZ [0,1,2,3,4,5,6,7] Z)) (fun E W Z hs=>ad (lE E) (A n) gb (sl hs 0 13) ((av (OR tb k i) [] wB/\Yc)/\ad (lE E) (A n) gb (sl hs 13 0) ((av (.builtin "int.__lt__" ⟨[(.int (Int.ofNat k-Int.ofNat i) (Y8 tb 3)),(Dm tb 3 4)],[]⟩) [] wx/\Yc)/\ad (lE E) (A n) gb (sl hs 13 0) (Z (.again (ct (pW W) aF c1 c2 ck aM aL aI aC)) (Y2 n 0) (Y8 tb 5) true (ax ([((A aL),⟨(.type "dict"),none,(.dict ⟨[⟨(PyData.keyHash (pW W) (kC 105)),(.str (kC 105) (cond b7 (Y8 tb 1) uI)),(kh i tb)⟩]⟩ 1),⟨[]⟩⟩),((A aI),⟨Am,none,(.fields ⟨[(.int (Int.ofNat i+Int.ofNat 1) 0),(.int (Int.ofNat (m.add 1)-1) 0),(.int (Int.ofNat 1) 0)]⟩),⟨[]⟩⟩),(Yk aC as epC),(Y6 c1 aA),(Y6 c2 aB),(jx ck k tk),(Yk aA fv epA),(Yk aB sv epB)])))))) (fun _=>(gC [90002,1,1,6,1,3001,4000,4001,3000])) (by apply iR b7<;>exact iX (by kernel_rfl)) rfl ⟨fun _=>au,fun _=>au,trivial⟩ trivial rfl fun hs=>?_
 refine rI ⟨lX hle,rfl⟩ ?_
 refine rI ⟨gG hlt,rfl⟩ ?_
 exact rF fun s' r _ h3 h4 h5=>kQ n tb s' _ _ hn ht (am rfl r) ⟨h4,ai h3,(nx hE hP).nd,(nx hE hP).lo⟩ h5
section
variable(W:WW)(p0 p3 p5 p6:Pos)(ge:Expr)(gi ga:Value)(gn n4:Env)(f2:List Stmt)(aF c1 c2 ck aM aL aI aC:Nat)
include W p0 p3 p5 p6 ge gi ga gn n4 f2 aF c1 c2 ck aM aL aI aC
theorem BL(i el:Nat)(loc:List DictEntry)(as:Array Value)(epC:Nat)(s:Shared)(E:WW->ae)(hE:E=fun W=>[(mw aL loc el),(kA aI i),(Yk aC as epC)])(hP:az (pW W) (E W) s){Q:Prop}(kQ:∀(n tb:Nat) (s':Shared),Hn s n->Ht s tb->Runs (Yt W) (⟨ct (pW W) aF c1 c2 ck aM aL aI aC,none,none,(sE ge gi ga gn p3 f2 n4 p5 p6),none⟩) p0 ((Yt W).den (ct (pW W) aF c1 c2 ck aM aL aI aC)) [] s ft s'->cL (pW W) s'->cG ([(mw aL loc el),(kA aI i),(Yk aC as epC)]) s'.heap->af (E W) s s'->Q):Q:=by
 obtain⟨n,tb,gb,hn,ht,hg⟩:=hP.nt
 refine bT hE hP hn ht hg (fun E W Z hs=>ch (oX W 3) 55 (⟨ct (pW W) aF c1 c2 ck aM aL aI aC,none,none,(sE ge gi ga gn p3 f2 n4 p5 p6),none⟩) (p0) (a8 (ct (pW W) aF c1 c2 ck aM aL aI aC)) [] hs (cN E n tb gb) (lY Z)) (fun E W Z hs=>ad (lE E) (A n) gb (sl hs 0 6) (Z oW (Y2 n 2) (Y8 tb 0) true (ax ([(mw aL loc el),(kA aI i),(Yk aC as epC)])))) (fun _=>[2,2,2,2,2,5]) (oU (by kernel_rfl)) rfl trivial (by exact trivial) rfl fun hs=>?_
 exact rF fun s' r _ h3 h4 h5=>kQ n tb s' hn ht (by rw [bG];exact r) h4 (ai h3) h5
theorem Bu(m:Nat)(s:Shared)(E:WW->ae)(hE:E=fun W=>[(A aL,eG),(xU aI m),(A aC,ix)])(hP:az (pW W) (E W) s){Q:Prop}(kQ:∀(n tb:Nat) (s':Shared),Hn s n->Ht s tb->cp (Yt W) (⟨ay (ct (pW W) aF c1 c2 ck aM aL aI aC),none,none,(sE ge gi ga gn p3 f2 n4 p5 p6),none⟩) (ct (pW W) aF c1 c2 ck aM aL aI aC) p0 s s'->az (pW W) ([(A aL,eG),(xU aI m),(A aC,ix)]) s'->af (E W) s s'->Q):Q:=by
 obtain⟨n,tb,gb,hn,ht,hg⟩:=hP.nt
 refine bT hE hP hn ht hg (fun E W Z hs=>ch (oX W 3) 52 (⟨ay (ct (pW W) aF c1 c2 ck aM aL aI aC),none,none,(sE ge gi ga gn p3 f2 n4 p5 p6),none⟩) (p0) (a8 (ay (ct (pW W) aF c1 c2 ck aM aL aI aC))) [] hs (cN E n tb gb) (lY Z)) (fun E W Z hs=>ad (lE E) (A n) gb (Aq hs W) (Z (.again (ct (pW W) aF c1 c2 ck aM aL aI aC)) (Y2 n 0) (Y8 tb 0) true (ax ([(A aL,eG),(xU aI m),(A aC,ix)])))) Ad (pc (by kernel_rfl)) rfl trivial (by exact trivial) rfl fun hs=>?_
 exact rF fun s' r _ h3 h4 h5=>kQ n tb s' hn ht (cf r) ⟨h4,ai h3,(nx hE hP).nd,(nx hE hP).lo⟩ h5
end
noncomputable def dJ(fs ss:List Int)(k i:Nat):List Int:=if i<=k/\k-i<3 then [fs.getD i 0*ss.getD (k-i) 0] else []
noncomputable def bz(fs ss:List Int)(k:Nat):Nat->Nat->List Int
 |_,0=>[]
 |i,m+1=>dJ fs ss k i++bz fs ss k (i+1) m
theorem nc(fs ss:List Int)(k i:Nat):(dJ fs ss k i).length<=1:=by unfold dJ;split<;>simp
section
variable(W:WW)(p3 p5 p6:Pos)(ge:Expr)(gi ga:Value)(gn n4:Env)(f2:List Stmt)(aF c1 c2 ck aM aL aI aC aA aB k:Nat)(tk:Tok)(fv sv:Array Value)(epA epB:Nat)(fs ss:List Int)(hfv:aj fv fs)(hsv:aj sv ss)(hf4:fs.length=4)(hs3:ss.length=3)(hb:∀a∈fs,Builtin.Int.intBits a<=64)(hk:k<=100)
include W p3 p5 p6 ge gi ga gn n4 f2 aF c1 c2 ck aM aL aI aC aA aB k tk fv sv epA epB fs ss hfv hsv hf4 hs3 hb hk
theorem zT:∀(m i:Nat) (u:Tok) (v:Value) (pre:List Int) (as:Array Value) (ep:Nat) (p0:Pos) (s:Shared),i+m=4->aj as pre->as.size+m<=1000->az (pW W) [(A aL,ah "dict" [aa (pW W) [105] u v] 1),(Eb aI i m),(Yk aC as ep),(Y6 c1 aA),(Y6 c2 aB),(jx ck k tk),(Yk aA fv epA),(Yk aB sv epB)] s->
  ∀Q:Prop,(∀s' u' v' i' ep' as',Runs (Yt W) ⟨ct (pW W) aF c1 c2 ck aM aL aI aC,none,none,(sE ge gi ga gn p3 f2 n4 p5 p6),none⟩ p0 ((Yt W).den (ct (pW W) aF c1 c2 ck aM aL aI aC)) [] s ft s'->cL (pW W) s'->cG [(A aL,ah "dict" [aa (pW W) [105] u' v'] 1),(kA aI i'),(Yk aC as' ep'),(Y6 c1 aA),(Y6 c2 aB),(jx ck k tk),(Yk aA fv epA),(Yk aB sv epB)] s'.heap->af [(A aL,ah "dict" [aa (pW W) [105] u v] 1),(Eb aI i m),(Yk aC as ep),(Y6 c1 aA),(Y6 c2 aB),(jx ck k tk),(Yk aA fv epA),(Yk aB sv epB)] s s'->aj as' (pre++bz fs ss k i m)->Q)->Q:=by
 intro m0
 induction m0 with
 |zero=>
  intro i u v pre as ep p0 s him hls hsz hP Q kQ
  have hP2:az (pW W) [(A aL,ah "dict" [aa (pW W) [105] u v] 1),(kA aI i),(Yk aC as ep)] s:=az.mid (E1:=[]) (E3:=[(Y6 c1 aA),(Y6 c2 aB),(jx ck k tk),(Yk aA fv epA),(Yk aB sv epB)]) hP
  apply BL (W:=W) (hE:=rfl) (hP:=hP2) (p0:=p0) (kQ:=?k70) ..
  case' k70=>intro n tb s' _ _ r h1 h2 h3
  obtain⟨hr,hkp⟩:=az.mid_back (E1:=[]) (E3:=[(Y6 c1 aA),(Y6 c2 aB),(jx ck k tk),(Yk aA fv epA),(Yk aB sv epB)]) hP h2 h3
  exact kQ s' u v i ep as r h1 hr hkp (by simpa [bz] using hls)
 |succ m ih=>
  intro i u v pre as ep p0 s him hls hsz hP Q kQ
  obtain⟨a,ha⟩:∃a,fs[i]? =some a:=⟨_,List.getElem?_eq_getElem (by lia)⟩
  obtain⟨ta,hia⟩:=hfv.2 _ _ ha
  have hP:az (pW W) [(A aL,ah "dict" [aa (pW W) [105] u v] 1),(A aI,aK "range_iterator" [Ye i,qS m,jv]),(Yk aC as ep),(Y6 c1 aA),(Y6 c2 aB),(jx ck k tk),(Yk aA fv epA),(Yk aB sv epB)] s:=hP
  have hsub:i<=k->Int.ofNat k-Int.ofNat i=Int.ofNat (k-i):=fun h=>by show(k:Int)-(i:Int)=((k-i:Nat):Int);lia
  have hle:i<=k->decide ((0:Int)<=Int.ofNat k-Int.ofNat i)=true:=fun h=>decide_eq_true (by rw [hsub h];exact natCast_nonneg _)
  have step:∀G:Prop,(∀s1 y v1 as1 ep1,br (Yt W) ⟨ct (pW W) aF c1 c2 ck aM aL aI aC,none,none,(sE ge gi ga gn p3 f2 n4 p5 p6),none⟩ p0 s s1->az (pW W) [(A aL,ah "dict" [aa (pW W) [105] y v1] 1),(A aI,aK "range_iterator" [qS i,Ye m,jv]),(Yk aC as1 ep1),(Y6 c1 aA),(Y6 c2 aB),(jx ck k tk),(Yk aA fv epA),(Yk aB sv epB)] s1->af [(A aL,ah "dict" [aa (pW W) [105] u v] 1),(A aI,aK "range_iterator" [Ye i,qS m,jv]),(Yk aC as ep),(Y6 c1 aA),(Y6 c2 aB),(jx ck k tk),(Yk aA fv epA),(Yk aB sv epB)] s s1->aj as1 (pre++dJ fs ss k i)->G)->G:=by
   intro G kG
   by_cases h1:i<=k
   by_cases h2:k-i<3
   ·have hlt:decide (Int.ofNat k-Int.ofNat i<3)=true:=decide_eq_true (by rw [hsub h1];exact Int.ofNat_lt.mpr h2)
    obtain⟨b,hb2⟩:∃b,ss[k-i]? =some b:=⟨_,List.getElem?_eq_getElem (by lia)⟩
    obtain⟨tc,hib⟩:=hsv.2 _ _ hb2
    apply mE (b7:=false) (W:=W) (hle:=hle h1) (hlt:=hlt) (hfi:=bV (by lia)) (hga:=fm hia) (hfj:=by rw [hsub h1];exact bV (by lia)) (hgb:=by rw [hsub h1];exact fm hib) (hba:=hb a (mem_of_getElem? ha)) (hsz:=by lia) (hE:=rfl) (hP:=hP) (p0:=p0) (m:=m) (kQ:=?k71) ..
    case' k71=>intro n tb s1 y yi tz ep1 _ _ H hP1 K
    rw [bI] at hP1
    exact kG s1 y _ _ ep1 H hP1 K (by rw [dJ,if_pos ⟨h1,h2⟩,getD_eq_getElem?_getD,getD_eq_getElem?_getD,ha,hb2];simpa using aj.push hls)
   ·have hlt:decide (Int.ofNat k-Int.ofNat i<3)=false:=decide_eq_false (by rw [hsub h1];exact fun e=>h2 (Int.ofNat_lt.mp e))
    apply mF (b7:=false) (W:=W) (hle:=hle h1) (hlt:=hlt) (a:=0) (b:=0) (ta:=0) (tc:=0) (hE:=rfl) (hP:=hP) (p0:=p0) (m:=m) (kQ:=?k72) ..
    case' k72=>intro n tb s1 y yi _ _ H hP1 K
    rw [bI] at hP1
    exact kG s1 y _ _ _ H hP1 K (by rw [dJ,if_neg (fun x=>h2 x.2)];simpa using hls)
   ·have hlo:decide ((0:Int)<=Int.ofNat k-Int.ofNat i)=false:=decide_eq_false (by show¬((0:Int)<=(k:Int)-(i:Int));lia)
    apply wk (W:=W) (hle:=hlo) (a:=0) (b:=0) (ta:=0) (tc:=0) (hE:=rfl) (hP:=hP) (p0:=p0) (m:=m) (kQ:=?k73) ..
    case' k73=>intro n tb s1 y yi _ _ H hP1 K
    rw [bI] at hP1
    exact kG s1 y _ _ _ H hP1 K (by rw [dJ,if_neg (fun x=>h1 x.1)];simpa using hls)
  refine step _ fun s1 y v1 as1 ep1 zq9 hP1 K1 hl1=>?_
  obtain⟨p',H⟩:=zq9
  have hs1:as1.size<=as.size+1:=by
   rw [hl1.1,hls.1,List.length_append]
   have:=nc fs ss k i
   lia
  refine ih (i+1) y v1 (pre++dJ fs ss k i) as1 ep1 p' s1 (by lia) hl1 (by lia) hP1 _ fun s2 u2 v2 i2 ep2 as2 r h4 h5 h6 h7=>?_
  exact kQ s2 u2 v2 i2 ep2 as2 (H _ _ r) h4 h5 (K1.trans (h6.cast rfl)) (by rw [bz,<-append_assoc];exact h7)
structure EC where
 u:Tok
 v:Value
 k:Nat
 ep:Nat
 ls:Array Value
noncomputable def tI(W:WW)(p3 p5 p6:Pos)(ge:Expr)(gi ga:Value)(gn n4:Env)(f2:List Stmt)(aF c1 c2 ck aM aL aI aC aA aB k:Nat)(tk:Tok)(fv sv:Array Value)(epA epB:Nat)(x:EC):Result×List Obj×ae:=(mV,([(A aL,ah "dict" [aa (pW W) [105] x.u x.v] 1),(A aI,aK "range_iterator" [.int (Int.ofNat x.k) 0,Ym,jv]),(A aC,ab x.ls x.ep),(Y6 c1 aA),(Y6 c2 aB),(jx ck k tk),(Yk aA fv epA),(Yk aB sv epB)]:ae).map (·.2),[])
abbrev EF a:=aK "range_iterator" [Ym,.int (Int.ofNat a) 0,jv]
theorem rE:cm (Vw W) ⟨ay (ct (pW W) aF c1 c2 ck aM aL aI aC),none,none,(sE ge gi ga gn p3 f2 n4 p5 p6),none⟩ [(A aL,eG),(A aI,EF 4),(A aC,ix),(Y6 c1 aA),(Y6 c2 aB),(jx ck k tk),(Yk aA fv epA),(Yk aB sv epB)] (tI W p3 p5 p6 ge gi ga gn n4 f2 aF c1 c2 ck aM aL aI aC aA aB k tk fv sv epA epB) (fun x=>aj x.ls (bz fs ss k 0 4)):=
 dT (C:=ct (pW W) aF c1 c2 ck aM aL aI aC) (fun p0 s hP=>by
  obtain⟨a,ha⟩:∃a,fs[0]? =some a:=⟨_,List.getElem?_eq_getElem (by lia)⟩
  obtain⟨ta,hia⟩:=hfv.2 _ _ ha
  have hls0:aj ⟨[]⟩ []:=⟨rfl,fun i v e=>by simp at e⟩
  have h1:0<=k:=zero_le _
  have hP:az (pW W) [(A aL,eG),(A aI,aK "range_iterator" [Ym,.int (Int.ofNat (3+1)) 0,jv]),(A aC,ix),(Y6 c1 aA),(Y6 c2 aB),(jx ck k tk),(Yk aA fv epA),(Yk aB sv epB)] s:=hP
  have hsub:0<=k->Int.ofNat k-Int.ofNat 0=Int.ofNat (k-0):=fun h=>by show(k:Int)-(0:Int)=((k-0:Nat):Int);lia
  have hle:0<=k->decide ((0:Int)<=Int.ofNat k-Int.ofNat 0)=true:=fun h=>decide_eq_true (by rw [hsub h];exact natCast_nonneg _)
  have step:∀G:Prop,(∀s1 y v1 as1 ep1,br (Yt W) ⟨ct (pW W) aF c1 c2 ck aM aL aI aC,none,none,(sE ge gi ga gn p3 f2 n4 p5 p6),none⟩ p0 s s1->az (pW W) [(A aL,ah "dict" [aa (pW W) [105] y v1] 1),(A aI,aK "range_iterator" [.int (Int.ofNat (0+1)) 0,.int (Int.ofNat 3) 0,jv]),(Yk aC as1 ep1),(Y6 c1 aA),(Y6 c2 aB),(jx ck k tk),(Yk aA fv epA),(Yk aB sv epB)] s1->af [(A aL,eG),(A aI,aK "range_iterator" [Ym,.int (Int.ofNat (3+1)) 0,jv]),(A aC,ix),(Y6 c1 aA),(Y6 c2 aB),(jx ck k tk),(Yk aA fv epA),(Yk aB sv epB)] s s1->aj as1 (dJ fs ss k 0)->G)->G:=by
   intro G kG
   by_cases h2:k-0<3
   ·have hlt:decide (Int.ofNat k-Int.ofNat 0<3)=true:=decide_eq_true (by rw [hsub h1];exact Int.ofNat_lt.mpr h2)
    obtain⟨b,hb2⟩:∃b,ss[k-0]? =some b:=⟨_,List.getElem?_eq_getElem (by lia)⟩
    obtain⟨tc,hib⟩:=hsv.2 _ _ hb2
    apply mE (b7:=true) (W:=W) (hle:=hle h1) (hlt:=hlt) (hfi:=bV (by lia)) (hga:=fm hia) (hfj:=by rw [hsub h1];exact bV (by lia)) (hgb:=by rw [hsub h1];exact fm hib) (hba:=hb a (mem_of_getElem? ha)) (hsz:=by simp) (hE:=rfl) (hP:=hP) (p0:=p0) (m:=3) (uI:=0) (vI:=.none) (kQ:=?k74) ..
    case' k74=>intro n tb s1 y yi tz ep1 _ _ H hP1 K
    rw [bI] at hP1
    exact kG s1 y _ _ ep1 H hP1 K (by rw [dJ,if_pos ⟨h1,h2⟩,getD_eq_getElem?_getD,getD_eq_getElem?_getD,ha,hb2];simpa using aj.push hls0)
   ·have hlt:decide (Int.ofNat k-Int.ofNat 0<3)=false:=decide_eq_false (by rw [hsub h1];exact fun e=>h2 (Int.ofNat_lt.mp e))
    apply mF (b7:=true) (W:=W) (hle:=hle h1) (hlt:=hlt) (a:=0) (b:=0) (ta:=0) (tc:=0) (hE:=rfl) (hP:=hP) (p0:=p0) (m:=3) (uI:=0) (vI:=.none) (kQ:=?k75) ..
    case' k75=>intro n tb s1 y yi _ _ H hP1 K
    rw [bI] at hP1
    exact kG s1 y _ _ _ H hP1 K (by rw [dJ,if_neg (fun x=>h2 x.2)];simpa using hls0)
  refine step _ fun s1 y v1 as1 ep1 zq10 hP1 K1 hl1=>?_
  obtain⟨p',H⟩:=zq10
  have hs1:as1.size<=1:=by rw [hl1.1];exact nc fs ss k 0
  refine zT W p3 p5 p6 ge gi ga gn n4 f2 aF c1 c2 ck aM aL aI aC aA aB k tk fv sv epA epB fs ss hfv hsv hf4 hs3 hb hk 3 1 y v1 (dJ fs ss k 0) as1 ep1 p' s1 (by lia) hl1 (by lia) hP1 _ fun s2 u2 v2 i2 ep2 as2 r h4 h5 h6 h7=>?_
  exact⟨⟨u2,v2,i2,ep2,as2⟩,s2,H _ _ r,h4,K1.trans (h6.cast rfl),⟨h5.1,h5.2.1,h5.2.2.1,h5.2.2.2.1,h5.2.2.2.2.1,h5.2.2.2.2.2.1,h5.2.2.2.2.2.2.1,h5.2.2.2.2.2.2.2.1,trivial⟩,trivial,(fun y hy=>nomatch hy),nodup_nil,h7⟩) fun p s hP=>by
  have hP3:az (pW W) [(A aL,eG),(A aI,EF 4),(A aC,ix)] s:=az.mid (E1:=[]) (E3:=[(Y6 c1 aA),(Y6 c2 aB),(jx ck k tk),(Yk aA fv epA),(Yk aB sv epB)]) hP
  apply Bu (W:=W) (p0:=p) (hE:=rfl) (hP:=hP3) (kQ:=?k76) ..
  case' k76=>intro n tb s' _ _ H hP' K
  obtain⟨hr,hkp⟩:=az.mid_back (E1:=[]) (E3:=[(Y6 c1 aA),(Y6 c2 aB),(jx ck k tk),(Yk aA fv epA),(Yk aB sv epB)]) hP hP'.has K
  exact⟨s',H,⟨hP'.rdy,hr,hP.nd,hP.lo⟩,hkp⟩
end
abbrev P6 a b:=(Rf (.builtin "sum" ⟨[.ref (Y2 a b)],[]⟩:Code))/\(Rf (none:Option Value))/\(Rf (none:Option Value))/\(Rf (none:Option Value))
section
variable(W:WW)(p0:Pos)(vE:FE)(aF c1 c2 ck aL aI aC:Nat)
include W p0 vE aF c1 c2 ck aL aI aC
theorem EP(aA aB k m:Nat)(vc:Option Value)(fv sv as:Array Value)(epA epB epC:Nat)(fs ss:List Int)(s:Shared)(hfv:aj fv fs)(hsv:aj sv ss)(hf4:fs.length=4)(hs3:ss.length=3)(hb:∀a∈fs,Builtin.Int.intBits a<=64)(hk:k<=100)(hfit:dN 0 (bz fs ss k 0 4))(hsz:as.size<=1000)(E:WW->ae)(hE:E=fun W=>[(A aL,eG),(qQ aI k m),(Yk aC as epC),(Y6 c1 aA),(Y6 c2 aB),(i5 ck vc),(Yk aA fv epA),(Yk aB sv epB)])(hP:az (pW W) (E W) s){Q:Prop}(kQ:∀(n tb:Nat) (s':Shared) (yc:Option Value) (tz:Tok) (vz:Int) (ep:Nat),Hn s n->Ht s tb->vz=dP 0 (bz fs ss k 0 4)->br (Yt W) (⟨gr (pW W) aF c1 c2 ck aL aI aC,none,none,(c6 vE),none⟩) p0 s s'->az (pW W) ([(A aL,eG),(A aI,aK "range_iterator" [qS k,.int (Int.ofNat (Nat.succ m)-1) 0,jv]),(A aC,ab (as.push (bY vz tz)) ep),(Y6 c1 aA),(Y6 c2 aB),(i5 ck yc),(Yk aA fv epA),(Yk aB sv epB)]) s'->af (E W) s s'->Q):Q:=by
 obtain⟨n,tb,gb,hn,ht,hg⟩:=hP.nt
 refine bT hE hP hn ht hg (fun E W Z hs=>ch (ec (Vw W) 8 [(b9 2)] [] [kk (Vw W) (⟨ay (ct (pW W) aF c1 c2 ck aL (bJ n 3) (dD n) (bJ n 2)),none,none,(.compLoop (wu (pW W)) 0 (Yp aI) (Yp aC) (lK (pW W) aF c1 c2 ck aL),⟨164,51,164,59⟩)::(c6 vE),none⟩) ([(db n 3,eG),(db n 1,EF 4),(mD n 2),(Y6 c1 aA),(Y6 c2 aB),(A ck,⟨Yu,none,.cell (some (kh k tb)),⟨[]⟩⟩),(Yk aA fv epA),(Yk aB sv epB)]) [11,9,10,3,4,5,6,7] 8 8 (tI W ⟨164,51,164,59⟩ vE.p5 vE.p6 (wu (pW W)) (Yp aI) (Yp aC) (lK (pW W) aF c1 c2 ck aL) vE.n4 vE.f2 aF c1 c2 ck aL (bJ n 3) (dD n) (bJ n 2) aA aB k (TK tb) fv sv epA epB) (fun x=>aj x.ls (bz fs ss k 0 4)),oG 10 8 8] []) 116 (⟨gr (pW W) aF c1 c2 ck aL aI aC,none,none,(c6 vE),none⟩) (p0) (a8 (gr (pW W) aF c1 c2 ck aL aI aC)) [] hs (cN E n tb gb) (kZ [0,1,2,3,4,5,6,7] Z)) (fun E W Z hs=>ad (lE E) (A n) gb (sl hs 0 26) ((Rf (⟨ay (ct (pW W) aF c1 c2 ck aL (bJ n 3) (dD n) (bJ n 2)),none,none,(.compLoop (wu (pW W)) 0 (Yp aI) (Yp aC) (lK (pW W) aF c1 c2 ck aL),⟨164,51,164,59⟩)::(c6 vE),none⟩:Ctx))/\(Rf (ax ([(db n 3,eG),(db n 1,EF 4),(mD n 2),(Y6 c1 aA),(Y6 c2 aB),(A ck,⟨Yu,none,.cell (some (kh k tb)),⟨[]⟩⟩),(Yk aA fv epA),(Yk aB sv epB)])))/\Yc/\Yc/\∀(x0:EC) (n0 tb0 gb0:Nat),aj x0.ls (bz fs ss k 0 4)->Yc/\ad [(A aL),(A aI),(A aC),(A c1),(A c2),(A ck),(A aA),(A aB),(Y2 n 0),(Y2 n 1),(Y2 n 2),(Y2 n 3)] (A n0) gb0 (sl hs 27 3) (((P6 n 2)/\Yc/\(Rf (ab (x0.ls) x0.ep:Obj))/\(∃xs,aj (x0.ls) xs/\dN 0 xs))/\(Rf (ax ([((Y2 n 2),(ab (x0.ls) x0.ep:Obj))])))/\Yc/\Yc/\∀(x1:cA) (n1 tb1 gb1:Nat),True->Yc/\ad [(A aL),(A aI),(A aC),(A c1),(A c2),(A ck),(A aA),(A aB),(Y2 n 0),(Y2 n 1),(Y2 n 2),(Y2 n 3)] (A n1) gb1 (sl hs 31 1) (((Rf (.builtin "list.append" ⟨[(Yp aC),(.int (mP x0.ls) x1.t)],[]⟩:Code))/\(rJ as))/\ad [(A aL),(A aI),(A aC),(A c1),(A c2),(A ck),(A aA),(A aB),(Y2 n 0),(Y2 n 1),(Y2 n 2),(Y2 n 3)] (A n1) gb1 (sl hs 33 1) (Z (.again (gr (pW W) aF c1 c2 ck aL aI aC)) (Y2 n1 0) (Y8 tb1 0) true (ax ([((A aL),⟨(.type "dict"),none,(.dict ⟨[]⟩ 0),⟨[]⟩⟩),((A aI),⟨Am,none,(.fields ⟨[(.int (Int.ofNat k+Int.ofNat 1) 0),(.int (Int.ofNat (m.add 1)-1) 0),(.int (Int.ofNat 1) 0)]⟩),⟨[]⟩⟩),(A aC,Obj.mapSeq (·.push (Value.int (mP x0.ls) (cA.mk x1.t).t)) (ab as epC)),((A c1),⟨(.type "cell"),none,(.cell (some (Yp aA))),⟨[]⟩⟩),((A c2),⟨(.type "cell"),none,(.cell (some (Yp aB))),⟨[]⟩⟩),((A ck),⟨(.type "cell"),none,(.cell (some (kh k tb))),⟨[]⟩⟩),(rA aA fv epA),(rA aB sv epB)]))))))) (fun _=>(gC [90002,6,6,40000,100009,10,1000,30012,7001,3,4000,3,3000])) (iX (by kernel_rfl)) rfl ⟨fun _=>bx,trivial⟩ ⟨ja rfl (rE W _ _ _ _ _ _ _ _ _ _ _ _ _ _ _ _ _ _ _ _ _ _ _ _ _ fs ss hfv hsv hf4 hs3 hb hk),mG rfl,trivial⟩ rfl fun hs=>?_
 refine ag ⟨rfl,rfl,rfl,rfl,fun x0 n0 tb0 gb0 hx0=>⟨rfl,?_⟩⟩ _
 refine ag ⟨⟨⟨rfl,rfl,rfl,rfl⟩,rfl,rfl,⟨_,hx0,hfit⟩⟩,rfl,rfl,rfl,fun x1 n1 tb1 gb1 hx1=>⟨rfl,?_⟩⟩ _
 refine rI ⟨rfl,⟨rfl,rfl,rfl⟩,hsz⟩ ?_
 exact rF fun s' r _ h3 h4 h5=>kQ n tb s' _ _ _ _ hn ht (pB hx0) (am rfl r) ⟨h4,ai h3,(nx hE hP).nd,(nx hE hP).lo⟩ h5
theorem E8(k:Nat)(as:Array Value)(epC:Nat)(s:Shared)(E:WW->ae)(hE:E=fun W=>[(A aL,eG),(kA aI k),(Yk aC as epC)])(hP:az (pW W) (E W) s){Q:Prop}(kQ:∀(n tb:Nat) (s':Shared),Hn s n->Ht s tb->Runs (Yt W) (⟨gr (pW W) aF c1 c2 ck aL aI aC,none,none,(c6 vE),none⟩) p0 ((Yt W).den (gr (pW W) aF c1 c2 ck aL aI aC)) [] s ft s'->cL (pW W) s'->cG ([(A aL,eG),(kA aI k),(Yk aC as epC)]) s'.heap->af (E W) s s'->Q):Q:=by
 obtain⟨n,tb,gb,hn,ht,hg⟩:=hP.nt
 refine bT hE hP hn ht hg (fun E W Z hs=>ch (oX W 3) 55 (⟨gr (pW W) aF c1 c2 ck aL aI aC,none,none,(c6 vE),none⟩) (p0) (a8 (gr (pW W) aF c1 c2 ck aL aI aC)) [] hs (cN E n tb gb) (lY Z)) (fun E W Z hs=>ad (lE E) (A n) gb (sl hs 0 6) (Z oW (Y2 n 2) (Y8 tb 0) true (ax ([(A aL,eG),(kA aI k),(Yk aC as epC)])))) (fun _=>[2,2,2,2,2,5]) (oU (by kernel_rfl)) rfl trivial (by exact trivial) rfl fun hs=>?_
 exact rF fun s' r _ h3 h4 h5=>kQ n tb s' hn ht (by rw [bG];exact r) h4 (ai h3) h5
theorem Fb(m:Nat)(s:Shared)(E:WW->ae)(hE:E=fun W=>[(A aL,eG),(xU aI m),(A aC,ix)])(hP:az (pW W) (E W) s){Q:Prop}(kQ:∀(n tb:Nat) (s':Shared),Hn s n->Ht s tb->cp (Yt W) (⟨ay (gr (pW W) aF c1 c2 ck aL aI aC),none,none,(c6 vE),none⟩) (gr (pW W) aF c1 c2 ck aL aI aC) p0 s s'->az (pW W) ([(A aL,eG),(xU aI m),(A aC,ix)]) s'->af (E W) s s'->Q):Q:=by
 obtain⟨n,tb,gb,hn,ht,hg⟩:=hP.nt
 refine bT hE hP hn ht hg (fun E W Z hs=>ch (oX W 3) 52 (⟨ay (gr (pW W) aF c1 c2 ck aL aI aC),none,none,(c6 vE),none⟩) (p0) (a8 (ay (gr (pW W) aF c1 c2 ck aL aI aC))) [] hs (cN E n tb gb) (lY Z)) (fun E W Z hs=>ad (lE E) (A n) gb (Aq hs W) (Z (.again (gr (pW W) aF c1 c2 ck aL aI aC)) (Y2 n 0) (Y8 tb 0) true (ax ([(A aL,eG),(xU aI m),(A aC,ix)])))) Ad (pc (by kernel_rfl)) rfl trivial (by exact trivial) rfl fun hs=>?_
 exact rF fun s' r _ h3 h4 h5=>kQ n tb s' hn ht (cf r) ⟨h4,ai h3,(nx hE hP).nd,(nx hE hP).lo⟩ h5
end
noncomputable def cO(fs ss:List Int):Nat->Nat->List Int
 |_,0=>[]
 |k,m+1=>dP 0 (bz fs ss k 0 4)::cO fs ss (k+1) m
section
variable(W:WW)(vE:FE)(aF c1 c2 ck aL aI aC aA aB:Nat)(fv sv:Array Value)(epA epB:Nat)(fs ss:List Int)(hfv:aj fv fs)(hsv:aj sv ss)(hf4:fs.length=4)(hs3:ss.length=3)(hb:∀a∈fs,Builtin.Int.intBits a<=64)(hfit:∀k,dN 0 (bz fs ss k 0 4))
include W vE aF c1 c2 ck aL aI aC aA aB fv sv epA epB fs ss hfv hsv hf4 hs3 hb hfit
theorem Cz:∀(m k:Nat) (vc:Option Value) (pre:List Int) (as:Array Value) (ep:Nat) (p0:Pos) (s:Shared),k+m<=100->aj as pre->as.size+m<=1000->az (pW W) [(A aL,eG),(Eb aI k m),(Yk aC as ep),(Y6 c1 aA),(Y6 c2 aB),(i5 ck vc),(Yk aA fv epA),(Yk aB sv epB)] s->
  ∀Q:Prop,(∀s' vc' k' ep' as',Runs (Yt W) ⟨gr (pW W) aF c1 c2 ck aL aI aC,none,none,(c6 vE),none⟩ p0 ((Yt W).den (gr (pW W) aF c1 c2 ck aL aI aC)) [] s ft s'->cL (pW W) s'->cG [(A aL,eG),(kA aI k'),(Yk aC as' ep'),(Y6 c1 aA),(Y6 c2 aB),(i5 ck vc'),(Yk aA fv epA),(Yk aB sv epB)] s'.heap->af [(A aL,eG),(Eb aI k m),(Yk aC as ep),(Y6 c1 aA),(Y6 c2 aB),(i5 ck vc),(Yk aA fv epA),(Yk aB sv epB)] s s'->aj as' (pre++cO fs ss k m)->Q)->Q:=by
 intro m0
 induction m0 with
 |zero=>
  intro k vc pre as ep p0 s hkm hls hsz hP Q kQ
  have hP2:az (pW W) [(A aL,eG),(kA aI k),(Yk aC as ep)] s:=az.mid (E1:=[]) (E3:=[(Y6 c1 aA),(Y6 c2 aB),(i5 ck vc),(Yk aA fv epA),(Yk aB sv epB)]) hP
  apply E8 (W:=W) (hE:=rfl) (hP:=hP2) (p0:=p0) (kQ:=?k77) ..
  case' k77=>intro n tb s' _ _ r h1 h2 h3
  obtain⟨hr,hkp⟩:=az.mid_back (E1:=[]) (E3:=[(Y6 c1 aA),(Y6 c2 aB),(i5 ck vc),(Yk aA fv epA),(Yk aB sv epB)]) hP h2 h3
  exact kQ s' vc k ep as r h1 hr hkp (by simpa [cO] using hls)
 |succ m ih=>
  intro k vc pre as ep p0 s hkm hls hsz hP Q kQ
  have hP:az (pW W) [(A aL,eG),(A aI,aK "range_iterator" [Ye k,qS m,jv]),(Yk aC as ep),(Y6 c1 aA),(Y6 c2 aB),(i5 ck vc),(Yk aA fv epA),(Yk aB sv epB)] s:=hP
  apply EP (W:=W) (hfv:=hfv) (hsv:=hsv) (hf4:=hf4) (hs3:=hs3) (hb:=hb) (hk:=by lia) (hfit:=hfit k) (hsz:=by lia) (hE:=rfl) (hP:=hP) (p0:=p0) (m:=m) (kQ:=?k79) ..
  case' k79=>intro n tb s1 yc tz vz ep1 _ _ hz zp78 hP1 K1
  obtain⟨p',H⟩:=zp78
  rw [bI] at hP1
  subst hz
  refine ih (k+1) yc (pre++[dP 0 (bz fs ss k 0 4)]) _ ep1 p' s1 (by lia) hls.push (by simp;lia) hP1 _ fun s2 yc2 k2 ep2 as2 r h4 h5 h6 h7=>?_
  exact kQ s2 yc2 k2 ep2 as2 (H _ _ r) h4 h5 (K1.trans (h6.cast rfl)) (by rw [cO];simpa using h7)
structure F9 where
 vc:Option Value
 k:Nat
 ep:Nat
 ls:Array Value
noncomputable def xc(W:WW)(vE:FE)(aF c1 c2 ck aL aI aC aA aB:Nat)(fv sv:Array Value)(epA epB:Nat)(x:F9):Result×List Obj×ae:=(mV,([(A aL,eG),(A aI,aK "range_iterator" [.int (Int.ofNat x.k) 0,Ym,jv]),(A aC,ab x.ls x.ep),(Y6 c1 aA),(Y6 c2 aB),(A ck,⟨Yu,none,.cell x.vc,⟨[]⟩⟩),(Yk aA fv epA),(Yk aB sv epB)]:ae).map (·.2),[])
theorem vZ(vc:Option Value):cm (Vw W) ⟨ay (gr (pW W) aF c1 c2 ck aL aI aC),none,none,(c6 vE),none⟩ [(A aL,eG),(A aI,EF 6),(A aC,ix),(Y6 c1 aA),(Y6 c2 aB),(i5 ck vc),(Yk aA fv epA),(Yk aB sv epB)] (xc W vE aF c1 c2 ck aL aI aC aA aB fv sv epA epB) (fun x=>aj x.ls (cO fs ss 0 6)):=
 dT (C:=gr (pW W) aF c1 c2 ck aL aI aC) (fun p0 s hP=>by
  refine Cz W vE aF c1 c2 ck aL aI aC aA aB fv sv epA epB fs ss hfv hsv hf4 hs3 hb hfit 6 0 vc [] ⟨[]⟩ 0 p0 s (by lia) ⟨rfl,fun i v e=>by simp at e⟩ (by simp) hP _ fun s2 yc2 k2 ep2 as2 r h4 h5 h6 h7=>?_
  exact⟨⟨yc2,k2,ep2,as2⟩,s2,r,h4,h6,⟨h5.1,h5.2.1,h5.2.2.1,h5.2.2.2.1,h5.2.2.2.2.1,h5.2.2.2.2.2.1,h5.2.2.2.2.2.2.1,h5.2.2.2.2.2.2.2.1,trivial⟩,trivial,(fun y hy=>nomatch hy),nodup_nil,h7⟩) fun p s hP=>by
  have hP3:az (pW W) [(A aL,eG),(A aI,EF 6),(A aC,ix)] s:=az.mid (E1:=[]) (E3:=[(Y6 c1 aA),(Y6 c2 aB),(i5 ck vc),(Yk aA fv epA),(Yk aB sv epB)]) hP
  apply Fb (W:=W) (p0:=p) (hE:=rfl) (hP:=hP3) (kQ:=?k80) ..
  case' k80=>intro n tb s' _ _ H hP' K
  obtain⟨hr,hkp⟩:=az.mid_back (E1:=[]) (E3:=[(Y6 c1 aA),(Y6 c2 aB),(i5 ck vc),(Yk aA fv epA),(Yk aB sv epB)]) hP hP'.has K
  exact⟨s',H,⟨hP'.rdy,hr,hP.nd,hP.lo⟩,hkp⟩
end
noncomputable def cU(items:Array Value):List Int:=match items with
 |⟨l⟩=>l.map rq
abbrev me a b:=cU (fp a b)
noncomputable def Ej(W:WW)(vE:FE)(aF c1 c2:Nat)(iL iI iC i1 i2 iK iA iB mm ro:Nat):bL:=nI (X:=F9) (Vw W) (fun st=>aj (fp st iA) (me st iA)/\aj (fp st iB) (me st iB)/\List.length (me st iA)=4/\List.length (me st iB)=3/\(∀a∈(me st iA),Builtin.Int.intBits a<=64)/\(∀k,dN 0 (bz (me st iA) (me st iB) k 0 4))) (fun st=>⟨ay (gr (pW W) aF c1 c2 (b8 st iK) (b8 st iL) (b8 st iI) (b8 st iC)),none,none,(c6 vE),none⟩) (fun st=>[(A (b8 st iL),eG),(A (b8 st iI),EF 6),(A (b8 st iC),ix),(A c1,⟨Yu,none,.cell (some (.ref (A (b8 st iA)))),⟨[]⟩⟩),(A c2,⟨Yu,none,.cell (some (.ref (A (b8 st iB)))),⟨[]⟩⟩),(A (b8 st iK),⟨Yu,none,.cell none,⟨[]⟩⟩),(tF st iA),(tF st iB)]) [iL,iI,iC,i1,i2,iK,iA,iB] mm ro (fun st=>xc W vE aF c1 c2 (b8 st iK) (b8 st iL) (b8 st iI) (b8 st iC) (b8 st iA) (b8 st iB) (fp st iA) (fp st iB) (fc st iA) (fc st iB)) (fun st x=>aj x.ls (cO (me st iA) (me st iB) 0 6))
theorem ym(W:WW)(vE:FE)(aF c1 c2:Nat){iL iI iC i1 i2 iK iA iB:Nat}{V:XV}(hk:V.kt=eD (pW W)):bX V (model pw (Vw W)) (Ej W vE aF c1 c2 iL iI iC i1 i2 iK iA iB V.mm V.ro):=
 fn hk fun st h=>(vZ W vE aF c1 c2 _ _ _ _ _ _ _ _ _ _ _ _ h.1 h.2.1 h.2.2.1 h.2.2.2.1 h.2.2.2.2.1 h.2.2.2.2.2 none).toF
structure vk where
 a:Nat
 r1:Addr
 r2:Addr
 pts:Array Value
 ep:Nat
 fz:List (Nat×Obj)
noncomputable def lF(vs:Array Value)(epV:Nat)(x:vk):Result×List Obj×ae:=(.ok (.ret (.ref (A x.a))),[bB (cC x.r1),bB (cE x.r2),ab vs epV],[(A x.a,ab x.pts x.ep)])
theorem uo(W:WW)(p4 p5 p6:Pos)(te2:Expr)(i2:Value)(bo2 e2:List Stmt)(n3 n4:Env)(f2:List Stmt)(aV B:Nat)(tB:Tok)(t140 t147:List Value)(vs:Array Value)(epV:Nat)(vals:List Int)(hvs:aj vs vals)(hlen:vals.length=3\/vals.length=4\/vals.length=6)(hB:B=2\/B=3)(hL:∀v∈vals,v.natAbs<2^20)(h0:∃v,vals[0]? =some v/\v≠0)(htab:t140=[]/\t147=[]\/∃r1 r2,t140=(jG r1)/\t147=(jR r2)):
  cv (Vw W) ⟨HF aV B tB,none,none,(Hs te2 i2 bo2 e2 n3 p4 f2 n4 p5 p6),none⟩ (Ec t140 t147 aV vs epV) [] (lF vs epV) (fun x=>x.fz) (fun x=>aw x.pts x.fz (aZ B 0 vals)/\x.pts.toList.Nodup):=by
 intro p0 s hP _
 have key:∃(n tb:Nat) (s':Shared) (x0:rs),s.heap.objs.size=A n/\s.toks=TK tb/\(aw x0.pts x0.fz (aZ B 0 vals)/\x0.pts.toList.Nodup)/\Runs (Yt W) (⟨HF aV B tB,none,none,(Hs te2 i2 bo2 e2 n3 p4 f2 n4 p5 p6),none⟩) p0 ((Yt W).den (.call (.ref 219) ⟨[fy aV,.int (Yh B) tB],[]⟩)) [] s (.ret (.ok (.ret (dV n 2)))) s'/\cL (pW W) s'/\cG ((Jc x0 aV vs epV n)) s'.heap/\af (Ec t140 t147 aV vs epV) s s'/\(∀x∈(([]++x0.fz):ae),s'.heap.get? x.1=some x.2/\x.1∉((Jc x0 aV vs epV n):ae).map (·.1)/\s.heap.objs.size<=x.1):=by
  rcases hlen with h|h|h
  ·exact no (hz:=(.inl ⟨rfl,rfl⟩)) W p0 p4 p5 p6 te2 i2 bo2 e2 n3 n4 f2 aV B tB t140 t147 vs epV vals s hvs h hB hL h0 htab _ rfl hP
  ·exact no (hz:=(.inr (.inl ⟨rfl,rfl⟩))) W p0 p4 p5 p6 te2 i2 bo2 e2 n3 n4 f2 aV B tB t140 t147 vs epV vals s hvs h hB hL h0 htab _ rfl hP
  ·exact no (hz:=(.inr (.inr ⟨rfl,rfl⟩))) W p0 p4 p5 p6 te2 i2 bo2 e2 n3 n4 f2 aV B tB t140 t147 vs epV vals s hvs h hB hL h0 htab _ rfl hP
 refine gQ fun Q zQ=>?_
 obtain⟨n,tb,s',x0,hn,ht,hc,r,h1,h2,h3,h4⟩:=key
 refine zQ ?_
 refine⟨⟨Nat.add n 2,x0.r1,x0.r2,x0.pts,x0.ep,x0.fz⟩,s',r,h1,h3,⟨h2.1,h2.2.1,h2.2.2.1,trivial⟩,⟨h2.2.2.2.1,trivial⟩,fun y hy=>?_,by simp [lF],hc,fun y hy=>⟨(h4 y hy).1,(h4 y hy).2.2,fun hm=>(h4 y hy).2.1 ?_⟩⟩
 ·have:y=(db n 2,ab x0.pts x0.ep):=by simpa [lF] using hy
  subst this
  rw [hn];show n+245<=n+2+245;lia
 ·have:y.1=A (bJ n 2):=by simpa [lF] using hm
  have e:A (bJ n 2)=Nat.add (A n) 2:=by show n+2+245=n+245+2;lia
  rw [this,e];simp
def cJ(ps es:List cw):Prop:=∃q0 ql,ps=q0::ql/\eF q0 ql es
structure qC where
 a:Nat
 eds:Array Value
 ep:Nat
 fz:List (Nat×Obj)
 es:List (Int×Int)
noncomputable def lr(pts:Array Value)(epP:Nat)(x:qC):Result×List Obj×ae:=(.ok (.ret (.ref (A x.a))),[ab pts epP],[(A x.a,ab x.eds x.ep)])
theorem vV(W:WW)(vC:FC)(aP:Nat)(pts:Array Value)(epP:Nat)(ps:List cw)(fz:List df)(hps:aw pts fz ps)(h2:2<=ps.length)(h6:ps.length<=6)(hnd:pts.toList.Nodup)(hok:eP ps):
  cv (Vw W) ⟨HJ aP 231,none,none,(Eo vC),none⟩ [(Yk aP pts epP)] fz (lr pts epP) (fun x=>x.fz) (fun x=>aw x.eds x.fz x.es/\cJ ps x.es/\x.eds.size<=50):=by
 intro p0 s hP hfz
 obtain⟨q0,ql,rfl⟩:∃q0 ql,ps=q0::ql:=by cases ps with|nil=>simp at h2|cons a l=>exact⟨a,l,rfl⟩
 have hl:ql≠[]:=by intro e;subst e;simp at h2
 refine IG W p0 vC aP pts epP q0 ql fz s hps hl (by simp at h6;lia) hnd hok _ rfl hP hfz fun n tb s' x0 hn ht hc r h1 h2' h3 h4=>?_
 refine⟨⟨Nat.add n 5,x0.eds,x0.epE,x0.fz,x0.es⟩,s',r,h1,h3,⟨h2'.1,trivial⟩,⟨h2'.2.1,trivial⟩,fun y hy=>?_,by simp [lr],⟨hc.1,⟨_,_,rfl,hc.2.1⟩,hc.2.2⟩,fun y hy=>⟨(h4 y hy).1,(h4 y hy).2.2,fun hm=>(h4 y hy).2.1 ?_⟩⟩
 ·have:y=(db n 5,ab x0.eds x0.epE):=by simpa [lr] using hy
  subst this
  rw [hn];show n+245<=n+5+245;lia
 ·have:y.1=A (bJ n 5):=by simpa [lr] using hm
  have e:A (bJ n 5)=Nat.add (A n) 5:=by show n+5+245=n+245+5;lia
  rw [this,e];simp
def jB(ps es:List cw):Prop:=∃p0 pl,ps.head? =some p0/\ps.getLast? =some pl/\hJ ps p0.1 p0.2 es/\gH p0.1 es=pl.1/\gJ p0.2 es=pl.2/\oN es/\es≠[]
theorem uj(W:WW)(vC:FC)(aP aE:Nat)(pts eds:Array Value)(ep1 ep0:Nat)(ps es:List (Int×Int))(fzP fzE:List (Nat×Obj))(hps:aw pts fzP ps)(hes:aw eds fzE es)(hdis:eR fzP fzE)(h2:2<=ps.length)(hnd:pts.toList.Nodup)(hb:jB ps es):
  bW (Vw W) ⟨.call (.ref 238) ⟨[.ref (A aP),.ref (A aE)],[]⟩,none,none,[(.forLoop vC.te vC.i1 vC.bo1 vC.e1 vC.n3,vC.p7),(.func vC.f2 vC.n4,vC.p5),(.builtin "claim.caller" {},vC.p6)],none⟩ [(A aP,ab pts ep1),(A aE,ab eds ep0)] (fzP++fzE) (fun _:Unit=>(.ok (.ret (.bool true)),[ab pts ep1,ab eds ep0],[])) (fun _=>True):=by
 intro p0 s hP hfz
 refine gQ fun Q zQ=>?_
 obtain⟨q0,ql,hq0,hql,hbel,hs1,hs2,hbits,hen⟩:=hb
 have hsz:=hps.size
 have hh0:ps[0]? =some q0:=by rw [<-List.head?_eq_getElem?];exact hq0
 have hhl:ps[ps.length-1]? =some ql:=by rw [<-List.getLast?_eq_getElem?];exact hql
 obtain⟨aT,tx,ty,et,hT,hTm⟩:=hps.some hh0
 obtain⟨aU,tz,tw,eu,hU,hUm⟩:=hps.some hhl
 refine zQ ?_
 have hT:pts[0]? =some (.ref (A aT)):=hT
 have hU:pts[ps.length-1]? =some (.ref (A aU)):=hU
 have hne:A aT≠A aU:=by
  intro e
  have e9:pts.toList[0]? =some (.ref (A aT)):=by simpa using hT
  have e2:pts.toList[ps.length-1]? =some (.ref (A aT)):=by rw [e];simpa using hU
  have:=(getElem?_inj (i:=0) (j:=ps.length-1) (by simp;lia) hnd).mp (e9.trans e2.symm)
  lia
 have hP':=az.addL (T:=[(A aT,a9 [.int q0.1 tx,.int q0.2 ty] et),(A aU,a9 [.int ql.1 tz,.int ql.2 tw] eu)]) hP hfz (fun x hx=>by
  rcases List.mem_cons.mp hx with rfl|hx
  ·exact mem_append_left _ hTm
  ·rw [List.mem_singleton.mp hx];exact mem_append_left _ hUm) (fun x hx=>by
  rcases List.mem_cons.mp hx with rfl|hx
  ·show 245<=aT+245;lia
  ·rw [List.mem_singleton.mp hx];show 245<=aU+245;lia) (by simp;exact fun e=>hne (by rw [e]))
 have hfz':cF ((fzP++fzE).filter fun x=> !(x.1==A aT)&& !(x.1==A aU)) ([(A aP,ab pts ep1),(A aE,ab eds ep0)]++[(A aT,a9 [.int q0.1 tx,.int q0.2 ty] et),(A aU,a9 [.int ql.1 tz,.int ql.2 tw] eu)]) s:=by
  intro x hx
  obtain⟨hx,hb⟩:=List.mem_filter.mp hx
  simp only [Bool.and_eq_true,Bool.not_eq_true',beq_eq_false_iff_ne] at hb
  refine⟨(hfz x hx).1,fun hm=>?_⟩
  rw [map_append] at hm
  rcases List.mem_append.mp hm with hm|hm
  ·exact(hfz x hx).2 hm
  ·simp only [map_cons,map_nil,List.mem_cons,List.not_mem_nil,or_false] at hm
   rcases hm with e|e
   ·exact hb.1 e
   ·exact hb.2 e
 have hmem:∀x∈fzP++fzE,x∈((fzP++fzE).filter fun x=> !(x.1==A aT)&& !(x.1==A aU))++[(A aT,a9 [.int q0.1 tx,.int q0.2 ty] et),(A aU,a9 [.int ql.1 tz,.int ql.2 tw] eu)]:=by
  intro x hx
  by_cases e9:x.1=A aT
  ·have a1:=(hfz x hx).1
   have a2:=(hfz _ (mem_append_left _ hTm)).1
   rw [e9,a2] at a1
   have:x=(A aT,a9 [.int q0.1 tx,.int q0.2 ty] et):=Prod.ext e9 (Option.some.inj a1).symm
   rw [this];exact mem_append_right _ (mem_cons_self ..)
  ·by_cases e2:x.1=A aU
   ·have a1:=(hfz x hx).1
    have a2:=(hfz _ (mem_append_left _ hUm)).1
    rw [e2,a2] at a1
    have:x=(A aU,a9 [.int ql.1 tz,.int ql.2 tw] eu):=Prod.ext e2 (Option.some.inj a1).symm
    rw [this];exact mem_append_right _ (mem_cons_of_mem _ (mem_cons_self ..))
   ·exact mem_append_left _ (List.mem_filter.mpr ⟨hx,by simp [e9,e2]⟩)
 apply IX (W:=W) (fzP:=fzP) (fzE:=fzE) (ps:=ps) (es:=es) (p0:=p0) (hP:=hP') (h0:=hT) (hl:=by rw [hsz];exact hU) (hps:=hps) (hes:=hes) (hdis:=hdis) (hb:=hbits) (hnb:=hbel) (hpn:=by intro e;subst e;simp at h2) (hen:=hen) (hmem:=hmem) (hend:=by rw [hs1,hs2];simp) (hfz:=hfz') (kQ:=?k81) ..
 case' k81=>intro n tb s' _ _ r h1 h2' h3
 exact⟨(),s',r,h1,af.cutL h3 ⟨(hfz _ (mem_append_left _ hTm)).1,(hfz _ (mem_append_left _ hUm)).1,trivial⟩ ⟨h2'.2.2.1,h2'.2.2.2.1,trivial⟩,⟨h2'.1,h2'.2.1,trivial⟩,trivial,(fun y hy=>nomatch hy),nodup_nil,trivial⟩
noncomputable def sr{X:Type}(w':World)(pre:St->Prop)(G:St->Ctx)(E:St->ae)(is:List Nat)(mm ro:Nat)(out:St->X->Result×List Obj×ae)(fo:X->ae)(cond:St->X->Prop):bL:=fun Γ p c st K=>pre st/\Γ=G st/\tQ (E st) is mm ro (out st) fo (cond st) st K
theorem lL{X:Type}{w':World}{pre:St->Prop}{G:St->Ctx}{E:St->ae}{is:List Nat}{V:XV}{out:St->X->Result×List Obj×ae}{fo:X->ae}{cond:St->X->Prop}(hk:V.kt=eD w'.params)(hc:∀st,pre st->∃fz,(∀x∈fz,x∈st.fz)/\cv w' (G st) (E st) fz (out st) fo (cond st)):bX V (model pw w') (sr w' pre G E is V.mm V.ro out fo cond):=by
 intro h0 d os Γ p c st K s H hΓ R
 obtain⟨h1,h2,H⟩:=H
 subst hΓ
 obtain⟨fz,hm,hc⟩:=hc st h1
 rw [<-h2] at hc
 exact kR hk (fun hP hf=>hc p s hP fun x hx=>hf x (mem_append_right _ (hm x hx))) H R
theorem bW.toD{X:Type}{w':World}{G:Ctx}{E:ae}{fz:List (Nat×Obj)}{out:X->Result×List Obj×ae}{cond:X->Prop}(h:bW w' G E fz out cond):cv w' G E fz out (fun _=>[]) cond:=by
 intro p s hP hf
 refine gQ fun Q zQ=>?_
 obtain⟨x,s',r,a,b,c,d,e,f,g⟩:=h p s hP hf
 refine zQ ?_
 exact⟨x,s',r,a,b,c,d,e,f,g,fun y hy=>nomatch hy⟩
noncomputable def DS(W:WW)(vC:FC)(ps:List cw)(iP mm ro:Nat):bL:=
 sr (X:=qC) (Vw W) (fun st=>aw (fp st iP) st.fz ps/\(fp st iP).toList.Nodup) (fun st=>⟨.call (.ref 231) ⟨[.ref (A (b8 st iP))],[]⟩,none,none,(Eo vC),none⟩) (fun st=>[(tF st iP)]) [iP] mm ro (fun st=>lr (fp st iP) (fc st iP)) (fun x=>x.fz) (fun st x=>aw x.eds x.fz x.es/\cJ ps x.es/\x.eds.size<=50)
theorem yU(W:WW)(vC:FC)(ps:List (Int×Int)){iP:Nat}{V:XV}(hk:V.kt=eD (pW W))(h2:2<=ps.length)(h6:ps.length<=6)(hok:eP ps):bX V (model pw (Vw W)) (DS W vC ps iP V.mm V.ro):=
 lL hk fun st h=>⟨st.fz,fun _ h=>h,vV W vC _ _ _ ps st.fz h.1 h2 h6 h.2 hok⟩
abbrev KC a b:=ab (fp a b) (fc a b)
noncomputable def EE(W:WW)(vC:FC)(ps:List cw)(iP iE mm ro:Nat):bL:=
 sr (X:=Unit) (Vw W) (fun st=>∃es fzP fzE,aw (fp st iP) fzP ps/\aw (fp st iE) fzE es/\eR fzP fzE/\(∀x∈fzP++fzE,x∈st.fz)/\(fp st iP).toList.Nodup/\jB ps es) (fun st=>⟨.call (.ref 238) ⟨[DH st iP,DH st iE],[]⟩,none,none,(Eo vC),none⟩) (fun st=>[(tF st iP),(tF st iE)]) [iP,iE] mm ro (fun st _=>(.ok (.ret (.bool true)),[KC st iP,KC st iE],[])) (fun _=>[]) (fun st x=>True)
theorem xy(W:WW)(vC:FC)(ps:List (Int×Int)){iP iE:Nat}{V:XV}(hk:V.kt=eD (pW W))(h2:2<=ps.length):bX V (model pw (Vw W)) (EE W vC ps iP iE V.mm V.ro):=
 lL hk fun st h=>by
  obtain⟨es,fzP,fzE,a,b,c,d,e,f⟩:=h
  exact⟨fzP++fzE,d,(uj W vC _ _ _ _ _ _ ps es fzP fzE a b c h2 e f).toD⟩
noncomputable def ic(i j:Nat):bD:=fun Γ c st=>cn i (.ref (bm st.L st.n j)) Γ c st
theorem fa{V:XV}{pr:Program}{w:World}{i j:Nat}:bE V (model pr w) (ic i j):=
 dQ fun hΓ R hc H=>bA _ _ _ _ _ _ _ _ _ _ hc hΓ R H
theorem vd{items:Array Value}{v:Value}:(seqIndex? (-1) (items.push v).size).bind (fun j=>(items.push v)[j]?)=some v:=by
 rw [Array.size_push,seqIndex_neg (by lia) (by lia),show((-1:Int)+(items.size+1:Nat)).toNat=items.size by lia]
 show(items.push v)[items.size]? =some v
 rw [getElem?_push,if_pos rfl]
theorem RD{pts:Array Value}{fz ps}(h:aw pts fz ps)(h2:2<=ps.length):(pts.size !=(Array.mk ([]:List Value)).size)=true:=by
 have:=h.size
 simp
 intro e
 rw [e] at this
 simp at this
 lia
noncomputable abbrev GH:=[101,100,103,101,115]
noncomputable abbrev kI:=GH
noncomputable abbrev Hl:=[98,111,116,104]
noncomputable abbrev qc:=Hl
abbrev IS a b c:=(((A a),⟨(.type "list_iterator"),none,(.fields ⟨[(Yp b),(.int (Int.ofNat c+1) 0)]⟩),⟨[]⟩⟩):Nat×Obj)
noncomputable abbrev HH:=Array.mk ([]:List Value)
abbrev JZ(a b c d e:Nat)(f:vk)(g:Nat)(h:qC):=[140,147,(A a),(A b),(A c),(A d),(A e),(A f.a),(Y2 g 0),(A h.a)]
noncomputable abbrev Eu:=Str.mk ⟨qc⟩
theorem zx(W:WW)(b7:Bool)(p0:Pos)(vE:FE)(aF c1 c2 aI aG aV aE B k:Nat)(u1 u2 u3 u4 u5 u6 u7 u8 u9 u10 u11 tB:Tok)(v1 v2 v3 v5 v6 v7 v8 v10 v11:Value)(t140 t147:List Value)(pv vs ev:Array Value)(epG epV epE:Nat)(vals:List Int)(s:Shared)(hit:pv[(Yh k).toNat]? =some (Yp aV))(hvs:aj vs vals)(hlen:vals.length=3\/vals.length=4\/vals.length=6)(hB:B=2\/B=3)(hL:∀v∈vals,v.natAbs<2^20)(h0:∃v,vals[0]? =some v/\v≠0)(htab:t140=[]/\t147=[]\/∃r1 r2,t140=(jG r1)/\t147=(jR r2))(hp2:2<=(aZ B 0 vals).length)(hp6:(aZ B 0 vals).length<=6)(hok:eP (aZ B 0 vals))(hbel:∀es,cJ (aZ B 0 vals) es->jB (aZ B 0 vals) es)(hev:ev.size<=100)(E:WW->ae)(hE:E=fun W=>[(140,bB t140),(147,bB t147),(A aF,ah "frame" ([aa (pW W) Yy u1 v1,aa (pW W) ii u2 v2,aa (pW W) ie u3 v3,aa (pW W) eH u4 (co B tB),aa (pW W) Yr u5 v5,aa (pW W) [105] u6 v6,aa (pW W) [113] u7 v7,aa (pW W) qc u8 v8,aa (pW W) kI u9 (Yp aE)]++(cond b7 [] [aa (pW W) gE u10 v10,aa (pW W) Yq u11 v11])) (cond b7 9 11)),(Y5 aI aG k),(Yk aG pv epG),(Yk aV vs epV),(Yk aE ev epE)])(hP:az (pW W) (E W) s){Q:Prop}(kQ:∀(n tb:Nat) (s':Shared) (x0:vk) (x1:qC) (r1 r2:Addr) (y10 y11:Tok) (w10 w11:Value) (ep:Nat),Hn s n->Ht s tb->(aw x1.eds x1.fz x1.es/\cJ (aZ B 0 vals) x1.es)->br (Yt W) (⟨kj (pW W) aF c1 c2 aI,none,none,(c6 vE),none⟩) p0 s s'->cL (pW W) s'->cG ([(140,bB (cC r1)),(147,bB (cE r2)),(A aF,ah "frame" [aa (pW W) Yy u1 v1,aa (pW W) ii u2 v2,aa (pW W) ie u3 v3,aa (pW W) eH u4 (co B tB),aa (pW W) Yr u5 v5,aa (pW W) [105] u6 v6,aa (pW W) [113] u7 v7,aa (pW W) qc u8 v8,aa (pW W) kI u9 (Yp aE),aa (pW W) gE y10 w10,aa (pW W) Yq y11 w11] 11),(uv aI aG k),(Yk aG pv epG),(Yk aV vs epV),(A aE,ab (ev.push (.ref (A x1.a))) ep),(A x1.a,ab x1.eds x1.ep)]) s'.heap->af (E W) s s'->((∀x∈(((([]++x0.fz)++x1.fz)++([]:ae)):ae),s'.heap.get? x.1=some x.2/\x.1∉([(140,bB (cC r1)),(147,bB (cE r2)),(A aF,ah "frame" [aa (pW W) Yy u1 v1,aa (pW W) ii u2 v2,aa (pW W) ie u3 v3,aa (pW W) eH u4 (co B tB),aa (pW W) Yr u5 v5,aa (pW W) [105] u6 v6,aa (pW W) [113] u7 v7,aa (pW W) qc u8 v8,aa (pW W) kI u9 (Yp aE),aa (pW W) gE y10 w10,aa (pW W) Yq y11 w11] 11),(uv aI aG k),(Yk aG pv epG),(Yk aV vs epV),(A aE,ab (ev.push (.ref (A x1.a))) ep),(A x1.a,ab x1.eds x1.ep)]:ae).map (·.1)/\s.heap.objs.size<=x.1))->s.heap.objs.size<=A x1.a->Q):Q:=by
 obtain⟨n,tb,gb,hn,ht,hg⟩:=hP.nt
 refine p9 (fz:=[]) hE hP hn ht hg (fun E W Z hs=>ch (ec (Vw W) 7 [(bF 3 4 (Yp aV)),(mb 7 8),(b9 6),(ic 6 9)] [] [Ce (Vw W) (⟨HF aV B tB,none,none,(.forLoop (em (kg (pW W) 8)) (Yp aI) (bk (kg (pW W) 8)) (cH (kg (pW W) 8)) (bo (pW W) aF c1 c2),⟨167,17,167,40⟩)::(c6 vE),none⟩) ((Ec t140 t147 aV vs epV)) [0,1,5] 7 7 (lF vs epV) (fun x:vk=>x.fz) (fun x:vk=>aw x.pts x.fz (aZ B 0 vals)/\List.Nodup (Array.toList x.pts)),DS W ⟨vE.p5,vE.p6,⟨170,21,170,39⟩,(em (kg (pW W) 8)),(Yp aI),(bk (kg (pW W) 8)),(cH (kg (pW W) 8)),(bo (pW W) aF c1 c2),vE.n4,vE.f2⟩ (aZ B 0 vals) 7 7 7,EE W ⟨vE.p5,vE.p6,⟨171,15,171,49⟩,(em (kg (pW W) 8)),(Yp aI),(bk (kg (pW W) 8)),(cH (kg (pW W) 8)),(bo (pW W) aF c1 c2),vE.n4,vE.f2⟩ (aZ B 0 vals) 7 9 7 7] []) 140 (⟨kj (pW W) aF c1 c2 aI,none,none,(c6 vE),none⟩) (p0) (a8 (kj (pW W) aF c1 c2 aI)) [] hs (cN E n tb gb) (sN [0,1,2,3,4,5,6,9] Z)) (fun E W Z hs=>ad (lE E) (A n) gb (sl hs 0 2) ((Em aI aG pv k aV)/\ad (lE E) (A n) gb (sl hs 3 8) ((Rf (⟨HF aV B tB,none,none,(.forLoop (em (kg (pW W) 8)) (Yp aI) (bk (kg (pW W) 8)) (cH (kg (pW W) 8)) (bo (pW W) aF c1 c2),⟨167,17,167,40⟩)::(c6 vE),none⟩:Ctx))/\(Rf (ax ((Ec t140 t147 aV vs epV))))/\Yc/\Yc/\∀(x0:vk) (n0 tb0 gb0:Nat),(aw x0.pts x0.fz (aZ B 0 vals)/\List.Nodup (Array.toList x0.pts))/\eR [] x0.fz->Yc/\ad [140,147,(A aF),(A aI),(A aG),(A aV),(A aE),(A x0.a)] (A n0) gb0 (sl hs 12 7) (((Rf (.builtin "list.__eq__" ⟨[(.ref (A x0.a)),(dV n0 0)],[]⟩:Code))/\(Yi/\(Yi/\(((x0.pts.size !=(HH).size):(Bool))=(true)))))/\ad [140,147,(A aF),(A aI),(A aG),(A aV),(A aE),(A x0.a)] (A n0) gb0 (sl hs 20 8) ((aw (x0.pts) ([]++x0.fz) (aZ B 0 vals)/\List.Nodup (Array.toList (x0.pts)))/\(Rf (⟨.call (.ref 231) ⟨[.ref (A x0.a)],[]⟩,none,none,(.forLoop (em (kg (pW W) 8)) (Yp aI) (bk (kg (pW W) 8)) (cH (kg (pW W) 8)) (bo (pW W) aF c1 c2),⟨170,21,170,39⟩)::(c6 vE),none⟩:Ctx))/\(Rf (ax ([(A x0.a,ab (x0.pts) x0.ep)])))/\Yc/\Yc/\∀(x1:qC) (n1 tb1 gb1:Nat),(aw x1.eds x1.fz x1.es/\cJ (aZ B 0 vals) x1.es/\x1.eds.size<=50)/\eR ([]++x0.fz) x1.fz->Yc/\ad (JZ aF aI aG aV aE x0 n0 x1) (A n1) gb1 (sl hs 29 1) (((Rf (.builtin "list.append" ⟨[(Yp aE),(.ref (A x1.a))],[]⟩:Code))/\(rJ ev))/\ad (JZ aF aI aG aV aE x0 n0 x1) (A n1) gb1 (sl hs 31 8) (((Rf (.builtin "list.__getitem__" ⟨[(Yp aE),(.int Jm (Y8 tb1 1))],[]⟩:Code))/\(bN Jm/\((((seqIndex? (-(Value.int 1 (TK tb1),1).snd) (ev.push (Value.ref (A (qC.mk x1.a x1.eds x1.ep x1.fz x1.es).a))).size).bind fun j=>(ev.push (Value.ref (A (qC.mk x1.a x1.eds x1.ep x1.fz x1.es).a)))[j]?):i6)=(some (.ref (A x1.a))))))/\ad (JZ aF aI aG aV aE x0 n0 x1) (A n1) gb1 (sl hs 40 1) ((∃es fzP fzE,aw (x0.pts) fzP (aZ B 0 vals)/\aw (x1.eds) fzE es/\eR fzP fzE/\(∀x∈fzP++fzE,x∈(([]++x0.fz)++x1.fz))/\List.Nodup (Array.toList (x0.pts))/\jB (aZ B 0 vals) es)/\(Rf (⟨.call (.ref 238) ⟨[.ref (A x0.a),.ref (A x1.a)],[]⟩,none,none,(.forLoop (em (kg (pW W) 8)) (Yp aI) (bk (kg (pW W) 8)) (cH (kg (pW W) 8)) (bo (pW W) aF c1 c2),⟨171,15,171,49⟩)::(c6 vE),none⟩:Ctx))/\(Rf (ax ([(A x0.a,ab (x0.pts) x0.ep),(A x1.a,ab (x1.eds) x1.ep)])))/\Yc/\Yc/\∀(x2:Unit) (n2 tb2 gb2:Nat),(True)/\eR (([]++x0.fz)++x1.fz) ([]:ae)->Yc/\ad (JZ aF aI aG aV aE x0 n0 x1) (A n2) gb2 (sl hs 41 0) (Z (.again (kj (pW W) aF c1 c2 aI)) (Y2 n2 0) (Y8 tb2 0) true (ax ([(140,⟨.none,none,(.fields ⟨[(.int (Int.ofNat 67) 0),(.int (Int.ofNat 19) 0),(.ref x0.r1)]⟩),⟨[]⟩⟩),(147,⟨.none,none,(.fields ⟨[(.int (Int.ofNat 70) 0),(.int (Int.ofNat 32) 0),(.ref x0.r2)]⟩),⟨[]⟩⟩),((A aF),⟨D3,none,(.dict ⟨[⟨(PyData.keyHash (pW W) Au),(.str Au u1),(v1)⟩,⟨(PyData.keyHash (pW W) An),(.str An u2),(v2)⟩,⟨(PyData.keyHash (pW W) Ae),(.str Ae u3),(v3)⟩,⟨(PyData.keyHash (pW W) qN),(.str qN u4),(co B tB)⟩,⟨(PyData.keyHash (pW W) Ak),(.str Ak u5),(v5)⟩,⟨(PyData.keyHash (pW W) (kC 105)),(.str (kC 105) u6),(v6)⟩,⟨(PyData.keyHash (pW W) (kC 113)),(.str (kC 113) u7),(v7)⟩,⟨(PyData.keyHash (pW W) Eu),(.str Eu u8),(v8)⟩,⟨(PyData.keyHash (pW W) (Str.mk ⟨kI⟩)),(.str (Str.mk ⟨kI⟩) u9),(Yp aE)⟩,⟨(PyData.keyHash (pW W) sZ),(.str sZ (cond b7 (TK tb) u10)),(Yp aV)⟩,⟨(PyData.keyHash (pW W) (Str.mk ⟨Yq⟩)),(.str EZ (cond b7 (TK tb0) u11)),(.ref (A x0.a))⟩]⟩ 11),⟨[]⟩⟩),(IS aI aG k),(rA aG pv epG),(rA aV vs epV),(A aE,Obj.mapSeq (·.push (.ref (A x1.a))) (ab ev epE)),(A x1.a,ab x1.eds x1.ep)])) (((([]++x0.fz)++x1.fz)++([]:ae)))))))))))) (fun _=>[4,4,4000,4,4,3,3,0,3,3,0,1000,3,3,3,8,9,8,8,4001,3,7,7,7,7,0,3,0,1001,7,4002,7,0,3,3,7,7,7,7,4003,0,1002,3000]) (by apply iR b7<;>exact iX (by kernel_rfl)) rfl ⟨fun _=>bi,fun _=>qJ,fun _=>bx,fun _=>fa,trivial⟩ ⟨oo (fz:=[]) rfl (uo _ _ _ _ _ _ _ _ _ _ _ _ _ _ _ _ _ _ _ hvs hlen hB hL h0 htab) (fun x h=>nomatch h),yU _ _ _ rfl hp2 hp6 hok,xy _ _ _ rfl hp2,trivial⟩ rfl rfl (fun x hx=>nomatch hx) fun hs=>?_
 refine rI ⟨rfl,rfl,hit⟩ ?_
 refine ag ⟨rfl,rfl,rfl,rfl,fun x0 n0 tb0 gb0 hx0=>⟨rfl,?_⟩⟩ _
 refine rI ⟨rfl,⟨rfl,rfl,rfl⟩,⟨rfl,rfl,rfl⟩,RD hx0.1.1 hp2⟩ ?_
 refine ag ⟨⟨hx0.1.1,hx0.1.2⟩,rfl,rfl,rfl,rfl,fun x1 n1 tb1 gb1 hx1=>⟨rfl,?_⟩⟩ _
 refine rI ⟨rfl,⟨rfl,rfl,rfl⟩,Nat.le_trans hev (by decide)⟩ ?_
 refine rI ⟨rfl,rfl,vd⟩ ?_
 refine ag ⟨⟨x1.es,x0.fz,x1.fz,hx0.1.1,hx1.1.1,hx1.2,(fun x hx=>hx),hx0.1.2,hbel _ hx1.1.2.1⟩,rfl,rfl,rfl,rfl,fun x2 n2 tb2 gb2 hx2=>⟨rfl,?_⟩⟩ _
 exact rF fun s' r _ h3 h4 h5 h6 h7=>kQ n tb s' x0 x1 _ _ _ _ _ _ _ hn ht ⟨hx1.1.1,hx1.1.2.1⟩ (am rfl r) h4 (ai h3) h5 h6 (h7 _ (mem_cons_self ..))
theorem GF(W:WW)(p0:Pos)(vE:FE)(aF c1 c2 aI aG k bP epG:Nat)(frl:List DictEntry)(pv:Array Value)(s:Shared)(hit:pv[(Yh k).toNat]? =none)(E:WW->ae)(hE:E=fun W=>[(wW aF frl bP),(Y5 aI aG k),(Yk aG pv epG)])(hP:az (pW W) (E W) s){Q:Prop}(kQ:∀(n tb:Nat) (s':Shared),Hn s n->Ht s tb->Runs (Yt W) (⟨kj (pW W) aF c1 c2 aI,none,none,(c6 vE),none⟩) p0 ((Yt W).den (kj (pW W) aF c1 c2 aI)) [] s ft s'->cL (pW W) s'->cG ([(wW aF frl bP),(kd aI k),(Yk aG pv epG)]) s'.heap->af (E W) s s'->Q):Q:=by
 obtain⟨n,tb,gb,hn,ht,hg⟩:=hP.nt
 refine bT hE hP hn ht hg (fun E W Z hs=>ch (ul W 3 1 2) 54 (⟨kj (pW W) aF c1 c2 aI,none,none,(c6 vE),none⟩) (p0) (a8 (kj (pW W) aF c1 c2 aI)) [] hs (cN E n tb gb) (lY Z)) (fun E W Z hs=>ad (lE E) (A n) gb (sl hs 0 2) ((uq aI aG pv k)/\ad (lE E) (A n) gb (sl hs 3 3) (Z oW (Y2 n 2) (Y8 tb 0) true (ax ([(wW aF frl bP),(kd aI k),(Yk aG pv epG)]))))) (fun _=>[2,2,4000,2,2,5]) (oU (by kernel_rfl)) rfl ⟨fun _=>ce,trivial⟩ trivial rfl fun hs=>?_
 refine rI ⟨rfl,rfl,hit⟩ ?_
 exact rF fun s' r _ h3 h4 h5=>kQ n tb s' hn ht (by rw [bG];exact r) h4 (ai h3) h5
structure dI(B:Nat)(vals:List Int):Prop where
 small:∀v∈vals,v.natAbs<2^20
 head:∃v,vals[0]? =some v/\v≠0
 two:2<=(aZ B 0 vals).length
 six:(aZ B 0 vals).length<=6
 ok:eP (aZ B 0 vals)
 below:∀es,cJ (aZ B 0 vals) es->jB (aZ B 0 vals) es
noncomputable def AK(P:Params)(aF aI aG aE B:Nat)(u1 u2 u3 u4 u5 u6 u7 u8 u9 tB:Tok)(v1 v2 v3 v5 v6 v7 v8:Value)(pv:Array Value)(epG:Nat)(aV:Nat)(fr:List DictEntry)(bP k:Nat)(t140 t147:List Value)(vs:Array Value)(epV:Nat)(ev:Array Value)(epE:Nat):ae:=
 [(140,bB t140),(147,bB t147),(A aF,ah "frame" ([aa P Yy u1 v1,aa P ii u2 v2,aa P ie u3 v3,aa P eH u4 (co B tB),aa P Yr u5 v5,aa P [105] u6 v6,aa P [113] u7 v7,aa P qc u8 v8,aa P kI u9 (Yp aE)]++fr) bP),(Y5 aI aG k),(Yk aG pv epG),(Yk aV vs epV),(Yk aE ev epE)]
theorem uC{a b:List (Nat×Obj)}{x:Nat×Obj}(h:x∈b):x∈((([]++a)++b)++([]:ae):ae):=mem_append_left _ (mem_append_right _ h)
theorem oJ(W:WW)(vE:FE)(aF c1 c2 aI aG aE B:Nat)(u1 u2 u3 u4 u5 u6 u7 u8 u9 tB:Tok)(v1 v2 v3 v5 v6 v7 v8:Value)(pv:Array Value)(epG:Nat)(aV:Nat)(fr:List DictEntry)(bP k:Nat)(t140 t147:List Value)(vs:Array Value)(epV:Nat)(ev:Array Value)(epE:Nat)(vals:List Int)(hvs:aj vs vals)(hlen:vals.length=3\/vals.length=4\/vals.length=6)(hB:B=2\/B=3)(hp:dI B vals)(hfr:(fr=[]/\bP=9)\/(∃y10 y11 w10 w11,fr=[aa (pW W) gE y10 w10,aa (pW W) Yq y11 w11]/\bP=11))(hit:pv[(Yh k).toNat]? =some (Yp aV))(htab:t140=[]/\t147=[]\/∃r1 r2,t140=(jG r1)/\t147=(jR r2))(hev:ev.size<=100)(p0:Pos)(s:Shared)(hP:az (pW W) (AK (pW W) aF aI aG aE B u1 u2 u3 u4 u5 u6 u7 u8 u9 tB v1 v2 v3 v5 v6 v7 v8 pv epG aV fr bP k t140 t147 vs epV ev epE) s){Q:Prop}(kQ:∀s1 y10 y11 w10 w11 r1 r2 x1 ep,br (Yt W) ⟨kj (pW W) aF c1 c2 aI,none,none,(c6 vE),none⟩ p0 s s1->az (pW W) (AK (pW W) aF aI aG aE B u1 u2 u3 u4 u5 u6 u7 u8 u9 tB v1 v2 v3 v5 v6 v7 v8 pv epG aV [aa (pW W) gE y10 w10,aa (pW W) Yq y11 w11] 11 (k+1) (cC r1) (cE r2) vs epV (ev.push (.ref (A x1.a))) ep) s1->af (AK (pW W) aF aI aG aE B u1 u2 u3 u4 u5 u6 u7 u8 u9 tB v1 v2 v3 v5 v6 v7 v8 pv epG aV fr bP k t140 t147 vs epV ev epE) s s1->s1.heap.get? (A (qC.a x1))=some (ab x1.eds x1.ep)->s.heap.objs.size<=A x1.a->aw x1.eds x1.fz x1.es->cJ (aZ B 0 vals) x1.es->(∀x∈x1.fz,s1.heap.get? x.1=some x.2/\s.heap.objs.size<=x.1/\x.1≠A x1.a)->Q):Q:=by
 rcases hfr with⟨rfl,rfl⟩|⟨z10,z11,J1,Ks,rfl,rfl⟩
 ·apply zx (b7:=true) (W:=W) (hit:=hit) (hvs:=hvs) (hlen:=hlen) (hB:=hB) (hL:=hp.small) (h0:=hp.head) (htab:=htab) (hp2:=hp.two) (hp6:=hp.six) (hok:=hp.ok) (hbel:=hp.below) (hev:=hev) (hE:=rfl) (hP:=hP) (p0:=p0) (u10:=0) (u11:=0) (v10:=.none) (v11:=.none) (kQ:=?k83) ..
  case' k83=>intro n tb s1 x0 x1 r1 r2 y10 y11 w10 w11 ep _ _ hc zp82 h4 hF K hfz hnew
  obtain⟨p',H⟩:=zp82
  exact kQ s1 y10 y11 w10 w11 r1 r2 x1 ep ⟨p',H⟩ ⟨h4,⟨hF.1,hF.2.1,hF.2.2.1,hF.2.2.2.1,hF.2.2.2.2.1,hF.2.2.2.2.2.1,hF.2.2.2.2.2.2.1,trivial⟩,hP.nd,hP.lo⟩ K hF.2.2.2.2.2.2.2.1 hnew hc.1 hc.2 (fun x hx=>⟨(hfz x (uC hx)).1,(hfz x (uC hx)).2.2,fun e=>(hfz x (uC hx)).2.1 (by rw [e];simp)⟩)
 ·apply zx (b7:=false) (W:=W) (hit:=hit) (hvs:=hvs) (hlen:=hlen) (hB:=hB) (hL:=hp.small) (h0:=hp.head) (htab:=htab) (hp2:=hp.two) (hp6:=hp.six) (hok:=hp.ok) (hbel:=hp.below) (hev:=hev) (hE:=rfl) (hP:=hP) (p0:=p0) (kQ:=?k85) ..
  case' k85=>intro n tb s1 x0 x1 r1 r2 y10 y11 w10 w11 ep _ _ hc zp84 h4 hF K hfz hnew
  obtain⟨p',H⟩:=zp84
  exact kQ s1 y10 y11 w10 w11 r1 r2 x1 ep ⟨p',H⟩ ⟨h4,⟨hF.1,hF.2.1,hF.2.2.1,hF.2.2.2.1,hF.2.2.2.2.1,hF.2.2.2.2.2.1,hF.2.2.2.2.2.2.1,trivial⟩,hP.nd,hP.lo⟩ K hF.2.2.2.2.2.2.2.1 hnew hc.1 hc.2 (fun x hx=>⟨(hfz x (uC hx)).1,(hfz x (uC hx)).2.2,fun e=>(hfz x (uC hx)).2.1 (by rw [e];simp)⟩)
theorem az.sub{P:Params}{E E':ae}{s:Shared}(h:az P E s)(hs:E'.Sublist E):az P E' s:=by
 refine⟨h.rdy,?_,h.nd.sublist (hs.map _),fun a ha=>h.lo a ((hs.map _).subset ha)⟩
 have:∀(T:ae),(∀x∈T,x∈E)->cG T s.heap:=by
  intro T
  induction T with
  |nil=>intro _;trivial
  |cons x T ih=>
   intro hx
   obtain⟨i,hi⟩:=List.mem_iff_getElem?.mp (hx x (mem_cons_self ..))
   exact⟨h.has.get hi,ih fun y hy=>hx y (mem_cons_of_mem _ hy)⟩
 exact this E' fun x hx=>hs.subset hx
theorem af.mono{E E':ae}{s s':Shared}(h:af E s s')(hs:∀a∈E.map (·.1),a∈E'.map (·.1)):af E' s s':=⟨fun b o q hb=>h.keep b o q fun hm=>hb (hs b hm),h.drawn,h.os,h.size⟩
theorem az.perm{P:Params}{E E':ae}{s:Shared}(h:az P E s)(p:E.Perm E'):az P E' s:=by
 refine⟨h.rdy,?_,(p.map _).nodup_iff.mp h.nd,fun a ha=>h.lo a ((p.map _).mem_iff.mpr ha)⟩
 have:∀(T:ae),(∀x∈T,x∈E)->cG T s.heap:=by
  intro T
  induction T with
  |nil=>intro _;trivial
  |cons x T ih=>
   intro hx
   obtain⟨i,hi⟩:=List.mem_iff_getElem?.mp (hx x (mem_cons_self ..))
   exact⟨h.has.get hi,ih fun y hy=>hx y (mem_cons_of_mem _ hy)⟩
 exact this E' fun x hx=>p.mem_iff.mpr hx
theorem az.left{P:Params}{E T:ae}{s:Shared}(h:az P (E++T) s):az P E s:=az.sub h (List.sublist_append_left _ _)
theorem az.uncutL{P:Params}{E E' T:ae}{s s':Shared}(hP:az P (E++T) s)(hP':az P E' s')(K:af E s s')(e:E'.map (·.1)=E.map (·.1):=by rfl):az P (E'++T) s':=by
 have nd:=hP.nd
 rw [map_append] at nd
 refine⟨hP'.rdy,cg.mpr ⟨hP'.has,lm K (cg.mp hP.has).2 fun a ha hb=>(List.nodup_append.mp nd).2.2 a hb a ha rfl⟩,?_,?_⟩
 ·rw [map_append,e];exact nd
 ·intro a ha
  rw [map_append,e,<-map_append] at ha
  exact hP.lo a ha
theorem E6{α:Type}(a E b c:α):[a,E,b,c].Perm [b,E,a,c]:=(List.Perm.cons a (List.Perm.swap b E [c])).trans ((List.Perm.swap b a [E,c]).trans (List.Perm.cons b (List.Perm.swap E a [c])))
theorem E5{α:Type}(b E a c:α):[b,E,a,c].Perm [c,E,a,b]:=(List.perm_append_comm (l₁:=[b,E,a]) (l₂:=[c])).trans (List.Perm.cons c (List.perm_append_comm (l₁:=[b]) (l₂:=[E,a])))
structure nG where
 r1:Addr
 r2:Addr
 y10:Tok
 y11:Tok
 w10:Value
 w11:Value
 k:Nat
 ep:Nat
 a1:Nat
 a2:Nat
 a3:Nat
 ep1:Nat
 ep2:Nat
 ep3:Nat
 eds1:Array Value
 eds2:Array Value
 eds3:Array Value
 fz1:List (Nat×Obj)
 fz2:List (Nat×Obj)
 fz3:List (Nat×Obj)
 es1:List (Int×Int)
 es2:List (Int×Int)
 es3:List (Int×Int)
noncomputable def kX(P:Params)(aF aI aG aE B:Nat)(u1 u2 u3 u4 u5 u6 u7 u8 u9 tB:Tok)(v1 v2 v3 v5 v6 v7 v8:Value)(epG:Nat)(p1 p2 p3:Nat)(vs1 vs2 vs3:Array Value)(ep1 ep2 ep3:Nat)(x:nG):Result×List Obj×ae:=(mV,([(140,bB (cC x.r1)),(147,bB (cE x.r2)),(A aF,ah "frame" ([aa P Yy u1 v1,aa P ii u2 v2,aa P ie u3 v3,aa P eH u4 (co B tB),aa P Yr u5 v5,aa P [105] u6 v6,aa P [113] u7 v7,aa P qc u8 v8,aa P kI u9 (Yp aE)]++[aa P gE x.y10 x.w10,aa P Yq x.y11 x.w11]) 11),(A aI,aK "list_iterator" [.none,.int (Int.ofNat x.k) 0]),(A aG,ab ⟨[fy p1,fy p2,fy p3]⟩ epG),(Yk p1 vs1 ep1),(Yk p2 vs2 ep2),(Yk p3 vs3 ep3),(A aE,ab ⟨[.ref (A x.a1),.ref (A x.a2),.ref (A x.a3)]⟩ x.ep)]:ae).map (·.2),[(A x.a1,ab x.eds1 x.ep1),(A x.a2,ab x.eds2 x.ep2),(A x.a3,ab x.eds3 x.ep3)])
def ot(B:Nat)(vals1 vals2 gx:List Int)(x:nG):Prop:=(aw x.eds1 x.fz1 x.es1/\cJ (aZ B 0 vals1) x.es1)/\(aw x.eds2 x.fz2 x.es2/\cJ (aZ B 0 vals2) x.es2)/\(aw x.eds3 x.fz3 x.es3/\cJ (aZ B 0 gx) x.es3)
theorem az.kmono{P:Params}{E0 E:ae}{s s1 s2:Shared}(_:az P E0 s)(K:af E s1 s2)(h:∀a,a∈E.map (·.1)->a∈E0.map (·.1)):af E0 s1 s2:=K.mono h
theorem Jg{a b c d e p q r z:Nat}:List.Sublist [a,b,c,d,e,p,z] [a,b,c,d,e,p,q,r,z]:=.cons_cons _ (.cons_cons _ (.cons_cons _ (.cons_cons _ (.cons_cons _ (.cons_cons _ (.cons _ (.cons _ (.cons_cons _ .slnil))))))))
theorem Iv{a b c d e p q r z:Nat}:List.Sublist [a,b,c,d,e,q,z] [a,b,c,d,e,p,q,r,z]:=.cons_cons _ (.cons_cons _ (.cons_cons _ (.cons_cons _ (.cons_cons _ (.cons _ (.cons_cons _ (.cons _ (.cons_cons _ .slnil))))))))
theorem Ix{a b c d e p q r z:Nat}:List.Sublist [a,b,c,d,e,r,z] [a,b,c,d,e,p,q,r,z]:=.cons_cons _ (.cons_cons _ (.cons_cons _ (.cons_cons _ (.cons_cons _ (.cons _ (.cons _ (.cons_cons _ (.cons_cons _ .slnil))))))))
theorem HV{p q r z:Nat}:[r,z,p,q]⊆[p,q,r,z]:=by
 intro x h
 simp only [List.mem_cons,List.not_mem_nil,or_false] at h⊢
 rcases h with h|h|h|h<;>simp only [h,true_or,or_true]
theorem IT{a b c d e p q r z:Nat}:[a,b,c,d,e,r,z,p,q]⊆[a,b,c,d,e,p,q,r,z]:=cons_subset_cons _ (cons_subset_cons _ (cons_subset_cons _ (cons_subset_cons _ (cons_subset_cons _ HV))))
theorem uO(W:WW)(vE:FE)(aF c1 c2 aI aG aE B:Nat)(u1 u2 u3 u4 u5 u6 u7 u8 u9 tB:Tok)(v1 v2 v3 v5 v6 v7 v8:Value)(epG:Nat)(p1 p2 p3:Nat)(vs1 vs2 vs3:Array Value)(ep1 ep2 ep3:Nat)(vals1 vals2 gx:List Int)(hv1:aj vs1 vals1)(hv2:aj vs2 vals2)(hv3:aj vs3 gx)(hl1:vals1.length=4)(hl2:vals2.length=3)(hl3:gx.length=6)(hB:B=2\/B=3)(hp1:dI B vals1)(hp2:dI B vals2)(hp3:dI B gx):
  cv (Vw W) ⟨kj (pW W) aF c1 c2 aI,none,none,(c6 vE),none⟩ [(140,bB []),(147,bB []),(A aF,ah "frame" ([aa (pW W) Yy u1 v1,aa (pW W) ii u2 v2,aa (pW W) ie u3 v3,aa (pW W) eH u4 (co B tB),aa (pW W) Yr u5 v5,aa (pW W) [105] u6 v6,aa (pW W) [113] u7 v7,aa (pW W) qc u8 v8,aa (pW W) kI u9 (Yp aE)]++[]) 9),(A aI,Yf aG),(A aG,ab ⟨[fy p1,fy p2,fy p3]⟩ epG),(Yk p1 vs1 ep1),(Yk p2 vs2 ep2),(Yk p3 vs3 ep3),(A aE,ix)] [] (kX (pW W) aF aI aG aE B u1 u2 u3 u4 u5 u6 u7 u8 u9 tB v1 v2 v3 v5 v6 v7 v8 epG p1 p2 p3 vs1 vs2 vs3 ep1 ep2 ep3) (fun x=>x.fz1++(x.fz2++x.fz3)) (ot B vals1 vals2 gx):=by
 intro p0 s hP _
 have hPa:az (pW W) ((AK (pW W) aF aI aG aE B u1 u2 u3 u4 u5 u6 u7 u8 u9 tB v1 v2 v3 v5 v6 v7 v8 ⟨[fy p1,fy p2,fy p3]⟩ epG p1 [] 9 0 [] [] vs1 ep1 ⟨[]⟩ 0)++[(Yk p2 vs2 ep2),(Yk p3 vs3 ep3)]) s:=hP.perm (List.Perm.append_left [_,_,_,_,_] ((List.Perm.cons _ ((List.perm_append_comm (l₁:=[_,_]) (l₂:=[_]))))))
 refine oJ W vE aF c1 c2 aI aG aE B u1 u2 u3 u4 u5 u6 u7 u8 u9 tB v1 v2 v3 v5 v6 v7 v8 ⟨[fy p1,fy p2,fy p3]⟩ epG p1 [] 9 0 [] [] vs1 ep1 ⟨[]⟩ 0 vals1 hv1 (.inr (.inl hl1)) hB hp1 (.inl ⟨rfl,rfl⟩) rfl (.inl ⟨rfl,rfl⟩) (by simp) p0 s hPa.left fun s1 y10 y11 w10 w11 r1 r2 x1 e1 zq24 hP1 K1 ho1 hn1 hpa1 hst1 hf1=>?_
 obtain⟨q1,H1⟩:=zq24
 have hPb:=(hPa.uncutL hP1 K1).perm (List.Perm.append_left [_,_,_,_,_] (E6 _ _ _ _))
 refine oJ W vE aF c1 c2 aI aG aE B u1 u2 u3 u4 u5 u6 u7 u8 u9 tB v1 v2 v3 v5 v6 v7 v8 ⟨[fy p1,fy p2,fy p3]⟩ epG p2 [aa (pW W) gE y10 w10,aa (pW W) Yq y11 w11] 11 (0+1) (cC r1) (cE r2) vs2 ep2 ((⟨[]⟩:Array Value).push (.ref (A x1.a))) e1 vals2 hv2 (.inl hl2) hB hp2 (.inr ⟨_,_,_,_,rfl,rfl⟩) rfl (.inr ⟨r1,r2,rfl,rfl⟩) (by simp) q1 s1 (az.left (T:=[(Yk p1 vs1 ep1),(Yk p3 vs3 ep3)]) hPb) fun s2 z10 z11 J1 Ks r12 r22 x2 e2 zq25 hP2 K2 ho2 hn2 hpa2 hst2 hf2=>?_
 obtain⟨q2,H2⟩:=zq25
 have hPc:=((az.uncutL (T:=[(Yk p1 vs1 ep1),(Yk p3 vs3 ep3)]) hPb hP2 K2)).perm (List.Perm.append_left [_,_,_,_,_] (E5 _ _ _ _))
 refine oJ W vE aF c1 c2 aI aG aE B u1 u2 u3 u4 u5 u6 u7 u8 u9 tB v1 v2 v3 v5 v6 v7 v8 ⟨[fy p1,fy p2,fy p3]⟩ epG p3 [aa (pW W) gE z10 J1,aa (pW W) Yq z11 Ks] 11 (0+1+1) (cC r12) (cE r22) vs3 ep3 (((⟨[]⟩:Array Value).push (.ref (A x1.a))).push (.ref (A x2.a))) e2 gx hv3 (.inr (.inr hl3)) hB hp3 (.inr ⟨_,_,_,_,rfl,rfl⟩) rfl (.inr ⟨r12,r22,rfl,rfl⟩) (by simp) q2 s2 (az.left (T:=[(Yk p1 vs1 ep1),(Yk p2 vs2 ep2)]) hPc) fun s3 g10 g11 h10 h11 r13 r23 x3 e3 zq26 hP3 K3 ho3 hn3 hpa3 hst3 hf3=>?_
 obtain⟨q3,H3⟩:=zq26
 have hPd:=az.uncutL (T:=[(Yk p1 vs1 ep1),(Yk p2 vs2 ep2)]) hPc hP3 K3
 apply GF (W:=W) (hit:=rfl) (hE:=rfl) (hP:=az.mid (E1:=[_,_]) (E3:=[_,_,_,_]) hPd) (p0:=q3) (kQ:=?k86) ..
 case' k86=>intro n tb s4 _ _ r h4a h4b h4c
 obtain⟨hH,hK⟩:=az.mid_back (E1:=[_,_]) (E3:=[_,_,_,_]) hPd h4b h4c
 have lt1:A x1.a<s1.heap.objs.size:=Heap.lt_size ho1
 have lt2:A x2.a<s2.heap.objs.size:=Heap.lt_size ho2
 have lt3:A x3.a<s3.heap.objs.size:=Heap.lt_size ho3
 have lo9:=fun a (ha:s.heap.objs.size<=a) hm=>Nat.not_lt.mpr ha (hP.lt hm)
 have KK1:=hP.kmono K1 fun a h=>Jg.subset h
 have KK2:=hP.kmono K2 fun a h=>Iv.subset h
 have KK3:=hP.kmono K3 fun a h=>Ix.subset h
 have KK4:=hP.kmono hK fun a h=>IT h
 have sz1:=KK1.size
 have sz2:=KK2.size
 have k1:∀a o,s.heap.objs.size<=a->s1.heap.get? a=some o->s4.heap.get? a=some o:=fun a o ha e=>KK4.keep _ _ (KK3.keep _ _ (KK2.keep _ _ e (lo9 a ha)) (lo9 a ha)) (lo9 a ha)
 have k2:∀a o,s.heap.objs.size<=a->s2.heap.get? a=some o->s4.heap.get? a=some o:=fun a o ha e=>KK4.keep _ _ (KK3.keep _ _ e (lo9 a ha)) (lo9 a ha)
 have k3:∀a o,s.heap.objs.size<=a->s3.heap.get? a=some o->s4.heap.get? a=some o:=fun a o ha e=>KK4.keep _ _ e (lo9 a ha)
 have g2:s.heap.objs.size<=A x2.a:=Nat.le_trans sz1 hn2
 have g3:s.heap.objs.size<=A x3.a:=Nat.le_trans sz1 (Nat.le_trans sz2 hn3)
 refine⟨⟨r13,r23,g10,g11,h10,h11,0+1+1+1,e3,x1.a,x2.a,x3.a,x1.ep,x2.ep,x3.ep,x1.eds,x2.eds,x3.eds,x1.fz,x2.fz,x3.fz,x1.es,x2.es,x3.es⟩,s4,H1 _ _ (H2 _ _ (H3 _ _ r)),h4a,KK1.trans (KK2.trans (KK3.trans KK4)),⟨hH.1,hH.2.1,hH.2.2.1,hH.2.2.2.1,hH.2.2.2.2.1,hH.2.2.2.2.2.2.2.1,hH.2.2.2.2.2.2.2.2.1,hH.2.2.2.2.2.1,hH.2.2.2.2.2.2.1,trivial⟩,⟨k1 _ _ hn1 ho1,k2 _ _ g2 ho2,k3 _ _ g3 ho3,trivial⟩,?_,?_,⟨⟨hpa1,hst1⟩,⟨hpa2,hst2⟩,⟨hpa3,hst3⟩⟩,?_⟩
 ·intro y hy
  simp only [kX,List.mem_cons,List.not_mem_nil,or_false] at hy
  rcases hy with rfl|rfl|rfl
  ·exact hn1
  ·exact g2
  ·exact g3
 ·simp only [kX,map_cons,map_nil,List.nodup_cons,List.mem_cons,List.not_mem_nil,or_false,not_or,nodup_nil,and_true,not_false_eq_true]
  exact⟨⟨fun e=>Nat.lt_irrefl _ (lt_of_lt_of_le lt1 (e▸hn2)),fun e=>Nat.lt_irrefl _ (lt_of_lt_of_le lt1 (Nat.le_trans sz2 (e▸hn3)))⟩,fun e=>Nat.lt_irrefl _ (lt_of_lt_of_le lt2 (e▸hn3))⟩
 ·intro y hy
  simp only [kX,map_cons,map_nil,List.mem_cons,List.not_mem_nil,or_false,not_or]
  rcases List.mem_append.mp hy with hy|hy
  ·have:=hf1 y hy
   have lt:=Heap.lt_size this.1
   exact⟨k1 _ _ this.2.1 this.1,this.2.1,this.2.2,fun e=>Nat.lt_irrefl _ (lt_of_lt_of_le lt (e▸hn2)),fun e=>Nat.lt_irrefl _ (lt_of_lt_of_le lt (Nat.le_trans sz2 (e▸hn3)))⟩
  ·rcases List.mem_append.mp hy with hy|hy
   ·have:=hf2 y hy
    have lt:=Heap.lt_size this.1
    have ge:=Nat.le_trans sz1 this.2.1
    exact⟨k2 _ _ ge this.1,ge,fun e=>Nat.lt_irrefl _ (lt_of_lt_of_le lt1 (e▸this.2.1)),this.2.2,fun e=>Nat.lt_irrefl _ (lt_of_lt_of_le lt (e▸hn3))⟩
   ·have:=hf3 y hy
    have ge:=Nat.le_trans sz1 (Nat.le_trans sz2 this.2.1)
    exact⟨k3 _ _ ge this.1,ge,fun e=>Nat.lt_irrefl _ (lt_of_lt_of_le lt1 (Nat.le_trans sz2 (e▸this.2.1))),fun e=>Nat.lt_irrefl _ (lt_of_lt_of_le lt2 (e▸this.2.1)),this.2.2⟩
noncomputable def Ew(W:WW)(vE:FE)(aF c1 c2:Nat)(iF iI iG j1 j2 j3 iE mm ro:Nat):bL:=sr (X:=nG) (Vw W) (fun st=>aj (fp st j1) (me st j1)/\aj (fp st j2) (me st j2)/\aj (fp st j3) (me st j3)/\List.length (me st j1)=4/\List.length (me st j2)=3/\List.length (me st j3)=6/\((ur st iF)=2\/(ur st iF)=3)/\dI (ur st iF) (me st j1)/\dI (ur st iF) (me st j2)/\dI (ur st iF) (me st j3)) (fun st=>⟨kj (pW W) aF c1 c2 (b8 st iI),none,none,(c6 vE),none⟩) (fun st=>[(140,bB []),(147,bB []),(A aF,ah "frame" ([aa (pW W) Yy (bU st iF 0).1 (bU st iF 0).2,aa (pW W) ii (bU st iF 1).1 (bU st iF 1).2,aa (pW W) ie (bU st iF 2).1 (bU st iF 2).2,aa (pW W) eH (bU st iF 3).1 (.int (Int.ofNat (ur st iF)) (ly (bU st iF 3).2)),aa (pW W) Yr (bU st iF 4).1 (bU st iF 4).2,aa (pW W) [105] (bU st iF 5).1 (bU st iF 5).2,aa (pW W) [113] (bU st iF 6).1 (bU st iF 6).2,aa (pW W) qc (bU st iF 7).1 (bU st iF 7).2,aa (pW W) kI (bU st iF 8).1 (.ref (A (b8 st iE)))]++[]) 9),(PU st iI iG),(A (b8 st iG),ab ⟨[DH st j1,DH st j2,DH st j3]⟩ (fc st iG)),(tF st j1),(tF st j2),(tF st j3),(A (b8 st iE),ix)]) [0,1,iF,iI,iG,j1,j2,j3,iE] mm ro (fun st=>kX (pW W) aF (b8 st iI) (b8 st iG) (b8 st iE) (ur st iF) (bU st iF 0).1 (bU st iF 1).1 (bU st iF 2).1 (bU st iF 3).1 (bU st iF 4).1 (bU st iF 5).1 (bU st iF 6).1 (bU st iF 7).1 (bU st iF 8).1 (ly (bU st iF 3).2) (bU st iF 0).2 (bU st iF 1).2 (bU st iF 2).2 (bU st iF 4).2 (bU st iF 5).2 (bU st iF 6).2 (bU st iF 7).2 (fc st iG) (b8 st j1) (b8 st j2) (b8 st j3) (fp st j1) (fp st j2) (fp st j3) (fc st j1) (fc st j2) (fc st j3)) (fun x=>x.fz1++(x.fz2++x.fz3)) (fun st=>ot (ur st iF) (me st j1) (me st j2) (me st j3))
theorem zw(W:WW)(vE:FE)(aF c1 c2:Nat){iF iI iG j1 j2 j3 iE:Nat}{V:XV}(hk:V.kt=eD (pW W)):bX V (model pw (Vw W)) (Ew W vE aF c1 c2 iF iI iG j1 j2 j3 iE V.mm V.ro):=
 lL hk fun st h=>⟨[],(fun x hx=>nomatch hx),uO W vE aF c1 c2 _ _ _ _ _ _ _ _ _ _ _ _ _ _ _ _ _ _ _ _ _ _ _ _ _ _ _ _ _ _ _ _ _ _ h.1 h.2.1 h.2.2.1 h.2.2.2.1 h.2.2.2.2.1 h.2.2.2.2.2.1 h.2.2.2.2.2.2.1 h.2.2.2.2.2.2.2.1 h.2.2.2.2.2.2.2.2.1 h.2.2.2.2.2.2.2.2.2⟩
def m6{X:Type}(w':World)(G:Ctx)(E:ae)(out:X->Result×List Obj×ae)(cond:X->Nat->Nat->Prop)(p:Pos)(s:Shared):Prop:=
 ∃x s',Runs (jw w') G p ((jw w').den G.code) [] s (.ret (out x).1) s'/\cL w'.params s'/\af E s s'/\j9 (E.map (·.1)) (out x).2.1 s'.heap/\cG (out x).2.2 s'.heap/\
  (∀y∈(out x).2.2,s.heap.objs.size<=y.1)/\((out x).2.2.map (·.1)).Nodup/\cond x s.toks s'.toks
def tW{X:Type}(w':World)(G:Ctx)(E:ae)(out:X->Result×List Obj×ae)(cond:X->Nat->Nat->Prop):Prop:=
 ∀p s,az w'.params E s->m6 w' G E out cond p s
noncomputable def DQ{X:Type}(E:ae)(is:List Nat)(mm ro:Nat)(out:X->Result×List Obj×ae)(cond:X->Nat->Nat->Prop)(st:St)(K:Result->St->Prop):Prop:=
 (is.map fun i=>(bm st.L st.n i,st.T.get i))=ax E/\st.gl.all ma=true/\(Of st is mm ro)=true/\
  ∀(x:X) (n' tb' gb':Nat),cond x (Nat.add st.tb st.ti) (TK tb')->(Nat.beq is.length (out x).2.1.length&&je (qK st.T is (out x).2.1) (Nat.add st.m0 st.k) ((out x).2.2.map (·.2)))=true/\K (out x).1 (dR st is (out x).2.1 (out x).2.2 (A n') (TK tb') gb')
noncomputable def Ef{X:Type}(w':World)(G:Ctx)(E:ae)(is:List Nat)(mm ro:Nat)(out:X->Result×List Obj×ae)(cond:X->Nat->Nat->Prop):bL:=fun Γ p c st K=>Γ=G/\DQ E is mm ro out cond st K
theorem zq{X:Type}{w':World}{E:ae}{is:List Nat}{V:XV}{out:X->Result×List Obj×ae}{cond:X->Nat->Nat->Prop}{h0 d os Γ p st K s}(hk:V.kt=eD w'.params)(hc:az w'.params E s->cF V.fz E s->m6 w' Γ E out cond p s)(H:DQ E is V.mm V.ro out cond st K)(R:fX V h0 d os st s):
  ∃r st' s',Runs (jw w') Γ p ((jw w').den Γ.code) [] s (.ret r) s'/\fX V h0 d os st' s'/\K r st':=by
 refine gQ fun Q zQ=>?_
 obtain⟨hE,hfin,hb,H⟩:=H
 rw [Bool.and_eq_true,Bool.and_eq_true,Bool.and_eq_true] at hb
 obtain⟨⟨⟨b1,b2⟩,b4⟩,b3⟩:=hb
 have eA:E.map (·.1)=is.map fun i=>bm st.L st.n i:=by
  have:=congrArg (List.map fun x=>x.1) hE
  simp only [map_map,ax] at this
  exact this.symm
 have hlt:∀i∈is,∃x,st.T.get i=some x:=by
  intro i hi
  have:(bm st.L st.n i,st.T.get i)∈ax E:=by rw [<-hE];exact List.mem_map.mpr ⟨i,hi,rfl⟩
  obtain⟨x,_,e⟩:=List.mem_map.mp this
  exact⟨_,(congrArg Prod.snd e).symm⟩
 have pre:az w'.params E s:=by
  refine⟨⟨fun a o e=>R.kt a o (by rw [hk];exact e),fC R hfin,by rw [R.size];exact le_of_ble_eq_true b1,by rw [R.toks];exact le_of_ble_eq_true b2⟩,?_,?_,?_⟩
  ·have z:=fZ R is
   rw [hE] at z
   exact ai z
  ·rw [eA]
   refine g0 (gV b4) fun i hi j hj e=>?_
   obtain⟨o,e1⟩:=hlt i hi
   obtain⟨o',e2⟩:=hlt j hj
   exact R.inj i j (R.own i o e1).1 (R.own j o' e2).1 e
  ·intro a ha
   rw [eA] at ha
   obtain⟨i,hi,rfl⟩:=List.mem_map.mp ha
   obtain⟨o,e⟩:=hlt i hi
   rw [<-hk];exact R.off i (R.own i o e).1
 have fzo:cF V.fz E s:=by
  intro x hx
  have z:=R.fz x hx
  refine⟨R.keep x.1 x.2 z.1 z.2,fun hm=>?_⟩
  rw [eA] at hm
  obtain⟨i,hi,e⟩:=List.mem_map.mp hm
  have e:bm st.L st.n i=x.1:=e
  have q:=List.all_eq_true.mp b3 i hi
  rw [Bool.or_eq_true] at q
  rcases q with q|q
  ·exact z.2 i (le_of_ble_eq_true q) e
  ·obtain⟨o,e1⟩:=hlt i hi
   have q1:=R.new i (le_of_ble_eq_true q) (R.own i o e1).1
   have q2:=Heap.lt_size z.1
   rw [e] at q1
   exact absurd q2 (Nat.not_lt.mpr q1)
 obtain⟨x,s',r,rdy,K',has,hasN,newN,ndN,cx⟩:=hc pre fzo
 have e1:=rdy.size
 have e2:=rdy.toks
 obtain⟨c1,H⟩:=H x (s'.heap.objs.size-245) (s'.toks-677) s'.gens.size (by rw [show Nat.add st.tb st.ti=s.toks from R.toks.symm,show TK (s'.toks-677)=s'.toks from Nat.sub_add_cancel e2];exact cx)
 refine zQ ?_
 rw [Bool.and_eq_true] at c1
 exact⟨_,_,s',r,nH R hk hE (eq_of_beq_eq_true c1.1) b3 c1.2 rdy K' has hasN newN ndN (show s'.heap.objs.size=(s'.heap.objs.size-245)+245 by lia) (show s'.toks=(s'.toks-677)+677 by lia) rfl (F:=st.fz) (fun x hx=>.inl hx),H⟩
theorem zH{X:Type}{w':World}{G:Ctx}{E:ae}{is:List Nat}{V:XV}{out:X->Result×List Obj×ae}{cond:X->Nat->Nat->Prop}(hk:V.kt=eD w'.params)(hc:tW w' G E out cond):bX V (model pw w') (Ef w' G E is V.mm V.ro out cond):=by
 intro h0 d os Γ p c st K s H hΓ R
 obtain⟨rfl,H⟩:=H
 subst hΓ
 exact zq hk (fun h _=>hc p s h) H R
theorem ri(W:WW)(cel:Expr)(cgs:List Comprehension)(csc:Scope)(cps:Pos)(cd:Nat)(ci ca:Value)(cenv:Env)(p2:Pos)(vE:FE)(aT:Nat)(dx dy:Int)(tx ty:Tok)(ep:Nat)(hr:eS dx dy):
  tW (Vw W) (Ny aT cel cgs csc cps cd ci ca cenv p2 vE) ([(fl aT dx tx dy ty ep)]) (fun x:cA=>(.ok (.ret (.float (bf dx dy) x.t)),[a9 [.int dx tx,.int dy ty] ep],[])) (fun x t1 t2=>t1<=x.t/\x.t<t2):=by
 intro p0 s hP
 refine gQ fun Q zQ=>?_
 obtain⟨n,hn⟩:=hP.size
 obtain⟨tb,ht⟩:=hP.toks
 generalize hg:s.gens.size=gb
 have k:=qi hr
 unfold sJ at k
 simp only [Bool.and_eq_true,Bool.not_eq_true',beq_iff_eq] at k
 obtain⟨⟨⟨⟨⟨⟨⟨⟨⟨k1,k2⟩,k3⟩,k4⟩,k5⟩,k6⟩,k7⟩,k8⟩,k9⟩,k10⟩:=k
 have hd:IntMulOk 16 dx:=IntMulOk.of_left (by decide)
 have key:∃ev s' l,dB (Yt W) (Ny aT cel cgs csc cps cd ci ca cenv p2 vE) p0 (Hp aT 226) [] s ev s'/\((∃x:cA,(TK tb<=x.t/\x.t<s'.toks)/\ev=.fin (.ret (.ok (.ret (.float (bf dx dy) x.t))))/\l=ax ([(fl aT dx tx dy ty ep)]))/\677<=s'.toks)/\f8 l s'.heap/\cL (pW W) s'/\af ([(fl aT dx tx dy ty ep)]) s s':=by
  have H:=Eq.mpr (r9 W p0 cel cgs csc cps cd ci ca cenv p2 vE aT dx dy tx ty ep (fR dx) (fG dx dy) (Eh dx) (PX dx) (M3 dx) (Qg dx) (Pg dx dy) (LA dx dy) (Pe dx) (Oi dx dy) (LV dx dy) (bf dx dy) n tb gb (fun ev nk tk fin l=>fin=true/\((∃x:cA,(TK tb<=x.t/\x.t<tk)/\ev=.fin (.ret (.ok (.ret (.float (bf dx dy) x.t))))/\l=ax ([(fl aT dx tx dy ty ep)]))/\677<=tk)) _ rfl _ rfl) (by
   iterate 20 refine rI ⟨by first|exact g8 (by decide) k1|exact g8 (by decide) k2|exact g5 hd|exact na|exact i8 k5|exact i8 k6|exact fT (beq_iff_eq.mpr k7)|exact fT (beq_iff_eq.mpr k8)|exact en k9|exact en (beq_iff_eq.mpr k10)|exact eN k3|exact eN k4|exact eN PY|exact m8 Pt,rfl⟩ ?_
   exact ag ⟨rfl,⟨⟨Nat.add (TK tb) 36⟩,⟨le_add_right _ _,Nat.add_lt_add_left (by decide) _⟩,rfl,rfl⟩,eQ⟩ _)
  exact dp (is:=[0]) (by exact⟨fun _=>au,fun _=>au,fun _=>au,fun _=>au,fun _=>au,fun _=>au,fun _=>au,fun _=>au,fun _=>au,fun _=>au,fun _=>au,fun _=>au,fun _=>au,fun _=>au,fun _=>au,fun _=>au,fun _=>au,fun _=>au,fun _=>au,fun _=>au,trivial⟩) (by exact trivial) hP hn ht hg rfl (by rintro ev nk tk l ⟨⟨x,_,rfl,rfl⟩,h⟩;exact⟨rfl,h⟩) H
 obtain⟨ev,s',l,r,⟨⟨x,hx,rfl,rfl⟩,htk⟩,h3,h4,h5⟩:=key
 refine zQ ?_
 have h3:=ai h3
 exact⟨x,s',by rw [bG];exact r,h4,h5,⟨h3.1,trivial⟩,trivial,(fun y hy=>nomatch hy),nodup_nil,by rw [ht];exact hx⟩
theorem CG{P:Params}:ez P=.ListComp (CU (ez P)) (za (ez P)) (iY (ez P)) (Fl (ez P)):=by rfl
theorem yB(W:WW)(b7:Bool)(p0:Pos)(vE:FE)(aF c1 c2 aL aI aC aG aT:Nat)(uF tx ty:Tok)(vF:Value)(dx dy:Int)(k et:Nat)(gs as:Array Value)(epG epA:Nat)(s:Shared)(hit:gs[(Int.ofNat k).toNat]? =some (.ref (A aT)))(hr:eS dx dy)(hsz:as.size<=1000)(E:WW->ae)(hE:E=fun W=>[(A aL,ah "dict" (cond b7 [] [aa (pW W) [115,116,101,112] uF vF]) (cond b7 0 1)),(A aI,aK "list_iterator" [.ref (A aG),.int (Int.ofNat k) 0]),(A aG,ab gs epG),(A aC,ab as epA),(A aT,a9 [.int dx tx,.int dy ty] et)])(hP:az (pW W) (E W) s){Q:Prop}(kQ:∀(n tb:Nat) (s':Shared) (y:Tok) (nt ep:Nat) (th:Tok),Hn s n->Ht s tb->(TK tb<=th/\th<s'.toks)->br (model pw (Vw W)) (⟨ao (ez (pW W)) (bo (pW W) aF c1 c2) aL aI aC,none,none,[(.func vE.f2 vE.n4,vE.p5),(.builtin "claim.caller" {},vE.p6)],none⟩) p0 s s'->cL (pW W) s'->cG ([(A aL,ah "dict" [aa (pW W) [115,116,101,112] y (.ref (A aT))] 1),(A aI,aK "list_iterator" [.ref (A aG),.int (Int.ofNat (k+1)) 0]),(A aG,ab gs epG),(A aC,ab (as.push (.ref (A nt))) ep),(A aT,a9 [.int dx tx,.int dy ty] et),(A nt,a9 [.float (bf dx dy) th,.int dx tx,.int dy ty] 0)]) s'.heap->af (E W) s s'->s.heap.objs.size<=A nt->Q):Q:=by
 obtain⟨n,tb,gb,hn,ht,hg⟩:=hP.nt
 refine p9 (fz:=[]) hE hP hn ht hg (fun E W Z hs=>ch (ec (Vw W) 5 [(bF 1 2 (.ref (A aT))),(b9 3)] [] [Ef (Vw W) (⟨.call (.ref 226) ⟨[.ref (A aT)],[]⟩,none,none,(ao (ez (pW W)) (bo (pW W) aF c1 c2) aL aI aC,⟨174,36,174,50⟩)::[(.func vE.f2 vE.n4,vE.p5),(.builtin "claim.caller" {},vE.p6)],none⟩) ([(A aT,a9 [.int dx tx,.int dy ty] et)]) [4] 5 5 (fun x:cA=>((.ok (.ret (.float (bf dx dy) x.t)),[a9 [.int dx tx,.int dy ty] et],[]):Result×List Obj×ae)) (fun x t1 t2=>t1<=x.t/\x.t<t2)] []) 95 (⟨ao (ez (pW W)) (bo (pW W) aF c1 c2) aL aI aC,none,none,[(.func vE.f2 vE.n4,vE.p5),(.builtin "claim.caller" {},vE.p6)],none⟩) (p0) (a8 (ao (ez (pW W)) (bo (pW W) aF c1 c2) aL aI aC)) [] hs (qR E (A n) (TK tb) gb) (sN [0,1,2,3,4,5] Z)) (fun E W Z hs=>ad (lE E) (A n) gb (sl hs 0 2) (((Rf (.builtin "list_iterator.__next__" ⟨[(.ref (A aI))],[]⟩:Code))/\((Rf (A aG:Addr))/\(((gs[(Int.ofNat k).toNat]?):(Option Value))=(some (.ref (A aT))))))/\ad (lE E) (A n) gb (sl hs 3 7) ((Rf (⟨.call (.ref 226) ⟨[.ref (A aT)],[]⟩,none,none,(ao (ez (pW W)) (bo (pW W) aF c1 c2) aL aI aC,⟨174,36,174,50⟩)::[(.func vE.f2 vE.n4,vE.p5),(.builtin "claim.caller" {},vE.p6)],none⟩:Ctx))/\(Rf (ax ([(A aT,a9 [.int dx tx,.int dy ty] et)])))/\(Rf (true:Bool))/\(Rf (true:Bool))/\∀(x0:cA) (n0 tb0 gb0:Nat),((Nat.add (TK tb) 1)<=x0.t/\x0.t<(TK tb0))->(Rf (true:Bool))/\ad [(A aL),(A aI),(A aG),(A aC),(A aT)] (A n0) gb0 (sl hs 11 13) (((Rf (.builtin "list.append" ⟨[(.ref (A aC)),(.ref (Nat.add (A n0) 0))],[]⟩:Code))/\(((Rf (.type "list":Value))/\((Rf (none:Option Addr))/\(Rf (Array.mk []:Array (Option Value)))))/\(as.size.le 1000)))/\ad [(A aL),(A aI),(A aG),(A aC),(A aT)] (A n0) gb0 (sl hs 25 1) (Z (.again (ao (ez (pW W)) (bo (pW W) aF c1 c2) aL aI aC)) (Nat.add (A n0) 1) (Nat.add (TK tb0) 2) true (ax ([((A aL),⟨(.type "dict"),none,(.dict ⟨[⟨(PyData.keyHash (pW W) (Str.mk ⟨[115,116,101,112]⟩)),(.str (Str.mk ⟨[115,116,101,112]⟩) (cond b7 (TK tb) uF)),(.ref (A aT))⟩]⟩ 1),⟨[]⟩⟩),((A aI),⟨(.type "list_iterator"),none,(.fields ⟨[(.ref (A aG)),(.int (Int.ofNat k+1) 0)]⟩),⟨[]⟩⟩),((A aG),⟨(.type "list"),none,(.seq (gs) epG),⟨[]⟩⟩),(A aC,Obj.mapSeq (·.push (.ref (Nat.add (A n0) 0))) (ab as epA)),((A aT),⟨(.type "tuple"),none,(.seq ⟨[(.int (dx) tx),(.int (dy) ty)]⟩ et),⟨[]⟩⟩),((Nat.add (A n0) 0),⟨(.type "tuple"),none,(.seq ⟨[(.float (bf dx dy) x0.t),(.int (dx) tx),(.int (dy) ty)]⟩ 0),⟨[]⟩⟩)])) ([])))))) (fun _=>[2,2,4000,2,2,1,1,0,1,0,1000,1,5,5,5,5,5,1,5,5,5,5,5,4,4001,4,3000]) (by apply iR b7<;>exact oU (by kernel_rfl)) rfl ⟨fun _=>bi,fun _=>bx,trivial⟩ ⟨zH rfl (by unfold ao;rw [CG];exact ri W _ _ _ _ _ _ _ _ _ vE aT dx dy tx ty et hr),trivial⟩ rfl rfl (fun x hx=>nomatch hx) fun hs=>?_
 refine rI ⟨rfl,rfl,hit⟩ ?_
 refine ag ⟨rfl,rfl,rfl,rfl,fun x0 n0 tb0 gb0 hx0=>⟨rfl,?_⟩⟩ _
 refine rI ⟨rfl,⟨rfl,rfl,rfl⟩,hsz⟩ ?_
 exact rF fun s' r et h3 h4 h5 h6 h7=>kQ n tb s' _ (Nat.add n0 0) _ x0.t hn ht (by rw [et];exact⟨Nat.le_trans (le_add_right _ _) hx0.1,lt_of_lt_of_le hx0.2 (le_add_right _ _)⟩) (am rfl r) h4 (ai h3) h5 (h7 _ (mem_cons_self ..))
theorem GT(W:WW)(p0:Pos)(vE:FE)(aF c1 c2 aL aI aC aG:Nat)(loc:List DictEntry)(k el:Nat)(gs as:Array Value)(epG epA:Nat)(s:Shared)(hit:gs[(Yh k).toNat]? =none)(E:WW->ae)(hE:E=fun W=>[(mw aL loc el),(Y5 aI aG k),(Yk aG gs epG),(Yk aC as epA)])(hP:az (pW W) (E W) s){Q:Prop}(kQ:∀(n tb:Nat) (s':Shared),Hn s n->Ht s tb->Runs (Yt W) (⟨ao (ez (pW W)) (bo (pW W) aF c1 c2) aL aI aC,none,none,(c6 vE),none⟩) p0 ((Yt W).den (ao (ez (pW W)) (bo (pW W) aF c1 c2) aL aI aC)) [] s ft s'->cL (pW W) s'->cG (D2 aL loc el aI k aG gs epG aC as epA) s'.heap->af (E W) s s'->Q):Q:=by
 obtain⟨n,tb,gb,hn,ht,hg⟩:=hP.nt
 refine bT hE hP hn ht hg (fun E W Z hs=>ch (ul W 4 1 2) 53 (⟨ao (ez (pW W)) (bo (pW W) aF c1 c2) aL aI aC,none,none,(c6 vE),none⟩) (p0) (a8 (ao (ez (pW W)) (bo (pW W) aF c1 c2) aL aI aC)) [] hs (cN E n tb gb) (mB Z)) (fun E W Z hs=>ad (lE E) (A n) gb (sl hs 0 2) ((uq aI aG gs k)/\ad (lE E) (A n) gb (sl hs 3 3) (Z (.fin ft) (Y2 n 2) (Y8 tb 0) true (ax ((Hr aL loc el aI k aG gs epG aC as epA)))))) (fun _=>[2,2,4000,2,2,6]) (oU (by kernel_rfl)) rfl ⟨fun _=>ce,trivial⟩ trivial rfl fun hs=>?_
 refine rI ⟨rfl,rfl,hit⟩ ?_
 exact rF fun s' r _ h3 h4 h5=>kQ n tb s' hn ht (by rw [bG];exact r) h4 (ai h3) h5
theorem Gq(W:WW)(p0:Pos)(vE:FE)(aF c1 c2 aL aI aC aG:Nat)(gs:Array Value)(epG:Nat)(s:Shared)(E:WW->ae)(hE:E=fun W=>(Y9 aL aI aG gs epG aC))(hP:az (pW W) (E W) s){Q:Prop}(kQ:∀(n tb:Nat) (s':Shared),Hn s n->Ht s tb->cp (Yt W) (⟨ay (ao (ez (pW W)) (bo (pW W) aF c1 c2) aL aI aC),none,none,(c6 vE),none⟩) (ao (ez (pW W)) (bo (pW W) aF c1 c2) aL aI aC) p0 s s'->az (pW W) ((Y9 aL aI aG gs epG aC)) s'->af (E W) s s'->Q):Q:=by
 obtain⟨n,tb,gb,hn,ht,hg⟩:=hP.nt
 refine bT hE hP hn ht hg (fun E W Z hs=>ch (oX W 4) 52 (⟨ay (ao (ez (pW W)) (bo (pW W) aF c1 c2) aL aI aC),none,none,(c6 vE),none⟩) (p0) (a8 (ay (ao (ez (pW W)) (bo (pW W) aF c1 c2) aL aI aC))) [] hs (cN E n tb gb) (mB Z)) (fun E W Z hs=>ad (lE E) (A n) gb (Aq hs W) (Z (.again (ao (ez (pW W)) (bo (pW W) aF c1 c2) aL aI aC)) (Y2 n 0) (Y8 tb 0) true (ax ((Y9 aL aI aG gs epG aC))))) Ad (pc (by kernel_rfl)) rfl trivial (by exact trivial) rfl fun hs=>?_
 exact rF fun s' r _ h3 h4 h5=>kQ n tb s' hn ht (cf r) ⟨h4,ai h3,(nx hE hP).nd,(nx hE hP).lo⟩ h5
def bq(items:Array Value)(fz:List (Nat×Obj))(ds:List (Int×Int)):Prop:=∀i:Nat,match ds[i]? with
 |some d=>∃a th tx ty et,items[i]? =some (.ref (A a))/\(A a,a9 [.float (bf d.1 d.2) th,.int d.1 tx,.int d.2 ty] et)∈fz
 |none=>items[i]? =none
theorem bq.size{items:Array Value}{fz}{ds:List (Int×Int)}(h:bq items fz ds):items.size=ds.length:=by
 have h1:items[ds.length]? =Option.none:=by
  have:=h ds.length
  rw [List.getElem?_eq_none (Nat.le_refl _)] at this;exact this
 have h2:items.size<=ds.length:=by
  rcases lt_or_ge ds.length items.size with q|q
  ·rw [Array.getElem?_eq_getElem q] at h1;cases h1
  ·exact q
 rcases lt_or_ge items.size ds.length with q|q
 ·have z:=h items.size
  rw [List.getElem?_eq_getElem q] at z
  obtain⟨a,th,tx,ty,et,e,_⟩:=z
  rw [Array.getElem?_eq_none (Nat.le_refl _)] at e;cases e
 ·lia
theorem bq.push{items:Array Value}{fz:List df}{ds:List cw}{a th tx ty et}{d:Int×Int}(h:bq items fz ds):bq (items.push (Yp a)) (fz++[(A a,a9 [.float (bf d.1 d.2) th,.int d.1 tx,.int d.2 ty] et)]) (ds++[d]):=by
 intro i
 have hs:=h.size
 by_cases q:i<ds.length
 ·rw [getElem?_append_left q]
  have z:=h i
  revert z
  rw [List.getElem?_eq_getElem q]
  intro z
  obtain⟨a',th',tx',ty',et',e',hm⟩:=z
  exact⟨a',th',tx',ty',et',by rw [getElem?_push,if_neg (by lia)];exact e',mem_append_left _ hm⟩
 ·by_cases q2:i=ds.length
  ·subst q2
   rw [getElem?_append_right (Nat.le_refl _),Nat.sub_self]
   exact⟨a,th,tx,ty,et,by rw [getElem?_push,if_pos hs.symm],mem_append_right _ (List.mem_singleton.mpr rfl)⟩
  ·rw [getElem?_append_right (by lia),List.getElem?_eq_none (by simp;lia)]
   show _=Option.none
   rw [getElem?_push,if_neg (by lia),Array.getElem?_eq_none (by lia)]
noncomputable def vT(x:Nat×Obj):Tok:=match x.2.data with
 |.seq ⟨.float _ t::_⟩ _=>t
 |_=>0
def dl(fz:List df)(hi:Nat):Prop:=(fz.map vT).Pairwise (·<·)/\∀x∈fz,677<=vT x/\vT x<hi
theorem dl.nil{hi:Nat}:dl [] hi:=⟨List.Pairwise.nil,fun _ h=>nomatch h⟩
theorem dl.push{fz:List (Nat×Obj)}{hi hi' th a:Nat}{h:UInt64}{u v:Value}{et:Nat}(H:dl fz hi)(h0:677<=hi)(h1:hi<=th)(h2:th<hi'):dl (fz++[(a,a9 [.float h th,u,v] et)]) hi':=by
 refine⟨?_,?_⟩
 ·rw [map_append,List.pairwise_append]
  refine⟨H.1,pairwise_singleton ..,fun x hx y hy=>?_⟩
  obtain⟨z,hz,rfl⟩:=List.mem_map.mp hx
  have e:y=th:=by simpa [vT,a9] using hy
  rw [e]
  exact lt_of_lt_of_le (H.2 z hz).2 h1
 ·intro x hx
  rcases List.mem_append.mp hx with hx|hx
  ·exact⟨(H.2 x hx).1,Nat.lt_trans (H.2 x hx).2 (Nat.lt_of_le_of_lt h1 h2)⟩
  ·have e:x=(a,a9 [.float h th,u,v] et):=by simpa using hx
   subst e
   exact⟨Nat.le_trans h0 h1,h2⟩
theorem Co(W:WW)(vE:FE)(aF c1 c2 aL aI aC aG:Nat)(gs:Array Value)(epG:Nat)(fz:List df)(ds:List cw)(hgs:aw gs fz ds)(hr:ranged ds):∀(rest:List cw) (k:Nat) (uF:Tok) (vF:Value) (pre:List cw) (as:Array Value) (ep:Nat) (fzT:List df) (n0:Nat) (p0:Pos) (s:Shared),ds.drop k=rest->bq as fzT pre->dl fzT s.toks->as.size+rest.length<=1000->az (pW W) [(A aL,ah "dict" [aa (pW W) DU uF vF] 1),(Y5 aI aG k),(Yk aG gs epG),(Yk aC as ep)] s->cF fz [(A aL,ah "dict" [aa (pW W) DU uF vF] 1),(Y5 aI aG k),(Yk aG gs epG),(Yk aC as ep)] s->c9 fzT [(A aL,ah "dict" [aa (pW W) DU uF vF] 1),(Y5 aI aG k),(Yk aG gs epG),(Yk aC as ep)] n0 s->n0<=s.heap.objs.size->
  ∀Q:Prop,(∀s' uF' vF' k' ep' as' fzT',Runs (Yt W) ⟨ao (ez (pW W)) (bo (pW W) aF c1 c2) aL aI aC,none,none,(c6 vE),none⟩ p0 ((Yt W).den (ao (ez (pW W)) (bo (pW W) aF c1 c2) aL aI aC)) [] s ft s'->cL (pW W) s'->cG [(A aL,ah "dict" [aa (pW W) DU uF' vF'] 1),(kd aI k'),(Yk aG gs epG),(Yk aC as' ep')] s'.heap->af [(A aL,ah "dict" [aa (pW W) DU uF vF] 1),(Y5 aI aG k),(Yk aG gs epG),(Yk aC as ep)] s s'->bq as' fzT' (pre++rest)->(∃hi,dl fzT' hi)->c9 fzT' [(A aL,ah "dict" [aa (pW W) DU uF' vF'] 1),(kd aI k'),(Yk aG gs epG),(Yk aC as' ep')] n0 s'->Q)->Q:=by
 intro rest0
 induction rest0 with
 |nil=>
  intro k uF vF pre as ep fzT n0 p0 s hd hls hta hsz hP hf hst hn0 Q kQ
  apply GT (W:=W) (hit:=hgs.none hd) (hE:=rfl) (hP:=hP) (p0:=p0) (kQ:=?k87) ..
  case' k87=>intro n tb s' _ _ r h1 h2 h3
  exact kQ s' uF vF k ep as fzT r h1 h2 h3 (by simpa using hls) ⟨_,hta⟩ (hst.keep h3 rfl)
 |cons q rest ih=>
  intro k uF vF pre as ep fzT n0 p0 s hd hls hta hsz hP hf hst hn0 Q kQ
  obtain⟨hk,hd'⟩:=bw hd
  obtain⟨aT,tx,ty,et,hit,hx⟩:=hgs.some hk
  have hP5:=hP.add hf hx (by show 245<=aT+245;lia)
  apply yB (b7:=false) (W:=W) (hit:=hit) (hr:=hr q (mem_of_getElem? hk)) (hsz:=by simp at hsz;lia) (hE:=rfl) (hP:=hP5) (p0:=p0) (kQ:=?k89) ..
  case' k89=>intro n tb s1 y nt ep1 th _ htb hth zp88 h4 hF K hnew
  obtain⟨p',H⟩:=zp88
  have K4:=af.cut (E:=[(A aL,ah "dict" [aa (pW W) DU uF vF] 1),(Y5 aI aG k),(Yk aG gs epG),(Yk aC as ep)]) (x:=(A aT,a9 [.int q.1 tx,.int q.2 ty] et)) K (hf _ hx).1 hF.2.2.2.2.1
  have hP1:az (pW W) [(A aL,ah "dict" [aa (pW W) Lf y (Yp aT)] 1),(uv aI aG k),(Yk aG gs epG),(A aC,ab (as.push (Yp nt)) ep1)] s1:=⟨h4,⟨hF.1,hF.2.1,hF.2.2.1,hF.2.2.2.1,trivial⟩,hP.nd,hP.lo⟩
  have hn1:s.heap.objs.size<=A nt:=hnew
  have ho:s1.heap.get? (A nt)=some (a9 [.float (bf q.1 q.2) th,.int q.1 tx,.int q.2 ty] 0):=hF.2.2.2.2.2.1
  refine ih (k+1) y _ (pre++[q]) _ ep1 (fzT++[(A nt,a9 [.float (bf q.1 q.2) th,.int q.1 tx,.int q.2 ty] 0)]) n0 p' s1 hd' hls.push (hta.push hP.rdy.toks (by rw [htb];exact hth.1) hth.2) (by simp at hsz⊢;lia) hP1 (hf.keep K4 rfl) ((hst.keep K4 rfl).add hP rfl ho hn1 hn0) (Nat.le_trans hn0 K4.size) _ fun s2 u2 v2 k2 ep2 as2 fz2 r h5 h6 h7 h8 h8t h9=>?_
  exact kQ s2 u2 v2 k2 ep2 as2 fz2 (H _ _ r) h5 h6 (K4.trans (h7.cast rfl)) (by simpa using h8) h8t h9
structure BR where
 u:Tok
 v:Value
 k:Nat
 ep:Nat
 ls:Array Value
 fz:List (Nat×Obj)
noncomputable def rQ(W:WW)(vE:FE)(aF c1 c2 aL aI aC aG:Nat)(gs:Array Value)(epG:Nat)(x:BR):Result×List Obj×ae:=(mV,([(A aL,ah "dict" [aa (pW W) Lf x.u x.v] 1),(A aI,aK "list_iterator" [.none,.int (Int.ofNat x.k) 0]),(Yk aG gs epG),(A aC,ab x.ls x.ep)]:ae).map (·.2),[])
theorem cv.to{X:Type}{w':World}{Γ:Ctx}{C:Code}{E:ae}{fz:List (Nat×Obj)}{out:X->Result×List Obj×ae}{fo:X->ae}{cond:X->Prop}(h:cv w' (Γ.goto C) E fz out fo cond)
  (g:∀p s,az w'.params E s->∃s',cp (model pw w') Γ C p s s'/\az w'.params E s'/\af E s s'):cv w' Γ E fz out fo cond:=by
 intro p s hP hf
 refine gQ fun Q zQ=>?_
 obtain⟨s1,⟨p',H⟩,hP',K⟩:=g p s hP
 obtain⟨x,s2,r,rdy,K2,has,hasN,newN,ndN,cx,hfo⟩:=h p' s1 hP' (hf.keep K rfl)
 refine zQ ?_
 exact⟨x,s2,H _ _ r,rdy,K.trans K2,has,hasN,(fun y hy=>Nat.le_trans K.size (newN y hy)),ndN,cx,fun y hy=>⟨(hfo y hy).1,Nat.le_trans K.size (hfo y hy).2.1,(hfo y hy).2.2⟩⟩
abbrev NC a:=aK "list_iterator" [fy a,.int (Int.ofNat (0+1)) 0]
theorem vO(W:WW)(vE:FE)(aF c1 c2 aL aI aC aG:Nat)(gs:Array Value)(epG:Nat)(fz:List df)(ds:List cw)(hgs:aw gs fz ds)(hr:ranged ds)(hne:ds≠[])(hlen:ds.length<=900):
  cv (Vw W) ⟨ay (ao (ez (pW W)) (bo (pW W) aF c1 c2) aL aI aC),none,none,(c6 vE),none⟩ (Y9 aL aI aG gs epG aC) fz (rQ W vE aF c1 c2 aL aI aC aG gs epG) (fun x=>x.fz) (fun x=>bq x.ls x.fz ds/\∃hi,dl x.fz hi):=
 cv.to (C:=ao (ez (pW W)) (bo (pW W) aF c1 c2) aL aI aC) (fun p0 s hP hf=>by
  obtain⟨q,rest,rfl⟩:∃q rest,ds=q::rest:=by cases ds with|nil=>exact(hne rfl).elim|cons q r=>exact⟨q,r,rfl⟩
  obtain⟨aT,tx,ty,et,hit,hx⟩:=hgs.some (k:=0) rfl
  have hP5:=hP.add hf hx (by show 245<=aT+245;lia)
  apply yB (b7:=true) (W:=W) (hit:=hit) (hr:=hr q (mem_of_getElem? (i:=0) rfl)) (hsz:=zero_le _) (hE:=rfl) (hP:=hP5) (p0:=p0) (uF:=0) (vF:=.none) (kQ:=?k91) ..
  case' k91=>intro n tb s1 y nt ep1 th _ htb hth zp90 h4 hF K hnew
  obtain⟨p',H⟩:=zp90
  have K4:=af.cut (E:=(Y9 aL aI aG gs epG aC)) (x:=(A aT,a9 [.int q.1 tx,.int q.2 ty] et)) K (hf _ hx).1 hF.2.2.2.2.1
  have hP1:az (pW W) [(A aL,ah "dict" [aa (pW W) Lf y (Yp aT)] 1),(A aI,NC aG),(Yk aG gs epG),(A aC,ab (HD nt) ep1)] s1:=⟨h4,⟨hF.1,hF.2.1,hF.2.2.1,hF.2.2.2.1,trivial⟩,hP.nd,hP.lo⟩
  have hn1:s.heap.objs.size<=A nt:=hnew
  have ho:s1.heap.get? (A nt)=some (a9 [.float (bf q.1 q.2) th,.int q.1 tx,.int q.2 ty] 0):=hF.2.2.2.2.2.1
  have hst0:c9 [] (Y9 aL aI aG gs epG aC) s.heap.objs.size s:=fun y hy=>nomatch hy
  have hls0:bq (⟨[]⟩:Array Value) [] []:=fun i=>by simp
  refine Co W vE aF c1 c2 aL aI aC aG gs epG fz (q::rest) hgs hr rest 1 y _ ([]++[q]) _ ep1 ([]++[(A nt,a9 [.float (bf q.1 q.2) th,.int q.1 tx,.int q.2 ty] 0)]) s.heap.objs.size p' s1 rfl hls0.push ((dl.nil (hi:=s.toks)).push hP.rdy.toks (by rw [htb];exact hth.1) hth.2) (by simp at hlen⊢;lia) hP1 (hf.keep K4 rfl) ((hst0.keep K4 rfl).add hP rfl ho hn1 (Nat.le_refl _)) K4.size _ fun s2 u2 v2 k2 ep2 as2 fz2 r h5 h6 h7 h8 h8t h9=>?_
  exact⟨⟨u2,v2,k2,ep2,as2,fz2⟩,s2,H _ _ r,h5,K4.trans (h7.cast rfl),⟨h6.1,h6.2.1,h6.2.2.1,h6.2.2.2.1,trivial⟩,trivial,(fun y hy=>nomatch hy),nodup_nil,⟨by simpa using h8,h8t⟩,fun y hy=>⟨(h9 y hy).1,(h9 y hy).2.2,by simp [rQ]⟩⟩) fun p s hP=>by
  apply Gq (W:=W) (p0:=p) (hE:=rfl) (hP:=hP) (kQ:=?k92) ..
  case' k92=>intro n tb s' _ _ H hP' K
  exact⟨s',H,hP',K⟩
noncomputable def jN{X Y:Type}(w':World)(pre:St->Y->Prop)(G:St->Ctx)(E:St->ae)(is:List Nat)(mm ro:Nat)(out:St->X->Result×List Obj×ae)(fo:X->ae)(cond:St->Y->X->Prop):bL:=fun Γ p c st K=>∃y,pre st y/\Γ=G st/\tQ (E st) is mm ro (out st) fo (cond st y) st K
theorem fI{X Y:Type}{w':World}{pre:St->Y->Prop}{G:St->Ctx}{E:St->ae}{is:List Nat}{V:XV}{out:St->X->Result×List Obj×ae}{fo:X->ae}{cond:St->Y->X->Prop}(hk:V.kt=eD w'.params)(hc:∀st y,pre st y->∃fz,(∀x∈fz,x∈st.fz)/\cv w' (G st) (E st) fz (out st) fo (cond st y)):bX V (model pw w') (jN w' pre G E is V.mm V.ro out fo cond):=by
 intro h0 d os Γ p c st K s H hΓ R
 obtain⟨y,h1,h2,H⟩:=H
 subst hΓ
 obtain⟨fz,hm,hc⟩:=hc st y h1
 rw [<-h2] at hc
 exact kR hk (fun hP hf=>hc p s hP fun x hx=>hf x (mem_append_right _ (hm x hx))) H R
noncomputable def DX(W:WW)(vE:FE)(aF c1 c2 iL iI iC iG mm ro:Nat):bL:=jN (X:=BR) (Y:=List cw) (Vw W) (fun st ds=>aw (fp st iG) st.fz ds/\ranged ds/\ds≠[]/\ds.length<=900) (fun st=>⟨ay (ao (ez (pW W)) (bo (pW W) aF c1 c2) (b8 st iL) (b8 st iI) (b8 st iC)),none,none,(c6 vE),none⟩) (Lj iL iI iG iC) [iL,iI,iG,iC] mm ro (fun st=>rQ W vE aF c1 c2 (b8 st iL) (b8 st iI) (b8 st iC) (b8 st iG) (fp st iG) (fc st iG)) (fun x=>x.fz) (fun st ds x=>bq x.ls x.fz ds/\∃hi,dl x.fz hi)
theorem xO(W:WW)(vE:FE)(aF c1 c2:Nat){iL iI iC iG:Nat}{V:XV}(hk:V.kt=eD (pW W)):bX V (model pw (Vw W)) (DX W vE aF c1 c2 iL iI iC iG V.mm V.ro):=
 fI hk fun st ds h=>⟨st.fz,fun _ h=>h,vO W vE aF c1 c2 _ _ _ _ _ _ st.fz ds h.1 h.2.1 h.2.2.1 h.2.2.2⟩
section
open PyProof.Rows
section
theorem rR{P:Params}{s:Shared}(R:cL P s):NoneBooked s.heap:=by
 obtain⟨o,ep,e,d⟩:∃o ep,(eD P).get 2=some o/\o.data=.dict #[] ep:=⟨_,_,rfl,rfl⟩
 exact⟨fun _=>none,⟨o, #[],ep,R.base 2 o e,d,(fun e he=>by simp at he),fun name=>rfl⟩,rfl⟩
section
variable{prog:Program}{w:World}{A:Around}{E:Value->Shared->Prop}{s:Shared}
theorem nz{a b:UInt64}{t u:Tok}{Q:Bool->Shared->Prop}(h0:(t==0||u==0)=false)(hb:NoneBooked s.heap)(h1:t=u->Q true s)(h2:a=b->∀b,Q b s)(h3:Q false s):wpAny (model prog w) A (isSame (.float a t) (.float b u)) Q E s:=by
 show wpAny _ A (isSame.created (a==b&& !Float64.isNaN a) t u) Q E s
 unfold isSame.created
 refine wpAny_ite ?_
 split
 ·rename_i h;rw [h0] at h;exact absurd h Bool.false_ne_true
 refine wpAny_ite ?_
 split
 ·rename_i h;exact wpAny_pure (h1 (eq_of_beq h))
 refine wpAny_ite ?_
 split
 ·exact wpAny_pure h3
 rename_i h
 have e:a=b:=by
  simp only [Bool.not_eq_true,Bool.not_eq_false',Bool.and_eq_true] at h
  exact eq_of_beq h.1
 refine wpAny_bind (wpAny_sharingNotTold_none hb ?_)
 first|rw [if_neg Bool.false_ne_true]|simp only [Bool.false_eq_true,if_false]
 refine wpAny_bind (wpAny_sharingNotTold_none hb ?_)
 first|rw [if_neg Bool.false_ne_true]|simp only [Bool.false_eq_true,if_false]
 exact wpAny_bind (wpAny_rule (wpAny_bind (wpAny_askSetting (wpAny_pure (h2 e _)))))
theorem nE{a b:UInt64}{t u:Tok}{Q:Bool->Shared->Prop}(h0:(t==0||u==0)=false)(hb:NoneBooked s.heap)(hc:t=u\/a=b->Float64.cmp a b=some .eq)(h:Q (Float64.cmp a b==some .eq) s):wpAny (model prog w) A (eqBool (.float a t) (.float b u)) Q E s:=by
 unfold eqBool
 show wpAny _ _ (if(Value.float a t==Value.float b u)=true then _ else _) Q E s
 have rest:wpAny (model prog w) A (truthOfDropped=<<richCompare .Eq (.float a t) (.float b u)) Q E s:=
  wpAny_bind (AutoFloatOps.eq_0 (wpAny_truthy_bool h))
 by_cases hab:(Value.float a t==Value.float b u)=true
 ·rw [if_pos hab]
  have e:a=b:=by have:=eq_of_beq hab;injection this
  have hq:=hc (.inr e)
  rw [hq] at h
  exact wpAny_bind (wpAny_rule (wpAny_pure h))
 ·rw [if_neg hab]
  show wpAny _ _ (isSame (.float a t) (.float b u)>>=fun r=>if r=true then _ else _) Q E s
  have yes:t=u\/a=b->Q true s:=fun q=>by have z:=hc q;rw [z] at h;exact h
  refine wpAny_bind (nz h0 hb (fun e=>?_) (fun e b=>?_) ?_)
  ·exact wpAny_pure (yes (.inl e))
  ·cases b
   ·exact rest
   ·exact wpAny_pure (yes (.inr e))
  ·exact rest
theorem oZ{a b:UInt64}{t u:Tok}{Q:Bool->Shared->Prop}(h:Q (Float64.cmp a b==some .lt) s):wpAny (model prog w) A (oneLt' true (.float a t) (.float b u)) Q E s:=by
 rw [oneLt'_eq]
 simp only [if_true]
 refine wpAny_bind (wpAny_cRoomFor_byValue rfl ?_)
 refine wpAny_bind (wpAny_callSpecialIfBound?_slot (AutoFloatOps.typeIs_float s a t) F.slot_float_lt (call_gives F.slot_float_lt (AutoFloatOps.typeIs_float s a t) F.entry_float_lt (F.args_float_lt_2 _ _) (AutoFloatG5.float___lt___float_float_0 a t b u) ?_))
 exact wpAny_truthy_bool h
end
noncomputable def pe(d e:Int×Int):Bool:=if d.2*e.1=e.2*d.1 then(if d.1=e.1 then(if d.2=e.2 then false else decide (d.2<e.2)) else decide (d.1<e.1)) else decide (d.2*e.1<e.2*d.1)
theorem sx{a b:Int}:(a==b)=decide (a=b):=by
 by_cases h:a=b
 ·rw [decide_eq_true h,h];exact beq_self_eq_true b
 ·rw [decide_eq_false h];exact beq_eq_false_iff_ne.mpr h
section
variable{prog:Program}{w:World}{A:Around}{E:Value->Shared->Prop}{s:Shared}
theorem sh{a b:Int}{t u:Tok}{Q:Bool->Shared->Prop}(h:Q (decide (a<b)) s):wpAny (model prog w) A (oneLt' false (.int a t) (.int b u)) Q (fun _ _=>False) s:=by
 refine kat_one _ _ ?_
 exact wpAny_lt_int h
theorem G7{d e:Int×Int}{x y:Addr}{tx ty ux uy vx vy:Tok}{ex ey:Nat}{Q:Bool->Shared->Prop}(hd:cV d)(he:cV e)(h0:(tx==0||ty==0)=false)(hb:NoneBooked s.heap)(ht:tx=ty->d.2*e.1=e.2*d.1)
  (hx:s.heap.get? x=some (a9 [.float (bf d.1 d.2) tx,.int d.1 ux,.int d.2 vx] ex)) (hy:s.heap.get? y=some (a9 [.float (bf e.1 e.2) ty,.int e.1 uy,.int e.2 vy] ey)) (h:Q (pe d e) s):
  wpAny (model prog w) A (keyLt' (tuples' true) (.ref x) (.ref y)) Q E s:=by
 refine kat_lt hx rfl hy rfl ?_
 show KatLex prog w A true _ Q [(Hw d tx,Hw e ty),(.int d.1 ux,.int e.1 uy),(.int d.2 vx,.int e.2 vy)] 0 s
 refine kat_cons (nE h0 hb (fun q=>?_) ?_)
 ·have z:d.2*e.1=e.2*d.1:=by
   rcases q with q|q
   ·exact ht q
   ·have c:=iw hd he
    rw [<-q] at c
    have c2:=iw hd hd
    rw [c2] at c
    have:decide (d.2*d.1=d.2*d.1)=true:=decide_eq_true rfl
    rw [this] at c
    exact of_decide_eq_true c.symm
  have c:=iw hd he
  rw [decide_eq_true z] at c
  exact eq_of_beq c
 rw [iw hd he]
 unfold pe at h
 refine kat_go (fun q=>?_) (fun q=>?_)
 ·rw [if_pos (of_decide_eq_true q)] at h
  refine kat_yes (kat_cons (wpAny_eqBool_int ?_))
  rw [sx]
  refine kat_go (fun q=>?_) (fun q=>?_)
  ·rw [if_pos (of_decide_eq_true q)] at h
   refine kat_yes (kat_cons (wpAny_eqBool_int ?_))
   rw [sx]
   refine kat_go (fun q=>?_) (fun q=>?_)
   ·rw [if_pos (of_decide_eq_true q)] at h
    exact kat_yes (kat_nil h)
   ·rw [if_neg (of_decide_eq_false q)] at h
    exact kat_no (sh h)
  ·rw [if_neg (of_decide_eq_false q)] at h
   exact kat_no (sh h)
 ·rw [if_neg (of_decide_eq_false q)] at h
  refine kat_no (oZ ?_)
  rw [y0 hd he]
  exact h
end
noncomputable def oO(d:Int×Int):Int:=60*d.2/d.1*10+d.1
theorem uQ:(iJ.all fun a=>iJ.all fun b=>pe (a.1,a.2.1) (b.1,b.2.1)==decide (oO (a.1,a.2.1)<oO (b.1,b.2.1)))=true:=by decide+kernel
theorem nh{d e:Int×Int}(hd:cV d)(he:cV e):pe d e=decide (oO d<oO e):=by
 obtain⟨a,ha,a1,a2,_⟩:=ig hd
 obtain⟨b,hb,b1,b2,_⟩:=ig he
 have z:=beq_iff_eq.mp (List.all_eq_true.mp (List.all_eq_true.mp uQ a ha) b hb)
 rw [a1,a2,b1,b2] at z;exact z
end
noncomputable def mn{α:Type}(n:Nat)(lt:Nat->Nat->Bool):KasT α->Option α
 |.ret a=>some a
 |.ask i j k=>if Nat.blt i n&&Nat.blt j n then mn n lt (k (lt i j)) else none
theorem sG{α:Type}{n:Nat}{lt:Nat->Nat->Bool}{cmp:Nat->Nat->(Bool->Shared->Prop)->Shared->Prop}{Q:α->Shared->Prop}{s:Shared}(hc:∀i j C,i<n->j<n->C (lt i j) s->cmp i j C s):∀(t:KasT α) (a:α),mn n lt t=some a->Q a s->t.kasWp cmp Q s
 |.ret b,a,e,h=>by
  have e:some b=some a:=e
  cases e;exact h
 |.ask i j k,a,e,h=>by
  unfold mn at e
  split at e
  ·rename_i q
   rw [Bool.and_eq_true] at q
   exact hc i j _ (Nat.blt_eq▸q.1) (Nat.blt_eq▸q.2) (sG hc (k (lt i j)) a e h)
  ·cases e
noncomputable def CX(r:Nat->Nat):List Nat->Bool
 |[]=>true
 |a::l=>l.all (fun b=>Nat.ble (r a) (r b))&&CX r l
noncomputable def g6(n:Nat)(r:Nat->Nat):Bool:=match mn n (fun i j=>Nat.blt (r i) (r j)) (kas_sort n) with
 |some p=>Nat.beq p.toList.length n&&(List.range n).all (fun i=>p.toList.any (Nat.beq i))&&CX r p.toList&&p.toList.all (fun i=>Nat.blt i n)
 |none=>false
noncomputable def rX(m:Nat):Nat->List (List Nat)
 |0=>[[]]
 |n+1=>(List.range m).flatMap fun x=>(rX m n).map (x::·)
theorem pA{m:Nat}:∀(l:List Nat),(∀x∈l,x<m)->l∈rX m l.length
 |[],_=>List.mem_singleton.mpr rfl
 |x::l,h=>List.mem_flatMap.mpr ⟨x,List.mem_range.mpr (h x (mem_cons_self ..)),List.mem_map.mpr ⟨l,pA l fun y hy=>h y (mem_cons_of_mem _ hy),rfl⟩⟩
noncomputable def mt:List Nat->Nat->Nat
 |[],_=>0
 |a::_,0=>a
 |_::l,i+1=>mt l i
theorem sX:∀(l:List Nat) (i:Nat),mt l i=l.getD i 0
 |[],i=>by cases i<;>rfl
 |a::l,0=>rfl
 |a::l,i+1=>sX l i
theorem MO:((rX 2 2).all fun l=>g6 2 (mt l))=true:=by decide+kernel
theorem Pb:((rX 3 3).all fun l=>g6 3 (mt l))=true:=by decide+kernel
theorem Om:((rX 4 4).all fun l=>g6 4 (mt l))=true:=by decide+kernel
theorem Ml:((rX 5 5).all fun l=>g6 5 (mt l))=true:=by decide+kernel
theorem ln{α:Type}{n:Nat}{lt lt':Nat->Nat->Bool}(h:∀i j,i<n->j<n->lt i j=lt' i j):∀t:KasT α,mn n lt t=mn n lt' t
 |.ret a=>rfl
 |.ask i j k=>by
  unfold mn
  split
  ·rename_i q
   rw [Bool.and_eq_true] at q
   rw [h i j (Nat.blt_eq▸q.1) (Nat.blt_eq▸q.2)]
   exact ln h _
  ·rfl
theorem jX:∀(m l:List Nat),m.Nodup->(∀x∈m,x∈l)->l.length=m.length->l.Perm m
 |[],l,_,_,h=>by rw [eq_nil_of_length_eq_zero h]
 |x::m,l,hn,hs,h=>by
  have hx:=hs x (mem_cons_self ..)
  have hn:=List.nodup_cons.mp hn
  refine(List.perm_cons_erase hx).trans ((jX m (l.erase x) hn.2 (fun y hy=>?_) ?_).cons x)
  ·exact(List.mem_erase_of_ne (fun e=>hn.1 (by rw [<-e];exact hy))).mpr (hs y (mem_cons_of_mem _ hy))
  ·rw [List.length_erase_of_mem hx,h];rfl
theorem l7{p q:Nat->Bool}:∀(l:List Nat),(∀x,p x=true->q x=true)->(∃x∈l,q x=true/\p x=false)->l.countP p<l.countP q
 |[],_,h=>by obtain⟨_,h,_⟩:=h;cases h
 |a::l,hpq,h=>by
  rw [List.countP_cons,List.countP_cons]
  have mono:l.countP p<=l.countP q:=List.countP_mono_left fun x _=>hpq x
  obtain⟨x,hx,h1,h2⟩:=h
  rcases List.mem_cons.mp hx with rfl|hx
  ·rw [h1,h2];simp;lia
  ·have ih:=l7 l hpq ⟨x,hx,h1,h2⟩
   have:(if p a=true then 1 else 0)<=(if q a=true then 1 else 0):=by
    by_cases g:p a=true
    ·rw [if_pos g,if_pos (hpq a g)];exact Nat.le_refl _
    ·rw [if_neg g];exact zero_le _
   lia
noncomputable def dW(key:Nat->Int)(n i:Nat):Nat:=(List.range n).countP fun j=>decide (key j<key i)
theorem tP{key:Nat->Int}{n i j:Nat}(hi:i<n)(hj:j<n):Nat.blt (dW key n i) (dW key n j)=decide (key i<key j):=by
 by_cases h:key i<key j
 ·rw [decide_eq_true h,Nat.blt_eq]
  exact l7 _ (fun x hx=>by have:=of_decide_eq_true hx;exact decide_eq_true (by lia)) ⟨i,List.mem_range.mpr hi,decide_eq_true h,decide_eq_false (by lia)⟩
 ·rw [decide_eq_false h]
  have:dW key n j<=dW key n i:=List.countP_mono_left fun x _ hx=>by have:=of_decide_eq_true hx;exact decide_eq_true (by lia)
  cases q:Nat.blt (dW key n i) (dW key n j)
  ·rfl
  ·have:=Nat.blt_eq▸q;have:=(Nat.blt_eq (x:=dW key n i) (y:=dW key n j)).mp q;lia
theorem qZ{key:Nat->Int}{n i:Nat}(hi:i<n):dW key n i<n:=by
 have a:(List.range n).countP (fun j=>decide (key j<key i))<(List.range n).countP (fun _=>true):=l7 _ (fun _ _=>rfl) ⟨i,List.mem_range.mpr hi,rfl,decide_eq_false (by lia)⟩
 rw [List.countP_true,length_range] at a
 exact a
theorem sA{r:Nat->Nat}:∀{l:List Nat},CX r l=true->l.Pairwise fun a b=>r a<=r b
 |[],_=>List.Pairwise.nil
 |a::l,h=>by
  unfold CX at h
  rw [Bool.and_eq_true] at h
  exact List.pairwise_cons.mpr ⟨fun b hb=>le_of_ble_eq_true (List.all_eq_true.mp h.1 b hb),sA h.2⟩
theorem jt{r:Nat->Nat}{n i:Nat}(h:i<n):mt ((List.range n).map r) i=r i:=by
 rw [sX]
 simp [h]
abbrev Il a b:=(List.range a).map (dW b a)
theorem vS{n:Nat}(h2:2<=n)(h5:n<=5)(key:Nat->Int):∃p:Array Nat,mn n (fun i j=>decide (key i<key j)) (kas_sort n)=some p/\p.toList.Perm (List.range n)/\p.toList.Pairwise fun a b=>key a<=key b:=by
 have hl:(Il n key).length=n:=by simp
 have hm:(List.range n).map (dW key n)∈rX n n:=by
  have:=pA (m:=n) (Il n key) fun x hx=>by
   obtain⟨i,hi,rfl⟩:=List.mem_map.mp hx
   exact qZ (List.mem_range.mp hi)
  rw [hl] at this;exact this
 have hc:g6 n (mt (Il n key))=true:=by
  have cs:n=2\/n=3\/n=4\/n=5:=by lia
  rcases cs with rfl|rfl|rfl|rfl
  ·exact List.all_eq_true.mp MO _ hm
  ·exact List.all_eq_true.mp Pb _ hm
  ·exact List.all_eq_true.mp Om _ hm
  ·exact List.all_eq_true.mp Ml _ hm
 unfold g6 at hc
 have ecc:mn n (fun i j=>Nat.blt (mt (Il n key) i) (mt (Il n key) j)) (kas_sort n)=mn n (fun i j=>decide (key i<key j)) (kas_sort n):=
  ln (fun i j hi hj=>by rw [jt hi,jt hj];exact tP hi hj) _
 rw [ecc] at hc
 split at hc
 ·rename_i p hp
  simp only [Bool.and_eq_true] at hc
  obtain⟨⟨⟨c1,c2⟩,c3⟩,c4⟩:=hc
  have lt:∀x∈p.toList,x<n:=fun x hx=>by have:=List.all_eq_true.mp c4 x hx;exact(Nat.blt_eq).mp this
  refine⟨p,hp,jX _ _ List.nodup_range (fun x hx=>?_) (by rw [length_range];exact eq_of_beq_eq_true c1),?_⟩
  ·obtain⟨y,hy,e⟩:=List.any_eq_true.mp (List.all_eq_true.mp c2 x hx)
   rw [eq_of_beq_eq_true e];exact hy
  ·refine(List.Pairwise.and_mem.mp (sA c3)).imp fun{a b} h=>?_
   obtain⟨ha,hb,h⟩:=h
   rw [jt (lt a ha),jt (lt b hb)] at h
   have q:=tP (key:=key) (lt b hb) (lt a ha)
   rcases(by lia:key b<key a\/key a<=key b) with g|g
   ·rw [decide_eq_true g] at q
    have:=(Nat.blt_eq (x:=dW key n b) (y:=dW key n a)).mp q
    lia
   ·exact g
 ·cases hc
section
section
variable{prog:Program}{w:World}{A:Around}{E:Value->Shared->Prop}{s:Shared}
noncomputable abbrev K9(a:Array Nat)(b:List Value):=a.toList.map fun i=>b.getD i Value.none
theorem mi{a:Addr}{vs:List Value}{n:Nat}{P:PySem.Fin->Shared->Prop}{p:Array Nat}(ho:s.heap.get? a=some (seqObj "list" vs.toArray n))(h2:2<=vs.length)(h64:vs.length<64)(hp:p.size=vs.length)
  (hk:∀h',(∀b o,b≠a->s.heap.get? b=some o->h'.get? b=some o)->wpAny (model prog w) A (keyKind' vs.toArray) (fun κ s'=>(kas_sort vs.length).kasWp (kas_ask prog w A κ vs) (fun q s''=>q=p/\s''={s with heap:=h'}) s') (fun _ _=>False) {s with heap:=h'})
  (h:P (.done (.ret .none)) {s with heap:=sortedHeap s.heap a vs (List.toArray (K9 p vs))}):
  wpAny (model prog w) A (Builtin.«list.sort» ⟨[.ref a],[]⟩) P E s:=by
 have ha:a<s.heap.objs.size:=Heap.lt_size ho
 obtain⟨e1,ho1⟩:∃e1,(s.heap.update a (Obj.mapSeq fun _=>(#[]:Array Value))).get? a=some (seqObj "list" #[] e1):=⟨_,get?_update_seq ho fun _=> #[]⟩
 have ho6:(((s.heap.update a (Obj.mapSeq fun _=>(#[]:Array Value))).push (seqObj "tuple" vs.toArray 0)).push (seqObj "list" #[] 0)).get? a=some (seqObj "list" #[] e1):=
  Heap.get?_push_of_some _ (Heap.get?_push_of_some _ ho1)
 have keep:∀b o,b≠a->s.heap.get? b=some o->(((s.heap.update a (Obj.mapSeq fun _=>(#[]:Array Value))).push (seqObj "tuple" vs.toArray 0)).push (seqObj "list" #[] 0)).get? b=some o:=fun b o hb e=>
  Heap.get?_push_of_some _ (Heap.get?_push_of_some _ ((Heap.get?_update_ne _ _ _ _ hb).trans e))
 have ask:=hk _ keep
 rw [list_sort_plain]
 refine wpAny_bind (listItems_at ho rfl ?_)
 refine wpAny_bind (listUpdate_at ho rfl ?_ (by rw [size_toArray,sizeLine_eq];lia) (zero_le _))
 refine wpAny_bind (seqEpoch_at ho1 rfl ?_)
 refine wpAny_bind (wpAny_newTuple ?_ (by show vs.length<=_;rw [sizeLine_eq];lia))
 refine wpAny_bind (wpAny_newList ?_ (zero_le _))
 refine wpAny_holding ?_
 show wpAny (model prog w) A _ P E {s with heap:=((s.heap.update a (Obj.mapSeq fun _=>(#[]:Array Value))).push (seqObj "tuple" vs.toArray 0)).push (seqObj "list" #[] 0)}
 dsimp only
 have hn2:¬vs.toArray.size<2:=by rw [size_toArray];lia
 rw [if_neg hn2,if_neg hn2]
 refine wpAny_bind (wpAny_mono ask (fun κ s0 hk=>?_) fun _ _ x=>x.elim)
 refine wpAny_bind (wpAny_mono (kat_run (Q:=fun st' s'=>arrOf st'=p.map (kas_item (vs.toArray.zip vs.toArray))/\failedOf st'=none/\s'={s with heap:=((s.heap.update a (Obj.mapSeq fun _=>(#[]:Array Value))).push (seqObj "tuple" vs.toArray 0)).push (seqObj "list" #[] 0)})
  rfl h2 h64 (fun p' st' s' a1 a2 a3 a4=>⟨by rw [<-a4.1];exact a2,a3,a4.2⟩) hk) ?_ fun _ _ e=>e)
 rintro⟨⟨⟩,st'⟩ s' ⟨har,hf,rfl⟩
 dsimp only
 have hout:=kat_snds rfl har
 have hsz:(List.toArray (K9 p vs)).size=vs.length:=by rw [size_toArray,length_map,length_toList,hp]
 rw [hout]
 refine wpAny_bind (seqEpoch_at ho6 rfl ?_)
 refine wpAny_bind (listUpdate_at ho6 rfl ?_ (zero_le _) (Nat.le_trans (le_of_eq hsz) (by rw [sizeLine_eq];lia)))
 rw [hf]
 simp only [bne_self_eq_false,Bool.false_eq_true,if_false]
 exact wpAny_pure h
theorem sb{l:Addr}{vs:List Value}{Q:PySem.Fin->Shared->Prop}{p:Array Nat}(hl:s.heap.IsList l vs.toArray)(h2:2<=vs.length)(h64:vs.length<64)(hp:p.size=vs.length)
  (hk:∀h',(∀b o,s.heap.get? b=some o->h'.get? b=some o)->wpAny (model prog w) A.in1 (keyKind' vs.toArray) (fun κ s'=>(kas_sort vs.length).kasWp (kas_ask prog w A.in1 κ vs) (fun q s''=>q=p/\s''={s with heap:=h'}) s') (fun _ _=>False) {s with heap:=h'})
  (h:∀h' ep,(∀b o,s.heap.get? b=some o->h'.get? b=some o)->h'.get? (s.heap.objs.size+1)=some (seqObj "list" (List.toArray (K9 p vs)) ep)->Q (.done (.ret (.ref (s.heap.objs.size+1)))) {s with heap:=h'}):
  wpAny (model prog w) A (Builtin.«sorted» ⟨[.ref l],[]⟩) Q E s:=by
 unfold Builtin.«sorted»
 refine wpAny_bind (m:=checkCount "sorted" 1 1 _) (wpAny_pure ?_)
 refine wpAny_bind (collect_list hl ?_ (by rw [sizeLine_eq];lia))
 refine wpAny_bind (wpAny_newList ?_ (by rw [sizeLine_eq];lia))
 have hsz:((s.heap.push (seqObj "list" #[] 0)).update s.heap.objs.size (Obj.mapSeq (·++vs.toArray))).objs.size=s.heap.objs.size+1:=by
  rw [Heap.size_update,size_push']
 have hoL:(((s.heap.push (seqObj "list" #[] 0)).update s.heap.objs.size (Obj.mapSeq (·++vs.toArray))).push (seqObj "list" vs.toArray 0)).get? (s.heap.objs.size+1)=some (seqObj "list" vs.toArray 0):=by
  rw [<-hsz];exact Heap.get?_push_size _ rfl
 have keep:∀b o,s.heap.get? b=some o->(((s.heap.push (seqObj "list" #[] 0)).update s.heap.objs.size (Obj.mapSeq (·++vs.toArray))).push (seqObj "list" vs.toArray 0)).get? b=some o:=fun b o q=>by
  have hlt:b<s.heap.objs.size:=Heap.lt_size q
  rw [Heap.get?_push_ne _ _ _ (by rw [hsz];exact ne_of_lt (Nat.lt_succ_of_lt hlt)),Heap.get?_update_ne _ _ _ _ (ne_of_lt hlt),Heap.get?_push_ne _ _ _ (ne_of_lt hlt)]
  exact q
 have ne:∀b o,s.heap.get? b=some o->b≠s.heap.objs.size+1:=fun b o q=>ne_of_lt (Nat.lt_succ_of_lt (Heap.lt_size q))
 show wpAny _ _ _ _ _ {s with heap:=((s.heap.push (seqObj "list" #[] 0)).update s.heap.objs.size (Obj.mapSeq (·++vs.toArray))).push (seqObj "list" vs.toArray 0)}
 rw [hsz]
 refine wpAny_bind (wpAny_holding (wpAny_call_entry slot_list_sort ⟨_,hoL,rfl⟩ entry_list_sort ?body (args_list_sort _)))
 case body=>
  refine mi (s:={s with heap:=((s.heap.push (seqObj "list" #[] 0)).update s.heap.objs.size (Obj.mapSeq (·++vs.toArray))).push (seqObj "list" vs.toArray 0)}) hoL h2 h64 hp (fun h' k=>hk h' fun b o q=>k b o (ne b o q) (keep b o q)) ⟨_,rfl,wpAny_pure ?_⟩
  have hoE:=get?_update_seq hoL fun _=>(#[]:Array Value)
  have ho6:=Heap.get?_push_of_some (seqObj "list" #[] 0) (Heap.get?_push_of_some (seqObj "tuple" vs.toArray 0) hoE)
  have hoF:=get?_update_seq ho6 fun _=>List.toArray (K9 p vs)
  refine h _ _ (fun b o q=>?_) hoF
  unfold sortedHeap
  rw [Heap.get?_update_ne _ _ _ _ (ne b o q)]
  exact Heap.get?_push_of_some _ (Heap.get?_push_of_some _ ((Heap.get?_update_ne _ _ _ _ (ne b o q)).trans (keep b o q)))
end
end
theorem qT{fz:List (Nat×Obj)}{hi:Nat}(h:dl fz hi){x y:Nat×Obj}(hx:x∈fz)(hy:y∈fz)(e:vT x=vT y):x=y:=by
 obtain⟨i,hi'⟩:=List.mem_iff_getElem?.mp hx
 obtain⟨j,hj'⟩:=List.mem_iff_getElem?.mp hy
 obtain⟨hi1,hi2⟩:=List.getElem?_eq_some_iff.mp hi'
 obtain⟨hj1,hj2⟩:=List.getElem?_eq_some_iff.mp hj'
 have p:=List.pairwise_iff_getElem.mp h.1
 rcases(by lia:i<j\/i=j\/j<i) with q|q|q
 ·have:=p i j (by simpa using hi1) (by simpa using hj1) q
  rw [getElem_map,getElem_map,hi2,hj2,e] at this
  exact absurd this (Nat.lt_irrefl _)
 ·subst q;rw [<-hi2,<-hj2]
 ·have:=p j i (by simpa using hj1) (by simpa using hi1) q
  rw [getElem_map,getElem_map,hi2,hj2,e] at this
  exact absurd this (Nat.lt_irrefl _)
theorem bq.at{items:Array Value}{fz:List (Nat×Obj)}{ds:List (Int×Int)}(h:bq items fz ds){i:Nat}(hi:i<ds.length):∃a th tx ty et,items.toList.getD i .none=.ref (A a)/\items[i]? =some (.ref (A a))/\(A a,a9 [.float (bf (ds.getD i (0,0)).1 (ds.getD i (0,0)).2) th,.int (ds.getD i (0,0)).1 tx,.int (ds.getD i (0,0)).2 ty] et)∈fz:=by
 have z:=h i
 revert z
 rw [List.getElem?_eq_getElem hi]
 intro z
 refine gQ fun Q zQ=>?_
 obtain⟨a,th,tx,ty,et,e,m⟩:=z
 refine zQ ?_
 have e2:ds.getD i (0,0)=ds[i]:=by simp [hi]
 have e3:items.toList.getD i .none=.ref (A a):=by
  rw [getD_eq_getElem?_getD,show items.toList[i]? =items[i]? by simp,e];rfl
 exact⟨a,th,tx,ty,et,e3,e,by rw [e2];exact m⟩
theorem lH{h:Heap}:∀(vs:List Value),(∀v∈vs,∃a o xs n f t,v=.ref a/\h.get? a=some o/\o.cls=.type "tuple"/\o.data=.seq xs n/\xs[0]? =some (.float f t))->∃fs,KatTups h vs fs/\fs.length=vs.length/\∀v∈fs,∃f t,v=.float f t
 |[],_=>⟨[],trivial,rfl,fun _ h=>nomatch h⟩
 |v::vs,hv=>by
  obtain⟨fs,h1,h2,h3⟩:=lH vs fun x hx=>hv x (mem_cons_of_mem _ hx)
  obtain⟨a,o,xs,n,f,t,rfl,e1,e2,e3,e4⟩:=hv v (mem_cons_self ..)
  refine⟨.float f t::fs,KatTups.cons e1 e2 e3 e4 h1,by rw [length_cons,h2];rfl,fun x hx=>?_⟩
  rcases List.mem_cons.mp hx with rfl|hx
  ·exact⟨f,t,rfl⟩
  ·exact h3 x hx
theorem Gy{items:Array Value}{v:Value}(h:v∈items.toList):∃i,i<items.size/\items.toList.getD i .none=v:=by
 obtain⟨i,hi,e⟩:=List.mem_iff_getElem.mp h
 exact⟨i,by simpa using hi,by rw [getD_eq_getElem?_getD,List.getElem?_eq_getElem hi,e];rfl⟩
theorem qY{α:Type}(l:List α)(d:α):(List.range l.length).map (fun i=>l.getD i d)=l:=by
 apply List.ext_getElem
 ·simp
 ·intro i h1 h2
  simp
  rw [List.getElem?_eq_getElem (by simpa using h2)];rfl
theorem oy{d e:Int×Int}(hd:cV d)(he:cV e)(h:oO d<=oO e):aX d e:=by
 have z:=nh he hd
 rw [decide_eq_false (by omega)] at z
 unfold pe at z
 unfold aX
 split at z
 ·rename_i q;omega
 ·have:=of_decide_eq_false z;omega
structure sK where
 a:Nat
 ls:Array Value
 ep:Nat
 ds:List (Int×Int)
noncomputable def ou(items:Array Value)(ep:Nat)(x:sK):Result×List Obj×ae:=(.ok (.ret (.ref (A x.a))),[ab items ep],[(A x.a,ab x.ls x.ep)])
theorem nD(W:WW)(bl:List nV)(aL:Nat)(items:Array Value)(ep:Nat)(fz:List df)(ds:List cw)(ht:bq items fz ds)(htk:∃hi,dl fz hi)(hr:cb ds)(h2:2<=ds.length)(h5:ds.length<=5):
  bW (Vw W) ⟨.builtin "sorted" (oV aL),none,none,bl,none⟩ [(Yk aL items ep)] fz (ou items ep) (fun x=>bq x.ls fz x.ds/\x.ds.Perm ds/\x.ds.Pairwise aX):=by
 intro p0 s hP hf
 refine gQ fun Q zQ=>?_
 obtain⟨hi,htk⟩:=htk
 have hsz:=ht.size
 have hvl:items.toList.length=ds.length:=by rw [length_toList];exact hsz
 have h10:∀i,i<ds.length->cV (ds.getD i (0,0)):=fun i hi=>hr _ (by rw [show ds.getD i (0,0)=ds[i] by simp [hi]];exact getElem_mem hi)
 obtain⟨p,hp,hperm,hpw⟩:=vS h2 h5 fun i=>oO (ds.getD i (0,0))
 have hps:p.size=items.toList.length:=by
  rw [<-length_toList,hperm.length_eq,length_range,hvl]
 have lt:∀x∈p.toList,x<ds.length:=fun x hx=>List.mem_range.mp (hperm.mem_iff.mp hx)
 have hsq:(("tuple":String)="tuple"):=rfl
 have hk:∀(A':Around) h',(∀b o,s.heap.get? b=some o->h'.get? b=some o)->wpAny (Yt W) A' (keyKind' items.toList.toArray) (fun κ s'=>(kas_sort items.toList.length).kasWp (kas_ask pw (Vw W) A' κ items.toList) (fun q s''=>q=p/\s''={s with heap:=h'}) s') (fun _ _=>False) {s with heap:=h'}:=by
  intro A' h' hkeep
  have hobj:∀{x:Nat×Obj},x∈fz->h'.get? x.1=some x.2:=fun{x} hx=>hkeep _ _ (hf x hx).1
  obtain⟨fs,k1,k2,k3⟩:=lH (h:=h') items.toList fun v hv=>by
   obtain⟨i,hi,e⟩:=Gy hv
   obtain⟨a,th,tx,ty,et,e1,e2,m⟩:=ht.at (i:=i) (by lia)
   exact⟨A a,_,_,et,_,th,by rw [<-e,e1],hobj m,rfl,rfl,rfl⟩
  refine kat_kind (s:={s with heap:=h'}) k1 (by lia) (T:=.type "float") (fun v hv=>?_) (beq_self_eq_true _) ?_
  ·obtain⟨f,t,rfl⟩:=k3 v hv
   exact Looks.of_pure rfl
  ·rw [show((Value.type "float") !=Value.type "tuple")=true by decide]
   rw [hvl]
   refine sG (n:=ds.length) (lt:=fun i j=>decide (oO (ds.getD i (0,0))<oO (ds.getD j (0,0)))) (fun i j C hi' hj' hC=>?_) _ p hp ⟨rfl,rfl⟩
   unfold kas_ask
   obtain⟨a,th,tx,ty,et,e1,e2,m⟩:=ht.at hi'
   obtain⟨a',th',tx',ty',et',e1',e2',m'⟩:=ht.at hj'
   rw [e1,e1']
   refine G7 (h10 i hi') (h10 j hj') ?_ ?_ (fun q=>?_) (hobj m) (hobj m') ?_
   ·have z1:677<=th:=(htk.2 _ m).1
    have z2:677<=th':=(htk.2 _ m').1
    rw [Bool.or_eq_false_iff]
    exact⟨beq_eq_false_iff_ne.mpr fun q=>by rw [q] at z1;exact absurd z1 (by decide),beq_eq_false_iff_ne.mpr fun q=>by rw [q] at z2;exact absurd z2 (by decide)⟩
   ·obtain⟨mc,⟨o,es,e,n1,n2⟩,n3⟩:=rR hP.rdy
    exact⟨mc,⟨o,es,e,hkeep _ _ n1,n2⟩,n3⟩
   ·have z:=qT htk m m' q
    have z:=congrArg Prod.snd z
    injection z with z1 z2 z3 z4
    injection z3 with z5 z6
    injection z5 with z7
    injection z7 with z8 z9
    injection z9 with z10 z11
    injection z11 with z12 z13
    injection z10 with z14 z15
    injection z12 with z16 z17
    rw [z14,z16,Int.mul_comm]
   ·show C _ _
    rw [nh (h10 i hi') (h10 j hj')];exact hC
 have key:codeAny (Yt W) {handled:=none,depth:=frameCount bl,units:=unitsOf bl} (.builtin "sorted" (oV aL))
   (fun r s'=>∃h' e,r=.ok (.ret (.ref (s.heap.objs.size+1)))/\s'={s with heap:=h'}/\(∀b o,s.heap.get? b=some o->h'.get? b=some o)/\h'.get? (s.heap.objs.size+1)=some (seqObj "list" (List.toArray (p.toList.map fun i=>items.toList.getD i Value.none)) e)) s:=by
  refine codeAny_builtin entry_sorted ?_
  refine sb (p:=p) (vs:=items.toList) ⟨_,hP.has.1,rfl,ep,?_⟩ (by lia) (by lia) hps (fun h' k=>hk _ h' k) fun h' e k1 k2=>⟨h',e,rfl,rfl,k1,k2⟩
  show Data.seq items ep=_
  rw [Array.toArray_toList]
 obtain⟨r,s2,R,h',e,rfl,rfl,k1,k2⟩:=key ⟨.builtin "sorted" (oV aL),none,none,bl,none⟩ p0 rfl ⟨rfl,Nat.le_refl _,(fun _ h=>nomatch h),(fun _ h=>nomatch h),Nat.le_refl _⟩
 obtain⟨n,hn⟩:=hP.size
 refine zQ ?_
 have hA:s.heap.objs.size+1=A (n+1):=by rw [hn]
 have hz:s.heap.objs.size+1<h'.objs.size:=Heap.lt_size k2
 rw [hA] at R k2
 refine⟨⟨n+1,_,e,p.toList.map fun i=>ds.getD i (0,0)⟩,{s with heap:=h'},R,⟨fun a o q=>k1 a o (hP.rdy.base a o q),hP.rdy.gens,?_,hP.rdy.toks⟩,⟨fun b o q _=>k1 b o q,rfl,rfl,?_⟩,⟨k1 _ _ hP.has.1,trivial⟩,⟨k2,trivial⟩,fun y hy=>?_,by simp [ou],?_,?_,?_⟩
 ·have:=hP.rdy.size
  show 245<=h'.objs.size
  lia
 ·show s.heap.objs.size<=h'.objs.size
  lia
 ·have:y=_:=List.mem_singleton.mp hy
  subst this
  show s.heap.objs.size<=A (n+1)
  lia
 ·intro k
  show match(p.toList.map fun i=>ds.getD i (0,0))[k]? with
   |some d=>_
   |none=>_
  rw [getElem?_map]
  cases q:p.toList[k]? with
  |none=>
   show(List.toArray (p.toList.map fun i=>items.toList.getD i Value.none))[k]? =none
   rw [getElem?_toArray,getElem?_map,q];rfl
  |some i=>
   obtain⟨a,th,tx,ty,et,e1,e2,m⟩:=ht.at (lt i (mem_of_getElem? q))
   refine⟨a,th,tx,ty,et,?_,m⟩
   rw [getElem?_toArray,getElem?_map,q]
   exact congrArg some e1
 ·refine(hperm.map _).trans ?_
  rw [qY]
 ·refine List.pairwise_map.mpr ((List.Pairwise.and_mem.mp hpw).imp fun{a b} h=>?_)
  exact oy (h10 a (lt a h.1)) (h10 b (lt b h.2.1)) h.2.2
end
noncomputable def zr(W:WW)(bl:List nV)(i mm ro:Nat):bL:=jN (X:=sK) (Y:=List cw×List df) (Vw W) (fun st y=>bq (fp st i) y.2 y.1/\(∃hi,dl y.2 hi)/\cb y.1/\2<=y.1.length/\y.1.length<=5/\∀x∈y.2,x∈st.fz) (fun st=>⟨.builtin "sorted" ⟨[.ref (A (b8 st i))],[]⟩,none,none,bl,none⟩) (fun st=>[(tF st i)]) [i] mm ro (fun st=>ou (fp st i) (fc st i)) (fun _=>[]) (fun st y x=>bq x.ls y.2 x.ds/\x.ds.Perm y.1/\x.ds.Pairwise aX)
theorem ua(W:WW)(bl:List (Code×Pos)){i:Nat}{V:XV}(hk:V.kt=eD (pW W)):bX V (model pw (Vw W)) (zr W bl i V.mm V.ro):=
 fI hk fun st y h=>⟨y.2,h.2.2.2.2.2,(nD W bl _ _ _ y.2 y.1 h.1 h.2.1 h.2.2.1 h.2.2.2.1 h.2.2.2.2.1).toD⟩
open PySem.AutoSeq1 in
theorem nU(l:Addr)(items:Array Value)(n:Nat)(b:Addr)(items2:Array Value)(n2:Nat)(hc0:(items.size !=items2.size)=true):
  Meets (Builtin.«list.__ne__» ⟨[.ref l,.ref b],[]⟩) (fun _ R s=>s.heap.get? l=some {cls:=.type "list",dict:=none,data:=.seq items n,slots:= #[]}/\s.heap.get? b=some {cls:=.type "list",dict:=none,data:=.seq items2 n2,slots:= #[]}/\R (.ok (.ret (Value.bool (CmpOp.NotEq==CmpOp.NotEq)))) {s with heap:=s.heap,toks:=s.toks}):=
 .of_wp fun prog w A R s h=>by obtain⟨hp,g,d,tk,os⟩:=s;obtain⟨hl,hb,h⟩:=h;have f3:=sub_list_list;wp_walk using wpAny_loadPart' hl,wpAny_loadPart' hb;exact⟨_,rfl,h⟩
noncomputable def oB(i j:Nat):bD:=fun Γ c st=>match st.T.get i,st.T.get j with
 |some ⟨cl,dd,.seq items n,sl⟩,some ⟨cl',dd',.seq items2 n2,sl'⟩=>
  (c=.builtin "list.__ne__" ⟨[.ref (bm st.L st.n i),.ref (bm st.L st.n j)],[]⟩/\(cl=.type "list"/\dd=none/\sl=⟨[]⟩)/\(cl'=.type "list"/\dd'=none/\sl'=⟨[]⟩)/\(items.size !=items2.size)=true,ret (.bool true))
 |_,_=>(False,unsupported "")
theorem m9{V:XV}{pr:Program}{w:World}{i j:Nat}:bE V (model pr w) (oB i j):=by
 intro h0 d os Γ c st s p r s' hc hΓ R H
 unfold oB at hc H
 split at hc
 ·rename_i cl dd items n sl cl' dd' items2 n2 sl' e1 e2
  obtain⟨rfl,⟨rfl,rfl,rfl⟩,⟨rfl,rfl,rfl⟩,hb⟩:=hc
  simp only [e1,e2] at H
  obtain⟨rfl,rfl⟩:=fP H
  rw [bh PySem.F.entry_list_ne]
  exact bu (nU _ items n _ items2 n2 hb) (by rw [hΓ];rfl) ⟨i9 R e1,i9 R e2,rfl,rfl⟩
 ·exact hc.elim
noncomputable abbrev nK:=[109,101,114,103,101,100]
noncomputable abbrev mL:=[104,117,101]
abbrev Hq a b c d e f g h:=(((A a),⟨(.type "tuple"),none,(.seq ⟨[(nw b c),(.int (d) e),(.int (f) g)]⟩ h),⟨[]⟩⟩):Nat×Obj)
abbrev wD a b c d e f g h:=(A a,a9 [.float b c,.int d e,.int f g] h)
noncomputable abbrev DP:=Str.mk ⟨mL⟩
noncomputable abbrev DY:=Str.mk ⟨md⟩
noncomputable abbrev Ez:=Str.mk ⟨wQ⟩
section
variable(W:WW)(p0:Pos)(vE:FE)(aF c1 c2 aI aG aM aT aB k:Nat)(u1 u2 u3 u4 u5 u6 u7 u8 u9 u10 u11 u12 u13 u14 u15:Tok)(v1 v2 v3 v4 v5 v6 v7 v8 v9 v10 v11 v13 v14 v15:Value)(gs ms:Array Value)(epG epM et eb:Nat)(hh hl:UInt64)(th tl tx ty tcx tcy:Tok)(dx dy cx cy:Int)
include W p0 vE aF c1 c2 aI aG aM aT aB k u1 u2 u3 u4 u5 u6 u7 u8 u9 u10 u11 u12 u13 u14 u15 v1 v2 v3 v4 v5 v6 v7 v8 v9 v10 v11 v13 v14 v15 gs ms epG epM et eb hh hl th tl tx ty tcx tcy dx dy cx cy
theorem Gf(s:Shared)(hit:gs[(Yh k).toNat]? =some (Yp aT))(E:WW->ae)(hE:E=fun W=>[(A aF,ah "frame" [aa (pW W) Yy u1 v1,aa (pW W) ii u2 v2,aa (pW W) ie u3 v3,aa (pW W) eH u4 v4,aa (pW W) Yr u5 v5,aa (pW W) [105] u6 v6,aa (pW W) [113] u7 v7,aa (pW W) Hl u8 v8,aa (pW W) kI u9 v9,aa (pW W) gE u10 v10,aa (pW W) Yq u11 v11,aa (pW W) nK u12 (Yp aM)] 12),(Y5 aI aG k),(Yk aG gs epG),(wz aM epM),(wD aT hh th dx tx dy ty et)])(hP:az (pW W) (E W) s){Q:Prop}(kQ:∀(n tb:Nat) (s':Shared) (y13 y14 y15:Tok) (nt ep:Nat) (tX tY:Tok),Hn s n->Ht s tb->br (Yt W) (⟨fx (pW W) aF c1 c2 aI,none,none,(c6 vE),none⟩) p0 s s'->cL (pW W) s'->cG ([(A aF,ah "frame" [aa (pW W) Yy u1 v1,aa (pW W) ii u2 v2,aa (pW W) ie u3 v3,aa (pW W) eH u4 v4,aa (pW W) Yr u5 v5,aa (pW W) [105] u6 v6,aa (pW W) [113] u7 v7,aa (pW W) qc u8 v8,aa (pW W) kI u9 v9,aa (pW W) gE u10 v10,aa (pW W) Yq u11 v11,aa (pW W) nK u12 (Yp aM),aa (pW W) mL y13 (.float hh th),aa (pW W) md y14 (bY dx tx),aa (pW W) wQ y15 (bY dy ty)] 15),(uv aI aG k),(Yk aG gs epG),(A aM,ab ⟨[.ref (A nt)]⟩ ep),(wD aT hh th dx tx dy ty et),(A nt,a9 [.float hh th,.int dx tX,.int dy tY] 0)]) s'.heap->af (E W) s s'->s.heap.objs.size<=A nt->Q):Q:=by
 obtain⟨n,tb,gb,hn,ht,hg⟩:=hP.nt
 refine p9 (fz:=[]) hE hP hn ht hg (fun E W Z hs=>ch (ec (Vw W) 5 [(bF 1 2 (Yp aT)),(b9 3)] [] [] []) 175 (⟨fx (pW W) aF c1 c2 aI,none,none,(c6 vE),none⟩) (p0) (a8 (fx (pW W) aF c1 c2 aI)) [] hs (cN E n tb gb) (sN [0,1,2,3,4,9] Z)) (fun E W Z hs=>ad (lE E) (A n) gb (sl hs 0 2) ((Em aI aG gs k aT)/\ad (lE E) (A n) gb (sl hs 3 64) (((Ji aM n 4)/\(Yi/\((HH).size.le 1000)))/\ad (lE E) (A n) gb (sl hs 68 1) (Z (.again (fx (pW W) aF c1 c2 aI)) (Y2 n 5) (Y8 tb 3) true (ax ([((A aF),⟨D3,none,(.dict ⟨[⟨(PyData.keyHash (pW W) Au),(.str Au u1),(v1)⟩,⟨(PyData.keyHash (pW W) An),(.str An u2),(v2)⟩,⟨(PyData.keyHash (pW W) Ae),(.str Ae u3),(v3)⟩,⟨(PyData.keyHash (pW W) qN),(.str qN u4),(v4)⟩,⟨(PyData.keyHash (pW W) Ak),(.str Ak u5),(v5)⟩,⟨(PyData.keyHash (pW W) (kC 105)),(.str (kC 105) u6),(v6)⟩,⟨(PyData.keyHash (pW W) (kC 113)),(.str (kC 113) u7),(v7)⟩,⟨(PyData.keyHash (pW W) Eu),(.str Eu u8),(v8)⟩,⟨(PyData.keyHash (pW W) (Str.mk ⟨GH⟩)),(.str (Str.mk ⟨GH⟩) u9),(v9)⟩,⟨(PyData.keyHash (pW W) sZ),(.str sZ u10),(v10)⟩,⟨(PyData.keyHash (pW W) (Str.mk ⟨Yq⟩)),(.str EZ u11),(v11)⟩,⟨(PyData.keyHash (pW W) (Str.mk ⟨nK⟩)),(.str (Str.mk ⟨nK⟩) u12),(Yp aM)⟩,⟨(PyData.keyHash (pW W) DP),(.str DP (TK tb)),(nw hh th)⟩,⟨(PyData.keyHash (pW W) DY),(.str DY (Y8 tb 1)),(iU dx tx)⟩,⟨(PyData.keyHash (pW W) Ez),(.str Ez (Y8 tb 2)),(iU dy ty)⟩]⟩ 15),⟨[]⟩⟩),(IS aI aG k),(rA aG gs epG),(A aM,(Obj.mapSeq (·.push (dV n 4)) (ab ⟨[]⟩ epM))),(Hq aT hh th dx tx dy ty et),((Y2 n 4),⟨(.type "tuple"),none,(.seq ⟨[(nw hh th),(iU dx tx),(iU dy ty)]⟩ 0),⟨[]⟩⟩)])) ([]))))) (fun _=>(gC [2,2,4000,2,2,2,40005,50006,5,60006,5,60006,5,60006,5,6,6,8,70001,4,9,4,4,9,4,9,4,9,4,9,1,40004,1,1,1,4,4001,4,3000])) (iX (by kernel_rfl)) rfl ⟨fun _=>bi,fun _=>bx,trivial⟩ trivial rfl rfl (fun x hx=>nomatch hx) fun hs=>?_
 refine rI ⟨rfl,rfl,hit⟩ ?_
 refine rI ⟨rfl,⟨rfl,rfl,rfl⟩,zero_le _⟩ ?_
 exact rF fun s' r _ h3 h4 h5 h6 h7=>kQ n tb s' _ _ _ (bJ n 4) _ _ _ hn ht (am rfl r) h4 (ai h3) h5 (h7 _ (mem_cons_self ..))
abbrev Kr(a b:Nat)(c:Array Value)(d e f:Nat):=(Rf (.builtin "list.__getitem__" ⟨[(Yp a),(.int (Int.negSucc 0) (Y8 b e))],[]⟩:Code))/\(bN (Int.negSucc 0)/\((((seqIndex? (-(Value.int 1 (Y8 b f),1).snd) c.size).bind fun j=>c[j]?):i6)=(some (Yp d))))
abbrev PA(a b:Nat)(c:Array Value):=(Rf (.builtin "list.__ne__" ⟨[(Yp a),(dV b 3)],[]⟩:Code))/\(Yi/\(Yi/\(((c.size !=(HH).size):(Bool))=(true))))
theorem FH(m:Nat)(s:Shared)(hit:gs[(Yh k).toNat]? =some (Yp aT))(hne:(ms.size !=(HH).size)=true)(hlast:(seqIndex? (-1) ms.size).bind (fun j=>ms[j]?)=some (Yp aB))(heq:(Float64.cmp hl hh==some .eq)=true)(hm:seqIndex? (-1) ms.size=some m)(E:WW->ae)(hE:E=fun W=>[(A aF,ah "frame" [aa (pW W) wU u1 v1,aa (pW W) [103,105,118,101,110] u2 v2,aa (pW W) [100,114,97,119,110] u3 v3,aa (pW W) [98,97,115,101] u4 v4,aa (pW W) wN u5 v5,aa (pW W) [105] u6 v6,aa (pW W) [113] u7 v7,aa (pW W) [98,111,116,104] u8 v8,aa (pW W) [101,100,103,101,115] u9 v9,aa (pW W) [112,111,108,121] u10 v10,aa (pW W) wJ u11 v11,aa (pW W) [109,101,114,103,101,100] u12 (.ref (A aM)),aa (pW W) [104,117,101] u13 v13,aa (pW W) wM u14 v14,aa (pW W) [117,112] u15 v15] 15),(Y5 aI aG k),(Yk aG gs epG),(Yk aM ms epM),(wD aT hh th dx tx dy ty et),(wD aB hl tl cx tcx cy tcy eb)])(hP:az (pW W) (E W) s){Q:Prop}(kQ:∀(n tb:Nat) (s':Shared) (y13 y14 y15:Tok) (nt ep:Nat) (tX tY:Tok),Hn s n->Ht s tb->br (Yt W) (⟨fx (pW W) aF c1 c2 aI,none,none,(c6 vE),none⟩) p0 s s'->cL (pW W) s'->cG ([(A aF,ah "frame" [aa (pW W) Yy u1 v1,aa (pW W) ii u2 v2,aa (pW W) ie u3 v3,aa (pW W) eH u4 v4,aa (pW W) Yr u5 v5,aa (pW W) [105] u6 v6,aa (pW W) [113] u7 v7,aa (pW W) qc u8 v8,aa (pW W) kI u9 v9,aa (pW W) gE u10 v10,aa (pW W) Yq u11 v11,aa (pW W) nK u12 (Yp aM),aa (pW W) mL y13 (.float hh th),aa (pW W) md y14 (bY dx tx),aa (pW W) wQ y15 (bY dy ty)] 15),(uv aI aG k),(Yk aG gs epG),(A aM,ab (ms.setIfInBounds m (Yp nt)) ep),(wD aT hh th dx tx dy ty et),(wD aB hl tl cx tcx cy tcy eb),(A nt,a9 [.float hh th,.int (cx+dx) tX,.int (cy+dy) tY] 0)]) s'.heap->af (E W) s s'->s.heap.objs.size<=A nt->Q):Q:=by
 obtain⟨n,tb,gb,hn,ht,hg⟩:=hP.nt
 refine p9 (fz:=[]) hE hP hn ht hg (fun E W Z hs=>ch (ec (Vw W) 6 [(bF 1 2 (Yp aT)),(oB 3 9),(ic 3 5),po,(ic 3 5),(ic 3 5),(op 3 m)] [] [] []) 270 (⟨fx (pW W) aF c1 c2 aI,none,none,(c6 vE),none⟩) (p0) (a8 (fx (pW W) aF c1 c2 aI)) [] hs (cN E n tb gb) (sN [0,1,2,3,4,5,10] Z)) (fun E W Z hs=>ad (lE E) (A n) gb (sl hs 0 2) ((Em aI aG gs k aT)/\ad (lE E) (A n) gb (sl hs 3 48) ((PA aM n ms)/\ad (lE E) (A n) gb (sl hs 52 5) ((Kr aM tb ms aB 4 3)/\ad (lE E) (A n) gb (sl hs 58 6) ((av (JI hl tl hh th) [] wB/\Yc)/\ad (lE E) (A n) gb (sl hs 65 6) ((Kr aM tb ms aB 7 6)/\ad (lE E) (A n) gb (sl hs 72 11) ((Kr aM tb ms aB 11 10)/\ad (lE E) (A n) gb (sl hs 84 10) (((Rf (.builtin "list.__setitem__" ⟨[(Yp aM),(.int Jm (Y8 tb 15)),(dV n 4)],[]⟩:Code))/\(bN Jm/\(((seqIndex? (-(Value.int 1 (Y8 tb 14),1).snd) ms.size):(Option Nat))=(some m))))/\ad (lE E) (A n) gb (sl hs 95 1) (Z (.again (fx (pW W) aF c1 c2 aI)) (Y2 n 5) (Y8 tb 16) true (ax ([((A aF),⟨D3,none,(.dict ⟨[⟨(PyData.keyHash (pW W) Au),(.str Au u1),(v1)⟩,⟨(PyData.keyHash (pW W) An),(.str An u2),(v2)⟩,⟨(PyData.keyHash (pW W) Ae),(.str Ae u3),(v3)⟩,⟨(PyData.keyHash (pW W) qN),(.str qN u4),(v4)⟩,⟨(PyData.keyHash (pW W) Ak),(.str Ak u5),(v5)⟩,⟨(PyData.keyHash (pW W) (kC 105)),(.str (kC 105) u6),(v6)⟩,⟨(PyData.keyHash (pW W) (kC 113)),(.str (kC 113) u7),(v7)⟩,⟨(PyData.keyHash (pW W) Eu),(.str Eu u8),(v8)⟩,⟨(PyData.keyHash (pW W) (Str.mk ⟨GH⟩)),(.str (Str.mk ⟨GH⟩) u9),(v9)⟩,⟨(PyData.keyHash (pW W) sZ),(.str sZ u10),(v10)⟩,⟨(PyData.keyHash (pW W) (Str.mk ⟨Yq⟩)),(.str EZ u11),(v11)⟩,⟨(PyData.keyHash (pW W) (Str.mk ⟨nK⟩)),(.str (Str.mk ⟨nK⟩) u12),(Yp aM)⟩,⟨(PyData.keyHash (pW W) DP),(.str DP u13),(nw hh th)⟩,⟨(PyData.keyHash (pW W) DY),(.str DY u14),(iU dx tx)⟩,⟨(PyData.keyHash (pW W) Ez),(.str Ez u15),(iU dy ty)⟩]⟩ 15),⟨[]⟩⟩),(IS aI aG k),(rA aG gs epG),(A aM,(Obj.mapSeq (·.setIfInBounds m (dV n 4)) (ab ms epM))),(Hq aT hh th dx tx dy ty et),(Hq aB hl tl cx tcx cy tcy eb),((Y2 n 4),⟨(.type "tuple"),none,(.seq ⟨[(nw hh th),(.int (cx+dx) (Y8 tb 9)),(.int (cy+dy) (Y8 tb 13))]⟩ 0),⟨[]⟩⟩)])) ([])))))))))) (fun _=>(gC [2,2,4000,2,2,2,40005,50007,5,60007,5,60007,5,60007,5,7,7,9,70001,4,10,4,4,4001,1,40004,4002,50006,1,4003,1,1,40004,4004,50006,1,1,40004,4005,50006,1,1,4,4,4,4006,4,3000])) (iX (by kernel_rfl)) rfl ⟨fun _=>bi,fun _=>m9,fun _=>fa,fun _=>au,fun _=>fa,fun _=>fa,fun _=>lJ,trivial⟩ trivial rfl rfl (fun x hx=>nomatch hx) fun hs=>?_
 refine rI ⟨rfl,rfl,hit⟩ ?_
 refine rI ⟨rfl,⟨rfl,rfl,rfl⟩,⟨rfl,rfl,rfl⟩,hne⟩ ?_
 refine rI ⟨rfl,rfl,hlast⟩ ?_
 refine rI ⟨en heq,rfl⟩ ?_
 refine rI ⟨rfl,rfl,hlast⟩ ?_
 refine rI ⟨rfl,rfl,hlast⟩ ?_
 refine rI ⟨rfl,rfl,hm⟩ ?_
 exact rF fun s' r _ h3 h4 h5 h6 h7=>kQ n tb s' _ _ _ (bJ n 4) _ _ _ hn ht (am rfl r) h4 (ai h3) h5 (h7 _ (mem_cons_self ..))
theorem FQ(s:Shared)(hit:gs[(Yh k).toNat]? =some (Yp aT))(hsz:ms.size<=1000)(hne:(ms.size !=(HH).size)=true)(hlast:(seqIndex? (-1) ms.size).bind (fun j=>ms[j]?)=some (Yp aB))(heq:(Float64.cmp hl hh==some .eq)=false)(E:WW->ae)(hE:E=fun W=>[(A aF,ah "frame" [aa (pW W) wU u1 v1,aa (pW W) [103,105,118,101,110] u2 v2,aa (pW W) [100,114,97,119,110] u3 v3,aa (pW W) [98,97,115,101] u4 v4,aa (pW W) wN u5 v5,aa (pW W) [105] u6 v6,aa (pW W) [113] u7 v7,aa (pW W) [98,111,116,104] u8 v8,aa (pW W) [101,100,103,101,115] u9 v9,aa (pW W) [112,111,108,121] u10 v10,aa (pW W) wJ u11 v11,aa (pW W) [109,101,114,103,101,100] u12 (.ref (A aM)),aa (pW W) [104,117,101] u13 v13,aa (pW W) wM u14 v14,aa (pW W) [117,112] u15 v15] 15),(Y5 aI aG k),(Yk aG gs epG),(Yk aM ms epM),(wD aT hh th dx tx dy ty et),(wD aB hl tl cx tcx cy tcy eb)])(hP:az (pW W) (E W) s){Q:Prop}(kQ:∀(n tb:Nat) (s':Shared) (y13 y14 y15:Tok) (nt ep:Nat) (tX tY:Tok),Hn s n->Ht s tb->br (Yt W) (⟨fx (pW W) aF c1 c2 aI,none,none,(c6 vE),none⟩) p0 s s'->cL (pW W) s'->cG ([(A aF,ah "frame" [aa (pW W) Yy u1 v1,aa (pW W) ii u2 v2,aa (pW W) ie u3 v3,aa (pW W) eH u4 v4,aa (pW W) Yr u5 v5,aa (pW W) [105] u6 v6,aa (pW W) [113] u7 v7,aa (pW W) qc u8 v8,aa (pW W) kI u9 v9,aa (pW W) gE u10 v10,aa (pW W) Yq u11 v11,aa (pW W) nK u12 (Yp aM),aa (pW W) mL y13 (.float hh th),aa (pW W) md y14 (bY dx tx),aa (pW W) wQ y15 (bY dy ty)] 15),(uv aI aG k),(Yk aG gs epG),(A aM,ab (ms.push (Yp nt)) ep),(wD aT hh th dx tx dy ty et),(wD aB hl tl cx tcx cy tcy eb),(A nt,a9 [.float hh th,.int dx tX,.int dy tY] 0)]) s'.heap->af (E W) s s'->s.heap.objs.size<=A nt->Q):Q:=by
 obtain⟨n,tb,gb,hn,ht,hg⟩:=hP.nt
 refine p9 (fz:=[]) hE hP hn ht hg (fun E W Z hs=>ch (ec (Vw W) 6 [(bF 1 2 (Yp aT)),(oB 3 9),(ic 3 5),mu,(b9 3)] [] [] []) 202 (⟨fx (pW W) aF c1 c2 aI,none,none,(c6 vE),none⟩) (p0) (a8 (fx (pW W) aF c1 c2 aI)) [] hs (cN E n tb gb) (sN [0,1,2,3,4,5,10] Z)) (fun E W Z hs=>ad (lE E) (A n) gb (sl hs 0 2) ((Em aI aG gs k aT)/\ad (lE E) (A n) gb (sl hs 3 48) ((PA aM n ms)/\ad (lE E) (A n) gb (sl hs 52 5) ((Kr aM tb ms aB 4 3)/\ad (lE E) (A n) gb (sl hs 58 6) ((av (JI hl tl hh th) [] wx/\Yc)/\ad (lE E) (A n) gb (sl hs 65 9) (((Ji aM n 4)/\(rJ ms))/\ad (lE E) (A n) gb (sl hs 75 1) (Z (.again (fx (pW W) aF c1 c2 aI)) (Y2 n 5) (Y8 tb 6) true (ax ([((A aF),⟨D3,none,(.dict ⟨[⟨(PyData.keyHash (pW W) Au),(.str Au u1),(v1)⟩,⟨(PyData.keyHash (pW W) An),(.str An u2),(v2)⟩,⟨(PyData.keyHash (pW W) Ae),(.str Ae u3),(v3)⟩,⟨(PyData.keyHash (pW W) qN),(.str qN u4),(v4)⟩,⟨(PyData.keyHash (pW W) Ak),(.str Ak u5),(v5)⟩,⟨(PyData.keyHash (pW W) (kC 105)),(.str (kC 105) u6),(v6)⟩,⟨(PyData.keyHash (pW W) (kC 113)),(.str (kC 113) u7),(v7)⟩,⟨(PyData.keyHash (pW W) Eu),(.str Eu u8),(v8)⟩,⟨(PyData.keyHash (pW W) (Str.mk ⟨GH⟩)),(.str (Str.mk ⟨GH⟩) u9),(v9)⟩,⟨(PyData.keyHash (pW W) sZ),(.str sZ u10),(v10)⟩,⟨(PyData.keyHash (pW W) (Str.mk ⟨Yq⟩)),(.str EZ u11),(v11)⟩,⟨(PyData.keyHash (pW W) (Str.mk ⟨nK⟩)),(.str (Str.mk ⟨nK⟩) u12),(Yp aM)⟩,⟨(PyData.keyHash (pW W) DP),(.str DP u13),(nw hh th)⟩,⟨(PyData.keyHash (pW W) DY),(.str DY u14),(iU dx tx)⟩,⟨(PyData.keyHash (pW W) Ez),(.str Ez u15),(iU dy ty)⟩]⟩ 15),⟨[]⟩⟩),(IS aI aG k),(rA aG gs epG),(A aM,(Obj.mapSeq (·.push (dV n 4)) (ab ms epM))),(Hq aT hh th dx tx dy ty et),(Hq aB hl tl cx tcx cy tcy eb),((Y2 n 4),⟨(.type "tuple"),none,(.seq ⟨[(nw hh th),(iU dx tx),(iU dy ty)]⟩ 0),⟨[]⟩⟩)])) ([])))))))) (fun _=>(gC [2,2,4000,2,2,2,40005,50007,5,60007,5,60007,5,60007,5,7,7,9,70001,4,10,4,4,4001,1,40004,4002,50006,1,4003,1,40004,1,1,1,4,4004,4,3000])) (iX (by kernel_rfl)) rfl ⟨fun _=>bi,fun _=>m9,fun _=>fa,fun _=>au,fun _=>bx,trivial⟩ trivial rfl rfl (fun x hx=>nomatch hx) fun hs=>?_
 refine rI ⟨rfl,rfl,hit⟩ ?_
 refine rI ⟨rfl,⟨rfl,rfl,rfl⟩,⟨rfl,rfl,rfl⟩,hne⟩ ?_
 refine rI ⟨rfl,rfl,hlast⟩ ?_
 refine rI ⟨en heq,rfl⟩ ?_
 refine rI ⟨rfl,⟨rfl,rfl,rfl⟩,hsz⟩ ?_
 exact rF fun s' r _ h3 h4 h5 h6 h7=>kQ n tb s' _ _ _ (bJ n 4) _ _ _ hn ht (am rfl r) h4 (ai h3) h5 (h7 _ (mem_cons_self ..))
end
theorem Gl(W:WW)(p0:Pos)(vE:FE)(aF c1 c2 aI aG k:Nat)(gs:Array Value)(epG:Nat)(s:Shared)(hit:gs[(Yh k).toNat]? =none)(E:WW->ae)(hE:E=fun W=>[(Y5 aI aG k),(Yk aG gs epG)])(hP:az (pW W) (E W) s){Q:Prop}(kQ:∀(n tb:Nat) (s':Shared),Hn s n->Ht s tb->Runs (Yt W) (⟨fx (pW W) aF c1 c2 aI,none,none,(c6 vE),none⟩) p0 ((Yt W).den (fx (pW W) aF c1 c2 aI)) [] s ft s'->cL (pW W) s'->cG ([(kd aI k),(Yk aG gs epG)]) s'.heap->af (E W) s s'->Q):Q:=by
 obtain⟨n,tb,gb,hn,ht,hg⟩:=hP.nt
 refine bT hE hP hn ht hg (fun E W Z hs=>ch (ul W 2 0 1) 54 (⟨fx (pW W) aF c1 c2 aI,none,none,(c6 vE),none⟩) (p0) (a8 (fx (pW W) aF c1 c2 aI)) [] hs (cN E n tb gb) (kZ [0,1] Z)) (fun E W Z hs=>ad (lE E) (A n) gb (sl hs 0 2) ((uq aI aG gs k)/\ad (lE E) (A n) gb (sl hs 3 3) (Z oW (Y2 n 2) (Y8 tb 0) true (ax ([(kd aI k),(Yk aG gs epG)]))))) (fun _=>[1,1,4000,1,1,4]) (oU (by kernel_rfl)) rfl ⟨fun _=>ce,trivial⟩ trivial rfl fun hs=>?_
 refine rI ⟨rfl,rfl,hit⟩ ?_
 exact rF fun s' r _ h3 h4 h5=>kQ n tb s' hn ht (by rw [bG];exact r) h4 (ai h3) h5
noncomputable def bt(acc:List (Int×Int))(d:Int×Int):List (Int×Int):=match acc.getLast? with
 |none=>[d]
 |some c=>if c.2*d.1=d.2*c.1 then acc.dropLast++[(c.1+d.1,c.2+d.2)] else acc++[d]
theorem dg{acc:List (Int×Int)}{c d:Int×Int}:bt (acc++[c]) d=if c.2*d.1=d.2*c.1 then acc++[(c.1+d.1,c.2+d.2)] else(acc++[c])++[d]:=by
 unfold bt
 rw [List.getLast?_concat,List.dropLast_concat]
def cz(items:Array Value)(fz:List (Nat×Obj))(acc:List (Int×Int)):Prop:=∀i:Nat,match acc[i]? with
 |some c=>∃a th tx ty et e,items[i]? =some (.ref (A a))/\(A a,a9 [.float (bf e.1 e.2) th,.int c.1 tx,.int c.2 ty] et)∈fz/\cV e/\e.2*c.1=c.2*e.1
 |none=>items[i]? =none
theorem cz.size{items:Array Value}{fz}{ds:List (Int×Int)}(h:cz items fz ds):items.size=ds.length:=by
 have h1:items[ds.length]? =Option.none:=by
  have:=h ds.length
  rw [List.getElem?_eq_none (Nat.le_refl _)] at this;exact this
 have h2:items.size<=ds.length:=by
  rcases lt_or_ge ds.length items.size with q|q
  ·rw [Array.getElem?_eq_getElem q] at h1;cases h1
  ·exact q
 rcases lt_or_ge items.size ds.length with q|q
 ·have z:=h items.size
  rw [List.getElem?_eq_getElem q] at z
  obtain⟨a,th,tx,ty,et,e,q1,_⟩:=z
  rw [Array.getElem?_eq_none (Nat.le_refl _)] at q1;cases q1
 ·lia
theorem cz.at{items:Array Value}{fz}{acc:List (Int×Int)}(h:cz items fz acc){i:Nat}{c:Int×Int}(hi:acc[i]? =some c):∃a th tx ty et e,items[i]? =some (.ref (A a))/\(A a,a9 [.float (bf e.1 e.2) th,.int c.1 tx,.int c.2 ty] et)∈fz/\cV e/\e.2*c.1=c.2*e.1:=by
 have z:=h i
 rw [hi] at z;exact z
theorem cz.push{items:Array Value}{fz:List df}{acc:List cw}{a th tx ty et}{d:Int×Int}(h:cz items fz acc)(h10:cV d):cz (items.push (Yp a)) (fz++[(A a,a9 [.float (bf d.1 d.2) th,.int d.1 tx,.int d.2 ty] et)]) (acc++[d]):=by
 intro i
 have hs:=h.size
 by_cases q:i<acc.length
 ·rw [getElem?_append_left q]
  obtain⟨a',th',tx',ty',et',e',hi,hm,r⟩:=h.at (List.getElem?_eq_getElem q)
  rw [List.getElem?_eq_getElem q]
  exact⟨a',th',tx',ty',et',e',by rw [getElem?_push,if_neg (by lia)];exact hi,mem_append_left _ hm,r⟩
 ·by_cases q2:i=acc.length
  ·subst q2
   rw [getElem?_append_right (Nat.le_refl _),Nat.sub_self]
   exact⟨a,th,tx,ty,et,d,by rw [getElem?_push,if_pos hs.symm],mem_append_right _ (List.mem_singleton.mpr rfl),h10,rfl⟩
  ·rw [getElem?_append_right (by lia),List.getElem?_eq_none (by simp;lia)]
   show _=Option.none
   rw [getElem?_push,if_neg (by lia),Array.getElem?_eq_none (by lia)]
theorem cz.setLast{items:Array Value}{fz:List df}{acc:List cw}{a th tx ty et}{c c' d:Int×Int}(h:cz items fz (acc++[c]))(h10:cV d)(hd:d.2*c'.1=c'.2*d.1):cz (items.setIfInBounds acc.length (Yp a)) (fz++[(A a,a9 [.float (bf d.1 d.2) th,.int c'.1 tx,.int c'.2 ty] et)]) (acc++[c']):=by
 intro i
 have hs:=h.size
 rw [List.length_append,List.length_singleton] at hs
 by_cases q:i<acc.length
 ·rw [getElem?_append_left q]
  obtain⟨a',th',tx',ty',et',e',hi,hm,r⟩:=h.at (i:=i) (c:=acc[i]) (by rw [getElem?_append_left q];exact List.getElem?_eq_getElem q)
  rw [List.getElem?_eq_getElem q]
  exact⟨a',th',tx',ty',et',e',by rw [getElem?_setIfInBounds,if_neg (by lia)];exact hi,mem_append_left _ hm,r⟩
 ·by_cases q2:i=acc.length
  ·subst q2
   rw [getElem?_append_right (Nat.le_refl _),Nat.sub_self]
   exact⟨a,th,tx,ty,et,d,by rw [getElem?_setIfInBounds,if_pos rfl,if_pos (by lia)],mem_append_right _ (List.mem_singleton.mpr rfl),h10,hd⟩
  ·rw [getElem?_append_right (by lia),List.getElem?_eq_none (by simp;lia)]
   show _=Option.none
   rw [getElem?_setIfInBounds,if_neg (by lia),Array.getElem?_eq_none (by lia)]
theorem jq{c d e:Int×Int}(hc:0<c.1)(hd:0<d.1)(he:0<e.1)(h:e.2*c.1=c.2*e.1):(e.2*d.1=d.2*e.1)↔(c.2*d.1=d.2*c.1):=by
 have h1:aX e c:=by unfold aX;omega
 have h2:aX c e:=by unfold aX;omega
 refine⟨fun q=>?_,fun q=>?_⟩
 ·have q1:aX e d:=by unfold aX;omega
  have q2:aX d e:=by unfold aX;omega
  have a:=cq (b:=e) he hc hd h2 q1
  have b:=cq (b:=e) he hd hc q2 h1
  unfold aX at a b;omega
 ·have q1:aX c d:=by unfold aX;omega
  have q2:aX d c:=by unfold aX;omega
  have a:=cq (b:=c) hc he hd h1 q1
  have b:=cq (b:=c) hc hd he q2 h2
  unfold aX at a b;omega
theorem bq.some{items:Array Value}{fz}{ds:List (Int×Int)}(h:bq items fz ds){k:Nat}{d:Int×Int}(e:ds[k]? =some d):∃a th tx ty et,items[(Int.ofNat k).toNat]? =some (.ref (A a))/\(A a,a9 [.float (bf d.1 d.2) th,.int d.1 tx,.int d.2 ty] et)∈fz:=by
 have z:=h k
 rw [e] at z;exact z
theorem bq.none{items:Array Value}{fz}{ds:List (Int×Int)}(h:bq items fz ds){k:Nat}(e:ds.drop k=[]):items[(Int.ofNat k).toNat]? =none:=by
 have z:=h k
 rw [List.getElem?_eq_none (List.drop_eq_nil_iff.mp e)] at z
 exact z
theorem Dl{ms:Array Value}{n:Nat}{v:Value}(h:ms.size=n+1)(hv:ms[n]? =some v):seqIndex? (-1) ms.size=some n/\(seqIndex? (-1) ms.size).bind (fun j=>ms[j]?)=some v:=by
 have e:seqIndex? (-1) ms.size=some n:=by
  rw [h,seqIndex_neg (by lia) (by lia),show((-1:Int)+(n+1:Nat)).toNat=n by lia]
 exact⟨e,by rw [e];exact hv⟩
section
variable(W:WW)(vE:FE)(aF c1 c2 aI aG aM:Nat)(u1 u2 u3 u4 u5 u6 u7 u8 u9 u10 u11 u12:Tok)(v1 v2 v3 v4 v5 v6 v7 v8 v9 v10 v11:Value)(gs:Array Value)(epG:Nat)
include W vE aF c1 c2 aI aG aM u1 u2 u3 u4 u5 u6 u7 u8 u9 u10 u11 u12 v1 v2 v3 v4 v5 v6 v7 v8 v9 v10 v11 gs epG
theorem yY(fz:List df)(ds:List cw)(hgs:bq gs fz ds)(h10:cb ds):∀(rest:List cw) (k:Nat) (u13 u14 u15:Tok) (v13 v14 v15:Value) (acc:List cw) (ms:Array Value) (ep:Nat) (fzM:List df) (n0:Nat) (p0:Pos) (s:Shared),ds.drop k=rest->acc≠[]->(∀c∈acc,0<c.1)->cz ms fzM acc->ms.size+rest.length<=1000->az (pW W) [(A aF,ah "frame" [aa (pW W) wU u1 v1,aa (pW W) [103,105,118,101,110] u2 v2,aa (pW W) [100,114,97,119,110] u3 v3,aa (pW W) [98,97,115,101] u4 v4,aa (pW W) wN u5 v5,aa (pW W) [105] u6 v6,aa (pW W) [113] u7 v7,aa (pW W) [98,111,116,104] u8 v8,aa (pW W) [101,100,103,101,115] u9 v9,aa (pW W) [112,111,108,121] u10 v10,aa (pW W) wJ u11 v11,aa (pW W) [109,101,114,103,101,100] u12 (.ref (A aM)),aa (pW W) [104,117,101] u13 v13,aa (pW W) wM u14 v14,aa (pW W) [117,112] u15 v15] 15),(Y5 aI aG k),(Yk aG gs epG),(Yk aM ms ep)] s->cF fz [(A aF,ah "frame" [aa (pW W) wU u1 v1,aa (pW W) [103,105,118,101,110] u2 v2,aa (pW W) [100,114,97,119,110] u3 v3,aa (pW W) [98,97,115,101] u4 v4,aa (pW W) wN u5 v5,aa (pW W) [105] u6 v6,aa (pW W) [113] u7 v7,aa (pW W) [98,111,116,104] u8 v8,aa (pW W) [101,100,103,101,115] u9 v9,aa (pW W) [112,111,108,121] u10 v10,aa (pW W) wJ u11 v11,aa (pW W) [109,101,114,103,101,100] u12 (.ref (A aM)),aa (pW W) [104,117,101] u13 v13,aa (pW W) wM u14 v14,aa (pW W) [117,112] u15 v15] 15),(Y5 aI aG k),(Yk aG gs epG),(Yk aM ms ep)] s->c9 fzM [(A aF,ah "frame" [aa (pW W) wU u1 v1,aa (pW W) [103,105,118,101,110] u2 v2,aa (pW W) [100,114,97,119,110] u3 v3,aa (pW W) [98,97,115,101] u4 v4,aa (pW W) wN u5 v5,aa (pW W) [105] u6 v6,aa (pW W) [113] u7 v7,aa (pW W) [98,111,116,104] u8 v8,aa (pW W) [101,100,103,101,115] u9 v9,aa (pW W) [112,111,108,121] u10 v10,aa (pW W) wJ u11 v11,aa (pW W) [109,101,114,103,101,100] u12 (.ref (A aM)),aa (pW W) [104,117,101] u13 v13,aa (pW W) wM u14 v14,aa (pW W) [117,112] u15 v15] 15),(Y5 aI aG k),(Yk aG gs epG),(Yk aM ms ep)] n0 s->n0<=s.heap.objs.size->(∀x∈fz,x.1<n0)->
  ∀Q:Prop,(∀s' a13 a14 a15 w13 w14 w15 k' ms' ep' fzM',Runs (Yt W) ⟨fx (pW W) aF c1 c2 aI,none,none,(c6 vE),none⟩ p0 ((Yt W).den (fx (pW W) aF c1 c2 aI)) [] s ft s'->cL (pW W) s'->cG [(A aF,ah "frame" [aa (pW W) wU u1 v1,aa (pW W) [103,105,118,101,110] u2 v2,aa (pW W) [100,114,97,119,110] u3 v3,aa (pW W) [98,97,115,101] u4 v4,aa (pW W) wN u5 v5,aa (pW W) [105] u6 v6,aa (pW W) [113] u7 v7,aa (pW W) [98,111,116,104] u8 v8,aa (pW W) [101,100,103,101,115] u9 v9,aa (pW W) [112,111,108,121] u10 v10,aa (pW W) wJ u11 v11,aa (pW W) [109,101,114,103,101,100] u12 (.ref (A aM)),aa (pW W) [104,117,101] a13 w13,aa (pW W) wM a14 w14,aa (pW W) [117,112] a15 w15] 15),(kd aI k'),(Yk aG gs epG),(Yk aM ms' ep')] s'.heap->af [(A aF,ah "frame" [aa (pW W) wU u1 v1,aa (pW W) [103,105,118,101,110] u2 v2,aa (pW W) [100,114,97,119,110] u3 v3,aa (pW W) [98,97,115,101] u4 v4,aa (pW W) wN u5 v5,aa (pW W) [105] u6 v6,aa (pW W) [113] u7 v7,aa (pW W) [98,111,116,104] u8 v8,aa (pW W) [101,100,103,101,115] u9 v9,aa (pW W) [112,111,108,121] u10 v10,aa (pW W) wJ u11 v11,aa (pW W) [109,101,114,103,101,100] u12 (.ref (A aM)),aa (pW W) [104,117,101] u13 v13,aa (pW W) wM u14 v14,aa (pW W) [117,112] u15 v15] 15),(Y5 aI aG k),(Yk aG gs epG),(Yk aM ms ep)] s s'->cz ms' fzM' (rest.foldl bt acc)->(∀c∈rest.foldl bt acc,0<c.1)->c9 fzM' [(A aF,ah "frame" [aa (pW W) wU u1 v1,aa (pW W) [103,105,118,101,110] u2 v2,aa (pW W) [100,114,97,119,110] u3 v3,aa (pW W) [98,97,115,101] u4 v4,aa (pW W) wN u5 v5,aa (pW W) [105] u6 v6,aa (pW W) [113] u7 v7,aa (pW W) [98,111,116,104] u8 v8,aa (pW W) [101,100,103,101,115] u9 v9,aa (pW W) [112,111,108,121] u10 v10,aa (pW W) wJ u11 v11,aa (pW W) [109,101,114,103,101,100] u12 (.ref (A aM)),aa (pW W) [104,117,101] a13 w13,aa (pW W) wM a14 w14,aa (pW W) [117,112] a15 w15] 15),(kd aI k'),(Yk aG gs epG),(Yk aM ms' ep')] n0 s'->Q)->Q:=by
 intro rest0
 induction rest0 with
 |nil=>
  intro k u13 u14 u15 v13 v14 v15 acc ms ep fzM n0 p0 s hd hne hpos hmt hsz hP hf hst hn0 hlt Q kQ
  have hP2:=hP.sub (E':=[(Y5 aI aG k),(Yk aG gs epG)]) (.cons _ (.cons_cons _ (.cons_cons _ (.cons _ .slnil))))
  apply Gl (W:=W) (hit:=hgs.none hd) (hE:=rfl) (hP:=hP2) (p0:=p0) (kQ:=?k93) ..
  case' k93=>intro n tb s' _ _ r h1 h2 h3
  have K:af [(A aF,ah "frame" [aa (pW W) wU u1 v1,aa (pW W) [103,105,118,101,110] u2 v2,aa (pW W) [100,114,97,119,110] u3 v3,aa (pW W) [98,97,115,101] u4 v4,aa (pW W) wN u5 v5,aa (pW W) [105] u6 v6,aa (pW W) [113] u7 v7,aa (pW W) [98,111,116,104] u8 v8,aa (pW W) [101,100,103,101,115] u9 v9,aa (pW W) [112,111,108,121] u10 v10,aa (pW W) wJ u11 v11,aa (pW W) [109,101,114,103,101,100] u12 (.ref (A aM)),aa (pW W) [104,117,101] u13 v13,aa (pW W) wM u14 v14,aa (pW W) [117,112] u15 v15] 15),(Y5 aI aG k),(Yk aG gs epG),(Yk aM ms ep)] s s':=h3.mono (by simp)
  have nd:=hP.nd
  simp only [map_cons,map_nil,List.nodup_cons,List.mem_cons,List.not_mem_nil,or_false,not_or] at nd
  have hF:s'.heap.get? (A aF)=_:=h3.keep _ _ hP.has.1 (by simp only [map_cons,map_nil,List.mem_cons,List.not_mem_nil,or_false,not_or];exact⟨nd.1.1,nd.1.2.1⟩)
  have hM:s'.heap.get? (A aM)=_:=h3.keep _ _ hP.has.2.2.2.1 (by simp only [map_cons,map_nil,List.mem_cons,List.not_mem_nil,or_false,not_or];exact⟨fun q=>nd.2.1.2 q.symm,fun q=>nd.2.2.1 q.symm⟩)
  exact kQ s' u13 u14 u15 v13 v14 v15 k ms ep fzM r h1 ⟨hF,h2.1,h2.2.1,hM,trivial⟩ K hmt hpos (hst.keep K rfl)
 |cons d rest ih=>
  intro k u13 u14 u15 v13 v14 v15 acc ms ep fzM n0 p0 s hd hne hpos hmt hsz hP hf hst hn0 hlt Q kQ
  obtain⟨hk,hd'⟩:=bw hd
  obtain⟨aT,th,tx,ty,et,hit,hx⟩:=hgs.some hk
  obtain⟨acc0,c,rfl⟩:∃acc0 c,acc=acc0++[c]:=⟨_,_,(List.dropLast_concat_getLast hne).symm⟩
  have hsize:=hmt.size
  rw [List.length_append,List.length_singleton] at hsize
  obtain⟨aB,tl,tcx,tcy,eb,e,hib,hxB,he10,hes⟩:=hmt.at (i:=acc0.length) (c:=c) (by rw [getElem?_append_right (Nat.le_refl _),Nat.sub_self];rfl)
  have hl:=Dl hsize hib
  have hc0:0<c.1:=hpos c (mem_append_right _ (List.mem_singleton.mpr rfl))
  have hd10:cV d:=h10 d (mem_of_getElem? hk)
  have hd0:0<d.1:=hd10.1
  have he0:0<e.1:=he10.1
  have hne:(ms.size !=(HH).size)=true:=by simp;intro q;rw [q] at hsize;simp at hsize
  have hTB:(A aT)≠A aB:=ne_of_lt (lt_of_lt_of_le (hlt _ hx) (hst _ hxB).2.2)
  have hP6:=hP.addL (fz:=[(A aT,a9 [.float (bf d.1 d.2) th,.int d.1 tx,.int d.2 ty] et),(A aB,a9 [.float (bf e.1 e.2) tl,.int c.1 tcx,.int c.2 tcy] eb)]) (T:=[(A aT,a9 [.float (bf d.1 d.2) th,.int d.1 tx,.int d.2 ty] et),(A aB,a9 [.float (bf e.1 e.2) tl,.int c.1 tcx,.int c.2 tcy] eb)]) (fun x hx'=>by
   rcases List.mem_cons.mp hx' with rfl|hx'
   ·exact hf _ hx
   ·rw [List.mem_singleton.mp hx'];exact⟨(hst _ hxB).1,(hst _ hxB).2.1⟩) (fun x h=>h) (fun x hx'=>by
   rcases List.mem_cons.mp hx' with rfl|hx'
   ·show 245<=aT+245;lia
   ·rw [List.mem_singleton.mp hx'];show 245<=aB+245;lia) (by simpa using hTB)
  have hcmp:=iw he10 hd10
  by_cases hs2:c.2*d.1=d.2*c.1
  ·have hq:(Float64.cmp (bf e.1 e.2) (bf d.1 d.2)==some .eq)=true:=by rw [hcmp];exact decide_eq_true ((jq hc0 hd0 he0 hes).mpr hs2)
   apply FH (W:=W) (hit:=hit) (hne:=hne) (hlast:=hl.2) (heq:=hq) (hm:=hl.1) (hE:=rfl) (hP:=hP6) (p0:=p0) (kQ:=?k95) ..
   case' k95=>intro n tb s1 y13 y14 y15 nt ep1 tX tY _ _ zp94 h4 hF K hnew
   obtain⟨p',H⟩:=zp94
   have K4:af [(A aF,ah "frame" [aa (pW W) wU u1 v1,aa (pW W) [103,105,118,101,110] u2 v2,aa (pW W) [100,114,97,119,110] u3 v3,aa (pW W) [98,97,115,101] u4 v4,aa (pW W) wN u5 v5,aa (pW W) [105] u6 v6,aa (pW W) [113] u7 v7,aa (pW W) [98,111,116,104] u8 v8,aa (pW W) [101,100,103,101,115] u9 v9,aa (pW W) [112,111,108,121] u10 v10,aa (pW W) wJ u11 v11,aa (pW W) [109,101,114,103,101,100] u12 (.ref (A aM)),aa (pW W) [104,117,101] u13 v13,aa (pW W) wM u14 v14,aa (pW W) [117,112] u15 v15] 15),(Y5 aI aG k),(Yk aG gs epG),(Yk aM ms ep)] s s1:=af.cutL (T:=[(A aT,a9 [.float (bf d.1 d.2) th,.int d.1 tx,.int d.2 ty] et),(A aB,a9 [.float (bf e.1 e.2) tl,.int c.1 tcx,.int c.2 tcy] eb)]) K ⟨(hf _ hx).1,(hst _ hxB).1,trivial⟩ ⟨hF.2.2.2.2.1,hF.2.2.2.2.2.1,trivial⟩
   have hP1:az (pW W) [(A aF,ah "frame" [aa (pW W) Yy u1 v1,aa (pW W) ii u2 v2,aa (pW W) ie u3 v3,aa (pW W) eH u4 v4,aa (pW W) Yr u5 v5,aa (pW W) [105] u6 v6,aa (pW W) [113] u7 v7,aa (pW W) qc u8 v8,aa (pW W) kI u9 v9,aa (pW W) gE u10 v10,aa (pW W) Yq u11 v11,aa (pW W) nK u12 (Yp aM),aa (pW W) mL y13 (.float (bf d.1 d.2) th),aa (pW W) md y14 (.int d.1 tx),aa (pW W) yS y15 (.int d.2 ty)] 15),(uv aI aG k),(Yk aG gs epG),(A aM,ab (ms.setIfInBounds acc0.length (Yp nt)) ep1)] s1:=⟨h4,⟨hF.1,hF.2.1,hF.2.2.1,hF.2.2.2.1,trivial⟩,hP.nd,hP.lo⟩
   have hn1:s.heap.objs.size<=A nt:=hnew
   have ho:s1.heap.get? (A nt)=some (a9 [.float (bf d.1 d.2) th,.int (c.1+d.1) tX,.int (c.2+d.2) tY] 0):=hF.2.2.2.2.2.2.1
   refine ih (k+1) y13 y14 y15 _ _ _ (acc0++[(c.1+d.1,c.2+d.2)]) (ms.setIfInBounds acc0.length (Yp nt)) ep1 (fzM++[(A nt,a9 [.float (bf d.1 d.2) th,.int (c.1+d.1) tX,.int (c.2+d.2) tY] 0)]) n0 p' s1 hd' (by simp) (fun x hx=>by rcases List.mem_append.mp hx with hx|hx;exact hpos x (mem_append_left _ hx);rw [List.mem_singleton.mp hx];show 0<c.1+d.1;lia) (hmt.setLast (c':=(c.1+d.1,c.2+d.2)) hd10 (by show d.2*(c.1+d.1)=(c.2+d.2)*d.1;rw [Int.mul_add,add_mul,hs2])) (by simp at hsz⊢;lia) hP1 (hf.keep K4 rfl) ((hst.keep K4 rfl).add hP rfl ho hn1 hn0) (Nat.le_trans hn0 K4.size) hlt _ fun s2 a13 a14 a15 w13 w14 w15 k2 ms2 ep2 fz2 r h5 h6 h7 h8 h9 h10'=>?_
   exact kQ s2 a13 a14 a15 w13 w14 w15 k2 ms2 ep2 fz2 (H _ _ r) h5 h6 (K4.trans (h7.cast rfl)) (by rw [foldl_cons,dg,if_pos hs2];exact h8) (by rw [foldl_cons,dg,if_pos hs2];exact h9) h10'
  ·have hq:(Float64.cmp (bf e.1 e.2) (bf d.1 d.2)==some .eq)=false:=by rw [hcmp];exact decide_eq_false fun q=>hs2 ((jq hc0 hd0 he0 hes).mp q)
   apply FQ (W:=W) (hit:=hit) (hne:=hne) (hlast:=hl.2) (heq:=hq) (hsz:=by simp at hsz;lia) (hE:=rfl) (hP:=hP6) (p0:=p0) (kQ:=?k97) ..
   case' k97=>intro n tb s1 y13 y14 y15 nt ep1 tX tY _ _ zp96 h4 hF K hnew
   obtain⟨p',H⟩:=zp96
   have K4:af [(A aF,ah "frame" [aa (pW W) wU u1 v1,aa (pW W) [103,105,118,101,110] u2 v2,aa (pW W) [100,114,97,119,110] u3 v3,aa (pW W) [98,97,115,101] u4 v4,aa (pW W) wN u5 v5,aa (pW W) [105] u6 v6,aa (pW W) [113] u7 v7,aa (pW W) [98,111,116,104] u8 v8,aa (pW W) [101,100,103,101,115] u9 v9,aa (pW W) [112,111,108,121] u10 v10,aa (pW W) wJ u11 v11,aa (pW W) [109,101,114,103,101,100] u12 (.ref (A aM)),aa (pW W) [104,117,101] u13 v13,aa (pW W) wM u14 v14,aa (pW W) [117,112] u15 v15] 15),(Y5 aI aG k),(Yk aG gs epG),(Yk aM ms ep)] s s1:=af.cutL (T:=[(A aT,a9 [.float (bf d.1 d.2) th,.int d.1 tx,.int d.2 ty] et),(A aB,a9 [.float (bf e.1 e.2) tl,.int c.1 tcx,.int c.2 tcy] eb)]) K ⟨(hf _ hx).1,(hst _ hxB).1,trivial⟩ ⟨hF.2.2.2.2.1,hF.2.2.2.2.2.1,trivial⟩
   have hP1:az (pW W) [(A aF,ah "frame" [aa (pW W) Yy u1 v1,aa (pW W) ii u2 v2,aa (pW W) ie u3 v3,aa (pW W) eH u4 v4,aa (pW W) Yr u5 v5,aa (pW W) [105] u6 v6,aa (pW W) [113] u7 v7,aa (pW W) qc u8 v8,aa (pW W) kI u9 v9,aa (pW W) gE u10 v10,aa (pW W) Yq u11 v11,aa (pW W) nK u12 (Yp aM),aa (pW W) mL y13 (.float (bf d.1 d.2) th),aa (pW W) md y14 (.int d.1 tx),aa (pW W) yS y15 (.int d.2 ty)] 15),(uv aI aG k),(Yk aG gs epG),(A aM,ab (ms.push (Yp nt)) ep1)] s1:=⟨h4,⟨hF.1,hF.2.1,hF.2.2.1,hF.2.2.2.1,trivial⟩,hP.nd,hP.lo⟩
   have hn1:s.heap.objs.size<=A nt:=hnew
   have ho:s1.heap.get? (A nt)=some (a9 [.float (bf d.1 d.2) th,.int d.1 tX,.int d.2 tY] 0):=hF.2.2.2.2.2.2.1
   refine ih (k+1) y13 y14 y15 _ _ _ ((acc0++[c])++[d]) (ms.push (Yp nt)) ep1 (fzM++[(A nt,a9 [.float (bf d.1 d.2) th,.int d.1 tX,.int d.2 tY] 0)]) n0 p' s1 hd' (by simp) (fun x hx=>by rcases List.mem_append.mp hx with hx|hx;exact hpos x hx;rw [List.mem_singleton.mp hx];exact hd0) (hmt.push hd10) (by simp at hsz⊢;lia) hP1 (hf.keep K4 rfl) ((hst.keep K4 rfl).add hP rfl ho hn1 hn0) (Nat.le_trans hn0 K4.size) hlt _ fun s2 a13 a14 a15 w13 w14 w15 k2 ms2 ep2 fz2 r h5 h6 h7 h8 h9 h10'=>?_
   exact kQ s2 a13 a14 a15 w13 w14 w15 k2 ms2 ep2 fz2 (H _ _ r) h5 h6 (K4.trans (h7.cast rfl)) (by rw [foldl_cons,dg,if_neg hs2];exact h8) (by rw [foldl_cons,dg,if_neg hs2];exact h9) h10'
structure xi where
 y13:Tok
 y14:Tok
 y15:Tok
 w13:Value
 w14:Value
 w15:Value
 k:Nat
 ep:Nat
 ls:Array Value
 fz:List (Nat×Obj)
noncomputable def np(P:Params)(aF aI aG aM:Nat)(u1 u2 u3 u4 u5 u6 u7 u8 u9 u10 u11 u12:Tok)(v1 v2 v3 v4 v5 v6 v7 v8 v9 v10 v11:Value)(gs:Array Value)(epG:Nat)(x:xi):Result×List Obj×ae:=(mV,([(A aF,ah "frame" [aa P Yy u1 v1,aa P ii u2 v2,aa P ie u3 v3,aa P eH u4 v4,aa P Yr u5 v5,aa P [105] u6 v6,aa P [113] u7 v7,aa P qc u8 v8,aa P kI u9 v9,aa P gE u10 v10,aa P Yq u11 v11,aa P nK u12 (Yp aM),aa P mL x.y13 x.w13,aa P md x.y14 x.w14,aa P wQ x.y15 x.w15] 15),(A aI,aK "list_iterator" [.none,.int (Int.ofNat x.k) 0]),(Yk aG gs epG),(A aM,ab x.ls x.ep)]:ae).map (·.2),[])
noncomputable def yy(P:Params)(aF aI aG aM:Nat)(u1 u2 u3 u4 u5 u6 u7 u8 u9 u10 u11 u12:Tok)(v1 v2 v3 v4 v5 v6 v7 v8 v9 v10 v11:Value)(gs:Array Value)(epG epM:Nat):ae:=[(A aF,ah "frame" [aa P Yy u1 v1,aa P ii u2 v2,aa P ie u3 v3,aa P eH u4 v4,aa P Yr u5 v5,aa P [105] u6 v6,aa P [113] u7 v7,aa P qc u8 v8,aa P kI u9 v9,aa P gE u10 v10,aa P Yq u11 v11,aa P nK u12 (Yp aM)] 12),(A aI,Yf aG),(Yk aG gs epG),(wz aM epM)]
theorem rU(epM:Nat)(fz:List df)(ds:List cw)(hgs:bq gs fz ds)(h10:cb ds)(hne:ds≠[])(hlen:ds.length<=900):
  cv (Vw W) ⟨fx (pW W) aF c1 c2 aI,none,none,(c6 vE),none⟩ (yy (pW W) aF aI aG aM u1 u2 u3 u4 u5 u6 u7 u8 u9 u10 u11 u12 v1 v2 v3 v4 v5 v6 v7 v8 v9 v10 v11 gs epG epM) fz (np (pW W) aF aI aG aM u1 u2 u3 u4 u5 u6 u7 u8 u9 u10 u11 u12 v1 v2 v3 v4 v5 v6 v7 v8 v9 v10 v11 gs epG) (fun x=>x.fz) (fun x=>cz x.ls x.fz (ds.foldl bt [])):=by
 intro p0 s hP hf
 refine gQ fun Q zQ=>?_
 obtain⟨d,rest,rfl⟩:∃d rest,ds=d::rest:=by cases ds with|nil=>exact(hne rfl).elim|cons q r=>exact⟨q,r,rfl⟩
 have hP:az (pW W) [(A aF,ah "frame" [aa (pW W) Yy u1 v1,aa (pW W) ii u2 v2,aa (pW W) ie u3 v3,aa (pW W) eH u4 v4,aa (pW W) Yr u5 v5,aa (pW W) [105] u6 v6,aa (pW W) [113] u7 v7,aa (pW W) Hl u8 v8,aa (pW W) kI u9 v9,aa (pW W) gE u10 v10,aa (pW W) Yq u11 v11,aa (pW W) nK u12 (Yp aM)] 12),(A aI,Yf aG),(Yk aG gs epG),(wz aM epM)] s:=hP
 have hf:cF fz [(A aF,ah "frame" [aa (pW W) Yy u1 v1,aa (pW W) ii u2 v2,aa (pW W) ie u3 v3,aa (pW W) eH u4 v4,aa (pW W) Yr u5 v5,aa (pW W) [105] u6 v6,aa (pW W) [113] u7 v7,aa (pW W) Hl u8 v8,aa (pW W) kI u9 v9,aa (pW W) gE u10 v10,aa (pW W) Yq u11 v11,aa (pW W) nK u12 (Yp aM)] 12),(A aI,Yf aG),(Yk aG gs epG),(wz aM epM)] s:=hf
 obtain⟨aT,th,tx,ty,et,hit,hx⟩:=hgs.some (k:=0) rfl
 refine zQ ?_
 have hd10:cV d:=h10 d (mem_cons_self ..)
 have hP5:=hP.add hf hx (by show 245<=aT+245;lia)
 apply Gf (W:=W) (hit:=hit) (hE:=rfl) (hP:=hP5) (p0:=p0) (aB:=0) (u13:=0) (u14:=0) (u15:=0) (v13:=.none) (v14:=.none) (v15:=.none) (ms:=⟨[]⟩) (eb:=0) (hl:=0) (tl:=0) (tcx:=0) (tcy:=0) (cx:=0) (cy:=0) (kQ:=?k99) ..
 case' k99=>intro n tb s1 y13 y14 y15 nt ep1 tX tY _ _ zp98 h4 hF K hnew
 obtain⟨p',H⟩:=zp98
 have K4:af [(A aF,ah "frame" [aa (pW W) Yy u1 v1,aa (pW W) ii u2 v2,aa (pW W) ie u3 v3,aa (pW W) eH u4 v4,aa (pW W) Yr u5 v5,aa (pW W) [105] u6 v6,aa (pW W) [113] u7 v7,aa (pW W) Hl u8 v8,aa (pW W) kI u9 v9,aa (pW W) gE u10 v10,aa (pW W) Yq u11 v11,aa (pW W) nK u12 (Yp aM)] 12),(A aI,Yf aG),(Yk aG gs epG),(wz aM epM)] s s1:=af.cut (x:=(A aT,a9 [.float (bf d.1 d.2) th,.int d.1 tx,.int d.2 ty] et)) K (hf _ hx).1 hF.2.2.2.2.1
 have hP1:az (pW W) [(A aF,ah "frame" [aa (pW W) Yy u1 v1,aa (pW W) ii u2 v2,aa (pW W) ie u3 v3,aa (pW W) eH u4 v4,aa (pW W) Yr u5 v5,aa (pW W) [105] u6 v6,aa (pW W) [113] u7 v7,aa (pW W) qc u8 v8,aa (pW W) kI u9 v9,aa (pW W) gE u10 v10,aa (pW W) Yq u11 v11,aa (pW W) nK u12 (Yp aM),aa (pW W) mL y13 (.float (bf d.1 d.2) th),aa (pW W) md y14 (.int d.1 tx),aa (pW W) yS y15 (.int d.2 ty)] 15),(A aI,NC aG),(Yk aG gs epG),(A aM,ab (HD nt) ep1)] s1:=⟨h4,⟨hF.1,hF.2.1,hF.2.2.1,hF.2.2.2.1,trivial⟩,hP.nd,hP.lo⟩
 have hn1:s.heap.objs.size<=A nt:=hnew
 have ho:s1.heap.get? (A nt)=some (a9 [.float (bf d.1 d.2) th,.int d.1 tX,.int d.2 tY] 0):=hF.2.2.2.2.2.1
 have hst0:c9 [] [(A aF,ah "frame" [aa (pW W) Yy u1 v1,aa (pW W) ii u2 v2,aa (pW W) ie u3 v3,aa (pW W) eH u4 v4,aa (pW W) Yr u5 v5,aa (pW W) [105] u6 v6,aa (pW W) [113] u7 v7,aa (pW W) Hl u8 v8,aa (pW W) kI u9 v9,aa (pW W) gE u10 v10,aa (pW W) Yq u11 v11,aa (pW W) nK u12 (Yp aM)] 12),(A aI,Yf aG),(Yk aG gs epG),(wz aM epM)] s.heap.objs.size s:=fun y hy=>nomatch hy
 have hm0:cz (⟨[]⟩:Array Value) [] []:=fun i=>by simp
 refine yY W vE aF c1 c2 aI aG aM u1 u2 u3 u4 u5 u6 u7 u8 u9 u10 u11 u12 v1 v2 v3 v4 v5 v6 v7 v8 v9 v10 v11 gs epG fz (d::rest) hgs h10 rest 1 y13 y14 y15 _ _ _ ([]++[d]) (HD nt) ep1 ([]++[(A nt,a9 [.float (bf d.1 d.2) th,.int d.1 tX,.int d.2 tY] 0)]) s.heap.objs.size p' s1 rfl (by simp) (fun x hx=>by rw [List.mem_singleton.mp hx];exact hd10.1) (hm0.push hd10) (by simp at hlen⊢;lia) hP1 (hf.keep K4 rfl) ((hst0.keep K4 rfl).add hP rfl ho hn1 (Nat.le_refl _)) K4.size (fun x hx=>Heap.lt_size (hf x hx).1) _ fun s2 a13 a14 a15 w13 w14 w15 k2 ms2 ep2 fz2 r h5 h6 h7 h8 h9 h10'=>?_
 exact⟨⟨a13,a14,a15,w13,w14,w15,k2,ep2,ms2,fz2⟩,s2,H _ _ r,h5,K4.trans (h7.cast rfl),⟨h6.1,h6.2.1,h6.2.2.1,h6.2.2.2.1,trivial⟩,trivial,(fun y hy=>nomatch hy),nodup_nil,h8,fun y hy=>⟨(h10' y hy).1,(h10' y hy).2.2,by simp [np]⟩⟩
end
noncomputable def xb(W:WW)(vE:FE)(aF c1 c2 iF iI iG iM mm ro:Nat):bL:=jN (X:=xi) (Y:=List cw×List df) (Vw W) (fun st y=>bq (fp st iG) y.2 y.1/\cb y.1/\y.1≠[]/\y.1.length<=900/\∀x∈y.2,x∈st.fz) (fun st=>⟨fx (pW W) aF c1 c2 (b8 st iI),none,none,(c6 vE),none⟩) (fun st=>yy (pW W) aF (b8 st iI) (b8 st iG) (b8 st iM) (bU st iF 0).1 (bU st iF 1).1 (bU st iF 2).1 (bU st iF 3).1 (bU st iF 4).1 (bU st iF 5).1 (bU st iF 6).1 (bU st iF 7).1 (bU st iF 8).1 (bU st iF 9).1 (bU st iF 10).1 (bU st iF 11).1 (bU st iF 0).2 (bU st iF 1).2 (bU st iF 2).2 (bU st iF 3).2 (bU st iF 4).2 (bU st iF 5).2 (bU st iF 6).2 (bU st iF 7).2 (bU st iF 8).2 (bU st iF 9).2 (bU st iF 10).2 (fp st iG) (fc st iG) (fc st iM)) [iF,iI,iG,iM] mm ro (fun st=>np (pW W) aF (b8 st iI) (b8 st iG) (b8 st iM) (bU st iF 0).1 (bU st iF 1).1 (bU st iF 2).1 (bU st iF 3).1 (bU st iF 4).1 (bU st iF 5).1 (bU st iF 6).1 (bU st iF 7).1 (bU st iF 8).1 (bU st iF 9).1 (bU st iF 10).1 (bU st iF 11).1 (bU st iF 0).2 (bU st iF 1).2 (bU st iF 2).2 (bU st iF 3).2 (bU st iF 4).2 (bU st iF 5).2 (bU st iF 6).2 (bU st iF 7).2 (bU st iF 8).2 (bU st iF 9).2 (bU st iF 10).2 (fp st iG) (fc st iG)) (fun x=>x.fz) (fun st y x=>cz x.ls x.fz (y.1.foldl bt []))
theorem vP(W:WW)(vE:FE)(aF c1 c2:Nat){iF iI iG iM:Nat}{V:XV}(hk:V.kt=eD (pW W)):bX V (model pw (Vw W)) (xb W vE aF c1 c2 iF iI iG iM V.mm V.ro):=
 fI hk fun st y h=>⟨y.2,h.2.2.2.2,rU W vE aF c1 c2 _ _ _ _ _ _ _ _ _ _ _ _ _ _ _ _ _ _ _ _ _ _ _ _ _ _ _ _ _ y.2 y.1 h.1 h.2.1 h.2.2.1 h.2.2.2.1⟩
theorem zA(W:WW)(b7:Bool)(p0:Pos)(vE:FE)(aF c1 c2 aL aI aC aG aT:Nat)(uF uG uH th tx ty:Tok)(vF vG vH:Value)(hh:UInt64)(dx dy:Int)(k et:Nat)(gs as:Array Value)(epG epA:Nat)(s:Shared)(hit:gs[(Yh k).toNat]? =some (Yp aT))(hsz:as.size<=1000)(E:WW->ae)(hE:E=fun W=>[(A aL,ah "dict" (cond b7 [] [aa (pW W) mL uF vF,aa (pW W) md uG vG,aa (pW W) wQ uH vH]) (cond b7 0 3)),(Y5 aI aG k),(Yk aG gs epG),(Yk aC as epA),(wD aT hh th dx tx dy ty et)])(hP:az (pW W) (E W) s){Q:Prop}(kQ:∀(n tb:Nat) (s':Shared) (y1 y2 y3:Tok) (nt ep:Nat),Hn s n->Ht s tb->br (Yt W) (⟨ao (f6 (pW W)) (bo (pW W) aF c1 c2) aL aI aC,none,none,(c6 vE),none⟩) p0 s s'->cL (pW W) s'->cG ([(A aL,ah "dict" [aa (pW W) mL y1 (.float hh th),aa (pW W) md y2 (bY dx tx),aa (pW W) wQ y3 (bY dy ty)] 3),(uv aI aG k),(Yk aG gs epG),(A aC,ab (as.push (Yp nt)) ep),(wD aT hh th dx tx dy ty et),(A nt,a9 [.int dx tx,.int dy ty] 0)]) s'.heap->af (E W) s s'->s.heap.objs.size<=A nt->Q):Q:=by
 obtain⟨n,tb,gb,hn,ht,hg⟩:=hP.nt
 refine p9 (fz:=[]) hE hP hn ht hg (fun E W Z hs=>ch (ec (Vw W) 5 [(bF 1 2 (Yp aT)),(b9 3)] [] [] []) 138 (⟨ao (f6 (pW W)) (bo (pW W) aF c1 c2) aL aI aC,none,none,(c6 vE),none⟩) (p0) (a8 (ao (f6 (pW W)) (bo (pW W) aF c1 c2) aL aI aC)) [] hs (cN E n tb gb) (sN [0,1,2,3,4,8] Z)) (fun E W Z hs=>ad (lE E) (A n) gb (sl hs 0 2) ((Em aI aG gs k aT)/\ad (lE E) (A n) gb (sl hs 3 46) (((Ji aC n 3)/\(rJ as))/\ad (lE E) (A n) gb (sl hs 50 1) (Z (.again (ao (f6 (pW W)) (bo (pW W) aF c1 c2) aL aI aC)) (Y2 n 4) (Y8 tb 3) true (ax ([((A aL),⟨(.type "dict"),none,(.dict ⟨[⟨(PyData.keyHash (pW W) DP),(.str DP (cond b7 (TK tb) uF)),(nw hh th)⟩,⟨(PyData.keyHash (pW W) DY),(.str DY (cond b7 (Y8 tb 1) uG)),(iU dx tx)⟩,⟨(PyData.keyHash (pW W) Ez),(.str Ez (cond b7 (Y8 tb 2) uH)),(iU dy ty)⟩]⟩ 3),⟨[]⟩⟩),(IS aI aG k),(rA aG gs epG),(A aC,Obj.mapSeq (·.push (dV n 3)) (ab as epA)),(Hq aT hh th dx tx dy ty et),((Y2 n 3),⟨(.type "tuple"),none,(.seq ⟨[(iU dx tx),(iU dy ty)]⟩ 0),⟨[]⟩⟩)])) ([]))))) (fun _=>(gC [2,2,4000,2,2,2,40005,50006,5,60006,5,60006,5,60006,5,6,6,8,80001,4,4001,4,3000])) (by apply iR b7<;>exact iX (by kernel_rfl)) rfl ⟨fun _=>bi,fun _=>bx,trivial⟩ trivial rfl rfl (fun x hx=>nomatch hx) fun hs=>?_
 refine rI ⟨rfl,rfl,hit⟩ ?_
 refine rI ⟨rfl,⟨rfl,rfl,rfl⟩,hsz⟩ ?_
 exact rF fun s' r _ h3 h4 h5 h6 h7=>kQ n tb s' _ _ _ (bJ n 3) _ hn ht (am rfl r) h4 (ai h3) h5 (h7 _ (mem_cons_self ..))
theorem Gc(W:WW)(p0:Pos)(vE:FE)(aF c1 c2 aL aI aC aG:Nat)(loc:List DictEntry)(k el:Nat)(gs as:Array Value)(epG epA:Nat)(s:Shared)(hit:gs[(Yh k).toNat]? =none)(E:WW->ae)(hE:E=fun W=>[(mw aL loc el),(Y5 aI aG k),(Yk aG gs epG),(Yk aC as epA)])(hP:az (pW W) (E W) s){Q:Prop}(kQ:∀(n tb:Nat) (s':Shared),Hn s n->Ht s tb->Runs (Yt W) (⟨ao (f6 (pW W)) (bo (pW W) aF c1 c2) aL aI aC,none,none,(c6 vE),none⟩) p0 ((Yt W).den (ao (f6 (pW W)) (bo (pW W) aF c1 c2) aL aI aC)) [] s ft s'->cL (pW W) s'->cG (D2 aL loc el aI k aG gs epG aC as epA) s'.heap->af (E W) s s'->Q):Q:=by
 obtain⟨n,tb,gb,hn,ht,hg⟩:=hP.nt
 refine bT hE hP hn ht hg (fun E W Z hs=>ch (ul W 4 1 2) 53 (⟨ao (f6 (pW W)) (bo (pW W) aF c1 c2) aL aI aC,none,none,(c6 vE),none⟩) (p0) (a8 (ao (f6 (pW W)) (bo (pW W) aF c1 c2) aL aI aC)) [] hs (cN E n tb gb) (mB Z)) (fun E W Z hs=>ad (lE E) (A n) gb (sl hs 0 2) ((uq aI aG gs k)/\ad (lE E) (A n) gb (sl hs 3 3) (Z (.fin ft) (Y2 n 2) (Y8 tb 0) true (ax ((Hr aL loc el aI k aG gs epG aC as epA)))))) (fun _=>[2,2,4000,2,2,6]) (oU (by kernel_rfl)) rfl ⟨fun _=>ce,trivial⟩ trivial rfl fun hs=>?_
 refine rI ⟨rfl,rfl,hit⟩ ?_
 exact rF fun s' r _ h3 h4 h5=>kQ n tb s' hn ht (by rw [bG];exact r) h4 (ai h3) h5
theorem Gs(W:WW)(p0:Pos)(vE:FE)(aF c1 c2 aL aI aC aG:Nat)(gs:Array Value)(epG:Nat)(s:Shared)(E:WW->ae)(hE:E=fun W=>(Y9 aL aI aG gs epG aC))(hP:az (pW W) (E W) s){Q:Prop}(kQ:∀(n tb:Nat) (s':Shared),Hn s n->Ht s tb->cp (Yt W) (⟨ay (ao (f6 (pW W)) (bo (pW W) aF c1 c2) aL aI aC),none,none,(c6 vE),none⟩) (ao (f6 (pW W)) (bo (pW W) aF c1 c2) aL aI aC) p0 s s'->az (pW W) ((Y9 aL aI aG gs epG aC)) s'->af (E W) s s'->Q):Q:=by
 obtain⟨n,tb,gb,hn,ht,hg⟩:=hP.nt
 refine bT hE hP hn ht hg (fun E W Z hs=>ch (oX W 4) 52 (⟨ay (ao (f6 (pW W)) (bo (pW W) aF c1 c2) aL aI aC),none,none,(c6 vE),none⟩) (p0) (a8 (ay (ao (f6 (pW W)) (bo (pW W) aF c1 c2) aL aI aC))) [] hs (cN E n tb gb) (mB Z)) (fun E W Z hs=>ad (lE E) (A n) gb (Aq hs W) (Z (.again (ao (f6 (pW W)) (bo (pW W) aF c1 c2) aL aI aC)) (Y2 n 0) (Y8 tb 0) true (ax ((Y9 aL aI aG gs epG aC))))) Ad (pc (by kernel_rfl)) rfl trivial (by exact trivial) rfl fun hs=>?_
 exact rF fun s' r _ h3 h4 h5=>kQ n tb s' hn ht (cf r) ⟨h4,ai h3,(nx hE hP).nd,(nx hE hP).lo⟩ h5
theorem aw.push2{items:Array Value}{fz:List df}{ds:List cw}{a tx ty et}{d:Int×Int}(h:aw items fz ds):aw (items.push (Yp a)) (fz++[(A a,a9 [.int d.1 tx,.int d.2 ty] et)]) (ds++[d]):=by
 intro i
 have hs:=h.size
 by_cases q:i<ds.length
 ·rw [getElem?_append_left q]
  have z:=h i
  revert z
  rw [List.getElem?_eq_getElem q]
  intro z
  obtain⟨a',tx',ty',et',e',hm⟩:=z
  exact⟨a',tx',ty',et',by rw [getElem?_push,if_neg (by lia)];exact e',mem_append_left _ hm⟩
 ·by_cases q2:i=ds.length
  ·subst q2
   rw [getElem?_append_right (Nat.le_refl _),Nat.sub_self]
   exact⟨a,tx,ty,et,by rw [getElem?_push,if_pos hs.symm],mem_append_right _ (List.mem_singleton.mpr rfl)⟩
  ·rw [getElem?_append_right (by lia),List.getElem?_eq_none (by simp;lia)]
   show _=Option.none
   rw [getElem?_push,if_neg (by lia),Array.getElem?_eq_none (by lia)]
theorem cz.none{items:Array Value}{fz}{ds:List (Int×Int)}(h:cz items fz ds){k:Nat}(e:ds.drop k=[]):items[(Int.ofNat k).toNat]? =none:=by
 have z:=h k
 rw [List.getElem?_eq_none (List.drop_eq_nil_iff.mp e)] at z
 exact z
section
variable(W:WW)(vE:FE)(aF c1 c2 aL aI aC aG:Nat)(gs:Array Value)(epG:Nat)(fz:List df)(ds:List cw)(hgs:cz gs fz ds)
include W vE aF c1 c2 aL aI aC aG gs epG fz ds hgs
theorem BC:∀(rest:List cw) (k:Nat) (uF uG uH:Tok) (vF vG vH:Value) (pre:List cw) (as:Array Value) (ep:Nat) (fzT:List df) (n0:Nat) (p0:Pos) (s:Shared),ds.drop k=rest->aw as fzT pre->as.size+rest.length<=1000->az (pW W) [(A aL,ah "dict" [aa (pW W) mL uF vF,aa (pW W) md uG vG,aa (pW W) yS uH vH] 3),(Y5 aI aG k),(Yk aG gs epG),(Yk aC as ep)] s->cF fz [(A aL,ah "dict" [aa (pW W) mL uF vF,aa (pW W) md uG vG,aa (pW W) yS uH vH] 3),(Y5 aI aG k),(Yk aG gs epG),(Yk aC as ep)] s->c9 fzT [(A aL,ah "dict" [aa (pW W) mL uF vF,aa (pW W) md uG vG,aa (pW W) yS uH vH] 3),(Y5 aI aG k),(Yk aG gs epG),(Yk aC as ep)] n0 s->n0<=s.heap.objs.size->
  ∀Q:Prop,(∀s' a1 a2 a3 w1 w2 w3 k' ep' as' fzT',Runs (Yt W) ⟨ao (f6 (pW W)) (bo (pW W) aF c1 c2) aL aI aC,none,none,(c6 vE),none⟩ p0 ((Yt W).den (ao (f6 (pW W)) (bo (pW W) aF c1 c2) aL aI aC)) [] s ft s'->cL (pW W) s'->cG [(A aL,ah "dict" [aa (pW W) mL a1 w1,aa (pW W) md a2 w2,aa (pW W) yS a3 w3] 3),(kd aI k'),(Yk aG gs epG),(Yk aC as' ep')] s'.heap->af [(A aL,ah "dict" [aa (pW W) mL uF vF,aa (pW W) md uG vG,aa (pW W) yS uH vH] 3),(Y5 aI aG k),(Yk aG gs epG),(Yk aC as ep)] s s'->aw as' fzT' (pre++rest)->c9 fzT' [(A aL,ah "dict" [aa (pW W) mL a1 w1,aa (pW W) md a2 w2,aa (pW W) yS a3 w3] 3),(kd aI k'),(Yk aG gs epG),(Yk aC as' ep')] n0 s'->Q)->Q:=by
 intro rest0
 induction rest0 with
 |nil=>
  intro k uF uG uH vF vG vH pre as ep fzT n0 p0 s hd hls hsz hP hf hst hn0 Q kQ
  apply Gc (W:=W) (hit:=hgs.none hd) (hE:=rfl) (hP:=hP) (p0:=p0) (kQ:=?k100) ..
  case' k100=>intro n tb s' _ _ r h1 h2 h3
  exact kQ s' uF uG uH vF vG vH k ep as fzT r h1 h2 h3 (by simpa using hls) (hst.keep h3 rfl)
 |cons q rest ih=>
  intro k uF uG uH vF vG vH pre as ep fzT n0 p0 s hd hls hsz hP hf hst hn0 Q kQ
  obtain⟨hk,hd'⟩:=bw hd
  obtain⟨aT,th,tx,ty,et,e0,hit,hx,_,_⟩:=hgs.at hk
  have hP5:=hP.add hf hx (by show 245<=aT+245;lia)
  apply zA (b7:=false) (W:=W) (hit:=hit) (hsz:=by simp at hsz;lia) (hE:=rfl) (hP:=hP5) (p0:=p0) (kQ:=?k102) ..
  case' k102=>intro n tb s1 y1 y2 y3 nt ep1 _ htb zp101 h4 hF K hnew
  obtain⟨p',H⟩:=zp101
  have K4:=af.cut (E:=[(A aL,ah "dict" [aa (pW W) mL uF vF,aa (pW W) md uG vG,aa (pW W) yS uH vH] 3),(Y5 aI aG k),(Yk aG gs epG),(Yk aC as ep)]) (x:=(A aT,a9 [.float (bf e0.1 e0.2) th,.int q.1 tx,.int q.2 ty] et)) K (hf _ hx).1 hF.2.2.2.2.1
  have hP1:az (pW W) [(A aL,ah "dict" [aa (pW W) mL y1 (.float (bf e0.1 e0.2) th),aa (pW W) md y2 (.int q.1 tx),aa (pW W) wQ y3 (.int q.2 ty)] 3),(uv aI aG k),(Yk aG gs epG),(A aC,ab (as.push (Yp nt)) ep1)] s1:=⟨h4,⟨hF.1,hF.2.1,hF.2.2.1,hF.2.2.2.1,trivial⟩,hP.nd,hP.lo⟩
  have hn1:s.heap.objs.size<=A nt:=hnew
  have ho:s1.heap.get? (A nt)=some (a9 [.int q.1 tx,.int q.2 ty] 0):=hF.2.2.2.2.2.1
  refine ih (k+1) y1 y2 y3 _ _ _ (pre++[q]) _ ep1 (fzT++[(A nt,a9 [.int q.1 tx,.int q.2 ty] 0)]) n0 p' s1 hd' hls.push2 (by simp at hsz⊢;lia) hP1 (hf.keep K4 rfl) ((hst.keep K4 rfl).add hP rfl ho hn1 hn0) (Nat.le_trans hn0 K4.size) _ fun s2 a1 a2 a3 w1 w2 w3 k2 ep2 as2 fz2 r h5 h6 h7 h8 h9=>?_
  exact kQ s2 a1 a2 a3 w1 w2 w3 k2 ep2 as2 fz2 (H _ _ r) h5 h6 (K4.trans (h7.cast rfl)) (by simpa using h8) h9
structure GC where
 y1:Tok
 y2:Tok
 y3:Tok
 w1:Value
 w2:Value
 w3:Value
 k:Nat
 ep:Nat
 ls:Array Value
 fz:List (Nat×Obj)
noncomputable def r3(W:WW)(vE:FE)(aF c1 c2 aL aI aC aG:Nat)(gs:Array Value)(epG:Nat)(x:GC):Result×List Obj×ae:=(mV,([(A aL,ah "dict" [aa (pW W) mL x.y1 x.w1,aa (pW W) md x.y2 x.w2,aa (pW W) wQ x.y3 x.w3] 3),(A aI,aK "list_iterator" [.none,.int (Int.ofNat x.k) 0]),(Yk aG gs epG),(A aC,ab x.ls x.ep)]:ae).map (·.2),[])
theorem uZ(hne:ds≠[])(hlen:ds.length<=900):
  cv (Vw W) ⟨ay (ao (f6 (pW W)) (bo (pW W) aF c1 c2) aL aI aC),none,none,(c6 vE),none⟩ (Y9 aL aI aG gs epG aC) fz (r3 W vE aF c1 c2 aL aI aC aG gs epG) (fun x=>x.fz) (fun x=>aw x.ls x.fz ds):=
 cv.to (C:=ao (f6 (pW W)) (bo (pW W) aF c1 c2) aL aI aC) (fun p0 s hP hf=>by
  obtain⟨q,rest,rfl⟩:∃q rest,ds=q::rest:=by cases ds with|nil=>exact(hne rfl).elim|cons q r=>exact⟨q,r,rfl⟩
  obtain⟨aT,th,tx,ty,et,e0,hit,hx,_,_⟩:=hgs.at (i:=0) rfl
  have hP5:=hP.add hf hx (by show 245<=aT+245;lia)
  apply zA (b7:=true) (W:=W) (hit:=hit) (hsz:=zero_le _) (hE:=rfl) (hP:=hP5) (p0:=p0) (uF:=0) (uG:=0) (uH:=0) (vF:=.none) (vG:=.none) (vH:=.none) (kQ:=?k104) ..
  case' k104=>intro n tb s1 y1 y2 y3 nt ep1 _ htb zp103 h4 hF K hnew
  obtain⟨p',H⟩:=zp103
  have K4:=af.cut (E:=(Y9 aL aI aG gs epG aC)) (x:=(A aT,a9 [.float (bf e0.1 e0.2) th,.int q.1 tx,.int q.2 ty] et)) K (hf _ hx).1 hF.2.2.2.2.1
  have hP1:az (pW W) [(A aL,ah "dict" [aa (pW W) mL y1 (.float (bf e0.1 e0.2) th),aa (pW W) md y2 (.int q.1 tx),aa (pW W) wQ y3 (.int q.2 ty)] 3),(A aI,NC aG),(Yk aG gs epG),(A aC,ab (HD nt) ep1)] s1:=⟨h4,⟨hF.1,hF.2.1,hF.2.2.1,hF.2.2.2.1,trivial⟩,hP.nd,hP.lo⟩
  have hn1:s.heap.objs.size<=A nt:=hnew
  have ho:s1.heap.get? (A nt)=some (a9 [.int q.1 tx,.int q.2 ty] 0):=hF.2.2.2.2.2.1
  have hst0:c9 [] (Y9 aL aI aG gs epG aC) s.heap.objs.size s:=fun y hy=>nomatch hy
  have hls0:aw (⟨[]⟩:Array Value) [] []:=fun i=>by simp
  refine BC W vE aF c1 c2 aL aI aC aG gs epG fz (q::rest) hgs rest 1 y1 y2 y3 _ _ _ ([]++[q]) _ ep1 ([]++[(A nt,a9 [.int q.1 tx,.int q.2 ty] 0)]) s.heap.objs.size p' s1 rfl hls0.push2 (by simp at hlen⊢;lia) hP1 (hf.keep K4 rfl) ((hst0.keep K4 rfl).add hP rfl ho hn1 (Nat.le_refl _)) K4.size _ fun s2 a1 a2 a3 w1 w2 w3 k2 ep2 as2 fz2 r h5 h6 h7 h8 h9=>?_
  exact⟨⟨a1,a2,a3,w1,w2,w3,k2,ep2,as2,fz2⟩,s2,H _ _ r,h5,K4.trans (h7.cast rfl),⟨h6.1,h6.2.1,h6.2.2.1,h6.2.2.2.1,trivial⟩,trivial,(fun y hy=>nomatch hy),nodup_nil,by simpa using h8,fun y hy=>⟨(h9 y hy).1,(h9 y hy).2.2,by simp [r3]⟩⟩) fun p s hP=>by
  apply Gs (W:=W) (p0:=p) (hE:=rfl) (hP:=hP) (kQ:=?k105) ..
  case' k105=>intro n tb s' _ _ H hP' K
  exact⟨s',H,hP',K⟩
end
noncomputable def D8(W:WW)(vE:FE)(aF c1 c2 iL iI iC iG mm ro:Nat):bL:=jN (X:=GC) (Y:=List cw×List df) (Vw W) (fun st y=>cz (fp st iG) y.2 y.1/\y.1≠[]/\y.1.length<=900/\∀x∈y.2,x∈st.fz) (fun st=>⟨ay (ao (f6 (pW W)) (bo (pW W) aF c1 c2) (b8 st iL) (b8 st iI) (b8 st iC)),none,none,(c6 vE),none⟩) (Lj iL iI iG iC) [iL,iI,iG,iC] mm ro (fun st=>r3 W vE aF c1 c2 (b8 st iL) (b8 st iI) (b8 st iC) (b8 st iG) (fp st iG) (fc st iG)) (fun x=>x.fz) (fun st y x=>aw x.ls x.fz y.1)
theorem xX(W:WW)(vE:FE)(aF c1 c2:Nat){iL iI iC iG:Nat}{V:XV}(hk:V.kt=eD (pW W)):bX V (model pw (Vw W)) (D8 W vE aF c1 c2 iL iI iC iG V.mm V.ro):=
 fI hk fun st y h=>⟨y.2,h.2.2.2,uZ W vE aF c1 c2 _ _ _ _ _ _ y.2 y.1 h.1 h.2.1 h.2.2.1⟩
theorem uf{A':Around}{s:Shared}{x y:Addr}{a b:Int}{t u t' u':Tok}{e e':Nat}(hu:A'.units<cLine)(hx:s.heap.get? x=some (a9 [.int a t,.int b u] e))(hy:s.heap.get? y=some (a9 [.int a t',.int b u'] e')):SeqAt.EqAt A' s (.ref x) (.ref y) true:=by
 by_cases q:x=y
 ·subst q
  intro prog w E Q hq
  unfold eqBool
  refine wpAny_holding ?_
  show wpAny _ _ (if(Value.ref x==Value.ref x)=true then _ else _) Q E s
  rw [if_pos (beq_self_eq_true _)]
  exact wpAny_bind (wpAny_rule (wpAny_pure hq))
 ·refine SeqAt.EqAt.of_refs q ?_
  have z:=SeqAt.RcAt.tuples (A:=A') (s:=s) (l:=x) (b:=y) (items:=⟨[.int a t,.int b u]⟩) (items2:=⟨[.int a t',.int b u']⟩) (e:=fun _=>true) ⟨_,hx,rfl,e,rfl⟩ ⟨_,hy,rfl,e',rfl⟩ hu (fun j h1 h2=>?_)
  ·exact z
  ·have h1:j<2:=h1
   have cs:j=0\/j=1:=by lia
   rcases cs with rfl|rfl
   ·have:=SeqAt.EqAt.int_int (A:=A'.in1) (s:=s) a t a t'
    rw [show(a==a)=true from beq_self_eq_true a] at this
    exact this
   ·have:=SeqAt.EqAt.int_int (A:=A'.in1) (s:=s) b u b u'
    rw [show(b==b)=true from beq_self_eq_true b] at this
    exact this
theorem uD(W:WW)(bl:List nV)(hbl:unitsOf bl<9000)(aL aM:Nat)(items items2:Array Value)(ep ep2:Nat)(fz1 fz2:List df)(ps:List cw)(h1:aw items fz1 ps)(h2:aw items2 fz2 ps):
  bW (Vw W) ⟨.builtin "list.__eq__" ⟨[fy aL,fy aM],[]⟩,none,none,bl,none⟩ [(Yk aL items ep),(Yk aM items2 ep2)] (fz1++fz2) (fun _:Unit=>(.ok (.ret (.bool true)),[ab items ep,ab items2 ep2],[])) (fun _=>True):=by
 intro p0 s hP hf
 have hsz:items.size=items2.size:=by rw [h1.size,h2.size]
 refine⟨(),s,?_,hP.rdy,⟨fun b o q _=>q,rfl,rfl,Nat.le_refl _⟩,⟨hP.has.1,hP.has.2.1,trivial⟩,trivial,(fun y hy=>nomatch hy),nodup_nil,trivial⟩
 show Runs _ _ _ ((Yt W).den (.builtin "list.__eq__" ⟨[fy aL,fy aM],[]⟩)) _ _ _ _
 rw [bh PySem.F.entry_list_eq]
 refine bu (SeqAt.list_eqAt (A aL) (A aM) items items2 ep ep2 none none #[] #[] hsz (fun _=>true)) rfl ⟨hP.has.1,hP.has.2.1,fun j q1 q2=>?_,by simp,rfl⟩
 have hj:j<ps.length:=by rw [<-h1.size];exact q1
 refine gQ fun Q zQ=>?_
 obtain⟨a,t,u,e,e1,m1⟩:=h1.some (List.getElem?_eq_getElem hj)
 obtain⟨a',t',u',e',e2,m2⟩:=h2.some (List.getElem?_eq_getElem hj)
 refine zQ ?_
 have e1:items[j]? =some (Yp a):=e1
 have e2:items2[j]? =some (Yp a'):=e2
 rw [Array.getElem?_eq_getElem q1] at e1
 rw [Array.getElem?_eq_getElem q2] at e2
 rw [Option.some.inj e1,Option.some.inj e2]
 exact uf (by show unitsOf bl+1<9900;lia) (hf _ (mem_append_left _ m1)).1 (hf _ (mem_append_right _ m2)).1
noncomputable def D9(W:WW)(bl:List nV)(i j mm ro:Nat):bL:=jN (X:=Unit) (Y:=List cw×List df×List df) (Vw W) (fun st y=>aw (fp st i) y.2.1 y.1/\aw (fp st j) y.2.2 y.1/\∀x∈y.2.1++y.2.2,x∈st.fz) (fun st=>⟨.builtin "list.__eq__" ⟨[DH st i,DH st j],[]⟩,none,none,bl,none⟩) (fun st=>[(tF st i),(tF st j)]) [i,j] mm ro (fun st _=>(.ok (.ret (.bool true)),[KC st i,KC st j],[])) (fun _=>[]) (fun st y x=>True)
theorem xC(W:WW)(bl:List (Code×Pos))(hbl:unitsOf bl<9000){i j:Nat}{V:XV}(hk:V.kt=eD (pW W)):bX V (model pw (Vw W)) (D9 W bl i j V.mm V.ro):=
 fI hk fun st y h=>⟨y.2.1++y.2.2,h.2.2,(uD W bl hbl _ _ _ _ _ _ y.2.1 y.2.2 y.1 h.1 h.2.1).toD⟩
theorem vw{v:Int}{t u:Tok}{l}:av (.builtin "int.__mod__" ⟨[.int v t,.int (Int.ofNat 2) u],[]⟩) l (.int (Int.ofNat (v % 2).toNat)):=by
 refine av.mk PySem.F.entry_int_mod ?_ trivial
 have e:v.fmod (Int.ofNat 2)=Int.ofNat (v % 2).toNat:=by
  rw [Int.fmod_eq_emod_of_nonneg _ (by decide)]
  show v % 2=((v % 2).toNat:Int)
  lia
 rw [<-e];exact PySem.AutoIntG6.int___mod___int_int_1 v t (Int.ofNat 2) u (by decide)
noncomputable def CF(c:Code):Int:=match c with
 |.builtin _ ⟨[.int v _,_],_⟩=>v
 |_=>0
noncomputable def sI:bD:=fun Γ c st=>gf [] (.int (Int.ofNat (CF c % 2).toNat)) Γ c st
theorem rf{V:XV}{pr:Program}{w:World}:bE V (model pr w) sI:=by
 intro h0 d os Γ c st
 exact au h0 d os Γ c st
structure mA(B:Nat)(p q:List Int):Prop where
 first:dI B p
 second:dI B q
 both:dI B (cO p q 0 6)
 bits:∀a∈p,Builtin.Int.intBits a<=64
 fit:∀k,dN 0 (bz p q k 0 4)
 steps:∀(es1 es2:List (Int×Int)),cJ (aZ B 0 p) es1->cJ (aZ B 0 q) es2->cb (es1++es2)/\2<=(es1++es2).length/\(es1++es2).length<=5
 dumas:∀(es1 es2 es3 ds:List (Int×Int)),cJ (aZ B 0 p) es1->cJ (aZ B 0 q) es2->cJ (aZ B 0 (cO p q 0 6)) es3->ds.Perm (es1++es2)->ds.Pairwise aX->ds.foldl bt []=es3
theorem aw.append{a b:Array Value}{fz1 fz2 fz:List df}{l1 l2:List cw}(h1:aw a fz1 l1)(h2:aw b fz2 l2)(s1:∀x∈fz1,x∈fz)(s2:∀x∈fz2,x∈fz):aw (Array.mk (a.toList++b.toList)) fz (l1++l2):=by
 intro i
 have z1:=h1.size
 have z2:=h2.size
 have e1:a.toList.length=l1.length:=by simpa using z1
 have get:(Array.mk (a.toList++b.toList))[i]? =(a.toList++b.toList)[i]?:=by simp
 rw [get]
 by_cases q:i<l1.length
 ·rw [getElem?_append_left q,getElem?_append_left (by lia)]
  have z:=h1 i
  rw [List.getElem?_eq_getElem q] at z⊢
  obtain⟨x,tx,ty,et,e,m⟩:=z
  exact⟨x,tx,ty,et,by rw [<-e];simp,s1 _ m⟩
 ·rw [getElem?_append_right (by lia),getElem?_append_right (by lia),e1]
  have z:=h2 (i-l1.length)
  cases q2:l2[i-l1.length]? with
  |none=>rw [q2] at z;rw [<-z];simp
  |some d=>
   rw [q2] at z
   obtain⟨x,tx,ty,et,e,m⟩:=z
   exact⟨x,tx,ty,et,by rw [<-e];simp,s2 _ m⟩
theorem cr{items:Array Value}{l:List Int}(h:aj items l):cU items=l:=by
 obtain⟨its⟩:=items
 have hs:its.length=l.length:=by have:=h.1;simpa using this
 show its.map rq=l
 apply List.ext_getElem
 ·simpa using hs
 ·intro i h1 h2
  obtain⟨t,e⟩:=h.2 i l[i] (List.getElem?_eq_getElem h2)
  have h3:i<its.length:=by rw [hs];exact h2
  have e:its[i]? =some (.int l[i] t):=by rw [<-e];simp
  rw [List.getElem?_eq_getElem h3] at e
  rw [getElem_map,Option.some.inj e]
  rfl
theorem lW{a b:Array Value}{l m:List Int}(h1:aj a l)(h2:aj b m):aj (Array.mk (a.toList++b.toList)) (l++m):=by
 have z1:a.toList.length=l.length:=by have:=h1.1;simpa using this
 refine⟨by have:=h2.1;simp [z1];simpa using this,fun i v e=>?_⟩
 have get:(Array.mk (a.toList++b.toList))[i]? =(a.toList++b.toList)[i]?:=by simp
 rw [get]
 by_cases q:i<l.length
 ·rw [getElem?_append_left q] at e
  rw [getElem?_append_left (by lia)]
  obtain⟨t,e'⟩:=h1.2 i v e
  exact⟨t,by rw [<-e'];simp⟩
 ·rw [getElem?_append_right (by lia)] at e
  rw [getElem?_append_right (by lia),z1]
  obtain⟨t,e'⟩:=h2.2 _ v e
  exact⟨t,by rw [<-e'];simp⟩
theorem oj{its:List Value}{ns:List Int}(h:PyProof.Rows.IntsAre its ns):aj ⟨its⟩ ns:=by
 induction h with
 |nil=>exact⟨rfl,fun i v e=>by simp at e⟩
 |cons n t _ ih=>
  refine⟨by have:=ih.1;simp at this⊢;exact this,fun i v e=>?_⟩
  cases i with
  |zero=>exact⟨t,by simp at e;subst e;rfl⟩
  |succ i=>
   obtain⟨t',e'⟩:=ih.2 i v (by simpa using e)
   exact⟨t',by simpa using e'⟩
theorem wd{its:List Value}{l:List Int}(h:aj ⟨its⟩ l)(k:Nat):aj ⟨its.take k⟩ (l.take k):=by
 have hs:its.length=l.length:=by have:=h.1;simpa using this
 refine⟨by simp [hs],fun i v e=>?_⟩
 rw [List.getElem?_take] at e
 split at e
 ·rename_i q
  obtain⟨t,e'⟩:=h.2 i v e
  refine⟨t,?_⟩
  have e':its[i]? =some (.int v t):=by rw [<-e'];simp
  show(Array.mk (its.take k))[i]? =_
  rw [getElem?_toArray,List.getElem?_take,if_pos q];exact e'
 ·cases e
theorem uK{its:List Value}{l:List Int}(h:aj ⟨its⟩ l)(k:Nat):aj ⟨its.drop k⟩ (l.drop k):=by
 have hs:its.length=l.length:=by have:=h.1;simpa using this
 refine⟨by simp [hs],fun i v e=>?_⟩
 rw [getElem?_drop] at e
 obtain⟨t,e'⟩:=h.2 _ v e
 refine⟨t,?_⟩
 have e':its[k+i]? =some (.int v t):=by rw [<-e'];simp
 show(Array.mk (its.drop k))[i]? =_
 rw [getElem?_toArray,getElem?_drop];exact e'
theorem zF{itv:Array Value}{ns:List Int}{n:Nat}{t u:Tok}{g:List Value}{gl:List Int}(h:aj itv ns)(hn:n=itv.size)(hg:aj ⟨g⟩ gl)(h7:gl.length=7):
  ∃xs,aj (Array.mk ((Array.mk (cutL itv Er (bS (Value.int (Int.ofNat 7) t)))).toList++(Array.mk (cutL (Array.mk g) (bS (Value.int (Yh n) u)) Er)).toList)) xs/\List.length xs=7:=by
 refine⟨ns.take 7++gl.drop n,lW ?_ ?_,?_⟩
 ·have e:cutL itv Er (bS (Value.int (Int.ofNat 7) t))=itv.toList.take 7:=by
   show(slicePick itv none (some ((7:Nat):Int)) none).toList=_
   rw [slicePick_upto']
  rw [e]
  exact wd (its:=itv.toList) (by exact h) 7
 ·have e:cutL (Array.mk g) (bS (Value.int (Yh n) u)) Er=g.drop n:=by
   show(slicePick (Array.mk g) (some ((n:Nat):Int)) none none).toList=_
   rw [slicePick_from']
  rw [e]
  exact uK hg n
 ·have:=h.1
  simp only [List.length_append,List.length_take,List.length_drop,h7]
  omega
theorem pt{itv:Array Value}{n:Nat}{t u:Tok}{g:List Value}(h63:itv.size<=63)(hg:g.length<=7):(Array.mk (cutL itv (bS Value.none) (bS (Value.int (Int.ofNat 7) t)))).size+(Array.mk (cutL (Array.mk g) (bS (Value.int (Int.ofNat n) u)) (bS Value.none))).size<=1000:=by
 have e:cutL itv (bS Value.none) (bS (Value.int (Int.ofNat 7) t))=itv.toList.take 7:=by
  show(slicePick itv none (some ((7:Nat):Int)) none).toList=_
  rw [slicePick_upto']
 have e2:cutL (Array.mk g) (bS (Value.int (Int.ofNat n) u)) (bS Value.none)=g.drop n:=by
  show(slicePick (Array.mk g) (some ((n:Nat):Int)) none none).toList=_
  rw [slicePick_from']
 rw [e,e2]
 simp
 omega
theorem gx{a b c:Int}{t u v:Tok}:aj ⟨[.int a t,.int b u,.int c v]⟩ [a,b,c]:=
 ⟨rfl,fun i x e=>by
  rcases i with _|_|_|i<;>simp at e<;>subst e
  ·exact⟨t,rfl⟩
  ·exact⟨u,rfl⟩
  ·exact⟨v,rfl⟩⟩
theorem zD{a b c d:Int}{t u v w:Tok}:aj ⟨[.int a t,.int b u,.int c v,.int d w]⟩ [a,b,c,d]:=
 lW (a:=⟨[.int a t]⟩) (b:=⟨[.int b u,.int c v,.int d w]⟩) (l:=[a]) (m:=[b,c,d]) ⟨rfl,fun i x e=>by
  rcases i with _|i<;>simp at e<;>subst e
  exact⟨t,rfl⟩⟩ gx
theorem zJ{a b c d e f g:Int}{t1 t2 t3 t4 t5 t6 t7:Tok}:aj ⟨[.int a t1,.int b t2,.int c t3,.int d t4,.int e t5,.int f t6,.int g t7]⟩ [a,b,c,d,e,f,g]:=
 lW (a:=⟨[.int a t1,.int b t2,.int c t3,.int d t4]⟩) (b:=⟨[.int e t5,.int f t6,.int g t7]⟩) (l:=[a,b,c,d]) (m:=[e,f,g]) zD gx
theorem Bc{its:Array Value}{ds:List Nat}(h:aj its (ds.map Int.ofNat)):aY its ds:=
 ⟨by have:=h.1;simpa using this,fun i j e=>h.2 i (Int.ofNat j) (by rw [getElem?_map,e];rfl)⟩
theorem IM{a b c d e f g:Nat}{t1 t2 t3 t4 t5 t6 t7:Tok}:aY ⟨[.int (Int.ofNat a) t1,.int (Int.ofNat b) t2,.int (Int.ofNat c) t3,.int (Int.ofNat d) t4,.int (Int.ofNat e) t5,.int (Int.ofNat f) t6,.int (Int.ofNat g) t7]⟩ [a,b,c,d,e,f,g]:=
 Bc zJ
theorem OO{x:j8}(h:cond154 x):dN 0 [Int.ofNat x.d0,Int.ofNat x.d1,Int.ofNat x.d2,Int.ofNat x.d3,Int.ofNat x.d4,Int.ofNat x.d5,Int.ofNat x.d6]:=by
 have g:∀(l:List Nat) (a:Nat),(∀d∈l,d<1000000)->a+l.length*1000000<100000000->dN (Yh a) (l.map Int.ofNat):=by
  intro l
  induction l with
  |nil=>intro _ _ _;trivial
  |cons d l ih=>
   intro a hl hs
   have h1:=hl d (mem_cons_self ..)
   rw [length_cons] at hs
   refine⟨?_,?_,ih (a+d) (fun x hx=>hl x (mem_cons_of_mem _ hx)) (by clear ih hl;lia)⟩<;>(unfold Oo;clear ih hl;simp only [Int.ofNat_eq_natCast];lia)
 refine gQ fun Q zQ=>?_
 obtain⟨h0,h1,h2,h3,h4,h5,h6⟩:=h
 refine zQ ?_
 exact g [_,_,_,_,_,_,_] 0 (List.forall_mem_cons.mpr ⟨h0,List.forall_mem_cons.mpr ⟨h1,List.forall_mem_cons.mpr ⟨h2,List.forall_mem_cons.mpr ⟨h3,List.forall_mem_cons.mpr ⟨h4,List.forall_mem_cons.mpr ⟨h5,List.forall_mem_cons.mpr ⟨h6,fun _ h=>absurd h (List.not_mem_nil)⟩⟩⟩⟩⟩⟩⟩) (by show 0+7*1000000<100000000;exact of_decide_eq_true rfl)
theorem cR{v:Int}:Int.toNat (2+Int.ofNat (v % 2).toNat)=2\/Int.toNat (2+Int.ofNat (v % 2).toNat)=3:=by
 have:Int.ofNat (v % 2).toNat=v % 2:=toNat_of_nonneg (by lia)
 rw [this];lia
theorem vp{its:Array Value}{l:List Int}(h:aj its l):aj its (cU its):=by rw [cr h];exact h
theorem bZ(hlaw:∀(B:Nat) (ds:List Nat),(B=2\/B=3)->ds.length=7->mA B ((eY B 0 ds).take 4) ((eY B 0 ds).drop 4)){B:Nat}{ds:List Nat}{x:pF}(hB:B=2\/B=3)(h7:ds.length=7)(h:oE B ds x):mA B [x.a0,x.a1,x.a2,x.a3] [x.a4,x.a5,x.a6]:=by
 have:=hlaw B ds hB h7
 rw [<-h] at this;exact this
theorem mQ:∀(ds acc:List (Int×Int)),(ds.foldl bt acc).length<=acc.length+ds.length
 |[],acc=>Nat.le_refl _
 |d::ds,acc=>by
  have h:=mQ ds (bt acc d)
  have h1:(bt acc d).length<=acc.length+1:=by
   unfold bt
   cases q:acc.getLast? with
   |none=>simp
   |some c=>
    simp only
    split
    ·simp
    ·simp
  rw [foldl_cons,length_cons];lia
structure cX(B:Nat)(p q r:List Int)(x:nG):Prop where
 L:mA B p q
 hr:r=cO p q 0 6
 ok:ot B p q r x
theorem cX.st{B p q r x}(H:cX B p q r x):cb (x.es1++x.es2)/\2<=(x.es1++x.es2).length/\(x.es1++x.es2).length<=5:=H.L.steps _ _ H.ok.1.2 H.ok.2.1.2
theorem cX.add{B p q r x}(H:cX B p q r x):x.eds1.size+x.eds2.size<=1000:=by
 have h1:=H.ok.1.1.size
 have h2:=H.ok.2.1.1.size
 have:=H.st.2.2
 rw [List.length_append] at this
 lia
theorem cX.pts{B p q r x}(H:cX B p q r x){fz:List (Nat×Obj)}(h:∀y∈x.fz1++(x.fz2++x.fz3),y∈fz):aw (Array.mk (x.eds1.toList++x.eds2.toList)) fz (x.es1++x.es2)/\ranged (x.es1++x.es2)/\x.es1++x.es2≠[]/\(x.es1++x.es2).length<=900:=
 ⟨aw.append H.ok.1.1 H.ok.2.1.1 (fun y hy=>h y (mem_append_left _ hy)) (fun y hy=>h y (mem_append_right _ (mem_append_left _ hy))),H.st.1.ranged,(fun e=>by have:=H.st.2.1;rw [e] at this;simp at this),Nat.le_trans H.st.2.2 (by decide)⟩
theorem cX.merged{B p q r x}(H:cX B p q r x){ds:List (Int×Int)}(h:ds.Perm (x.es1++x.es2))(h2:ds.Pairwise aX):ds.foldl bt []=x.es3:=
 H.L.dumas _ _ _ ds H.ok.1.2 H.ok.2.1.2 (by rw [<-H.hr];exact H.ok.2.2.2) h h2
theorem cX.es3{B p q r x}(H:cX B p q r x):x.es3≠[]:=by
 refine gQ fun Q zQ=>?_
 obtain⟨_,_,_,_,_,_,_,_,h⟩:=H.L.both.below x.es3 (by rw [<-H.hr];exact H.ok.2.2.2)
 refine zQ ?_
 exact h
theorem cX.perm{B p q r x}(H:cX B p q r x){ds:List (Int×Int)}(h:ds.Perm (x.es1++x.es2)):cb ds/\ds≠[]/\ds.length<=900:=
 ⟨fun d hd=>H.st.1 d (h.mem_iff.mp hd),(fun e=>by have:=H.st.2.1;rw [<-h.length_eq,e] at this;simp at this),by have:=H.st.2.2;rw [h.length_eq];lia⟩
theorem cX.mlen{B p q r x}(H:cX B p q r x){ds:List (Int×Int)}(h:ds.Perm (x.es1++x.es2))(h2:ds.Pairwise aX):ds.foldl bt []≠[]/\(ds.foldl bt []).length<=900:=by
 refine⟨by rw [H.merged h h2];exact H.es3,?_⟩
 have:=mQ ds []
 have:=H.st.2.2
 rw [<-h.length_eq] at this
 simp at*
 lia
abbrev Qj(a:j8):=mP (Array.mk [Value.int (Int.ofNat a.d0) a.t0,Value.int (Int.ofNat a.d1) a.t1,Value.int (Int.ofNat a.d2) a.t2,Value.int (Int.ofNat a.d3) a.t3,Value.int (Int.ofNat a.d4) a.t4,Value.int (Int.ofNat a.d5) a.t5,Value.int (Int.ofNat a.d6) a.t6])
abbrev Y0(a:j8)(b:cA)(c:Nat):=Code.builtin (toString SL.s7066276694103001551x3++toString "."++toString (Fast.tw16320311567567194475 (Fast.tw9488563226318888690 SL.s2823223500020032725x3))) (Args.mk ([Value.int (Qj a) (cA.mk b.t).t]++[Value.int 2 (TK c)]) [])
noncomputable abbrev Yw(a:j8):Array Value:=⟨[(.int (Int.ofNat a.d0) a.t0),(.int (Int.ofNat a.d1) a.t1),(.int (Int.ofNat a.d2) a.t2),(.int (Int.ofNat a.d3) a.t3),(.int (Int.ofNat a.d4) a.t4),(.int (Int.ofNat a.d5) a.t5),(.int (Int.ofNat a.d6) a.t6)]⟩
noncomputable abbrev uk(a:pF):Array Value:=⟨[(.int (a.a0) a.t0),(.int (a.a1) a.t1),(.int (a.a2) a.t2),(.int (a.a3) a.t3)]⟩
noncomputable abbrev wY(a:pF):Array Value:=⟨[(.int (a.a4) a.t4),(.int (a.a5) a.t5),(.int (a.a6) a.t6)]⟩
abbrev Qm a:=Array.mk [Value.int (Int.ofNat 322) (Y8 a 1),Value.int (Int.ofNat 140) (Y8 a 2),Value.int (Int.ofNat 497) (Y8 a 3),Value.int (Int.ofNat 70) (Y8 a 4),Value.int (Int.ofNat 201) (Y8 a 5),Value.int (Int.ofNat 261) (Y8 a 6),Value.int (Int.ofNat 384) (Y8 a 7)]
abbrev DN a b c:=Int.ofNat (2+Int.ofNat (CF (Y0 a b c) % 2).toNat).toNat
noncomputable abbrev KP(a:pF):=(Array.mk [Value.int a.a0 a.t0,Value.int a.a1 a.t1,Value.int a.a2 a.t2,Value.int a.a3 a.t3,Value.int a.a4 a.t4,Value.int a.a5 a.t5,Value.int a.a6 a.t6])
abbrev Qa(a b c d:Nat)(e:nG)(f:Nat)(g:sK)(h i:Nat):=[140,147,244,(Y2 a 0),(Y2 a 1),(Y2 a 2),(Y2 a 3),(Y2 a 4),(Y2 a 5),(Y2 a 6),(Y2 a 7),(Y2 a 8),(Y2 a 9),(Y2 a 10),(Y2 a 11),(Y2 b 0),(Y2 b 1),(Y2 b 2),(Y2 c 0),(Y2 c 1),(Y2 c 2),(Y2 c 3),(Y2 c 4),(Y2 c 5),(Y2 c 6),(Y2 c 7),(Y2 c 8),(Y2 c 9),(Y2 c 10),(Y2 c 11),(Y2 c 12),(Y2 d 0),(Y2 d 1),(Y2 d 2),(A e.a1),(A e.a2),(A e.a3),(Y2 f 0),(Y2 f 1),(Y2 f 2),(Y2 f 3),(Y2 f 4),(A g.a),(Y2 h 0),(Y2 i 0),(Y2 i 1),(Y2 i 2)]
abbrev Px(a b c d:Nat)(e:nG):=[140,147,244,(Y2 a 0),(Y2 a 1),(Y2 a 2),(Y2 a 3),(Y2 a 4),(Y2 a 5),(Y2 a 6),(Y2 a 7),(Y2 a 8),(Y2 a 9),(Y2 a 10),(Y2 a 11),(Y2 b 0),(Y2 b 1),(Y2 b 2),(Y2 c 0),(Y2 c 1),(Y2 c 2),(Y2 c 3),(Y2 c 4),(Y2 c 5),(Y2 c 6),(Y2 c 7),(Y2 c 8),(Y2 c 9),(Y2 c 10),(Y2 c 11),(Y2 c 12),(Y2 d 0),(Y2 d 1),(Y2 d 2),(A e.a1),(A e.a2),(A e.a3)]
abbrev Mk a b:=[140,147,244,(Y2 a 0),(Y2 a 1),(Y2 a 2),(Y2 a 3),(Y2 a 4),(Y2 a 5),(Y2 a 6),(Y2 a 7),(Y2 a 8),(Y2 a 9),(Y2 a 10),(Y2 a 11),(Y2 b 0),(Y2 b 1),(Y2 b 2)]
abbrev KW(a:Nat)(b:Array Value):=cutL (Qm a) (bS (Value.int (Int.ofNat b.size) (Y8 a 11))) (bS Value.none)
noncomputable abbrev Ip(a:nG):=[]++(a.fz1++(a.fz2++a.fz3))
abbrev Ma a:=[140,147,244,(Y2 a 0),(Y2 a 1),(Y2 a 2),(Y2 a 3),(Y2 a 4),(Y2 a 5),(Y2 a 6),(Y2 a 7),(Y2 a 8),(Y2 a 9),(Y2 a 10),(Y2 a 11)]
abbrev KJ:=Hy/\((Rf (.type "slice":Value))/\(Rf (.none:Value)))
abbrev JO a b c:=Int.toNat (2+Int.ofNat (CF (Y0 a b c) % 2).toNat)
abbrev Lq a b:=cutL a Er (bS (Value.int (Int.ofNat 7) (Y8 b 9)))
noncomputable abbrev Ho(a:nG)(b:BR):=((Ip a)++b.fz)++([]:ae)
noncomputable abbrev ik a b:=Nat.add a b
theorem Oe(W:WW)(p0 p6:Pos)(itv:Array Value)(s:Shared)(ns:List Int)(hv:aj itv ns)(h63:itv.size<=63)(hlaw:∀(B:Nat) (ds:List Nat),(B=2\/B=3)->ds.length=7->mA B ((eY B 0 ds).take 4) ((eY B 0 ds).drop 4))(E:WW->ae)(hE:E=fun W=>[(140,bB []),(147,bB []),(244,ab itv 0)])(hP:az (pW W) (E W) s){Q:Prop}(kQ:∀(n tb:Nat) (s':Shared) (r1 r2:Addr),Hn s n->Ht s tb->Runs (Yt W) (⟨.call (.ref 243) ⟨[.ref 244],[]⟩,none,none,[(Y7,p6)],none⟩) p0 ((Yt W).den (.call (.ref 243) ⟨[.ref 244],[]⟩)) [] s HC s'->cL (pW W) s'->cG ([(140,bB (cC r1)),(147,bB (cE r2)),(244,ab itv 0)]) s'.heap->af (E W) s s'->Q):Q:=by
 obtain⟨n,tb,gb,hn,ht,hg⟩:=hP.nt
 refine bT hE hP hn ht hg (fun E W Z hs=>ch (ec (Vw W) 3 [(fL 2 7),(om 2),(fL 6 9),(kB 8 10),sI,(fL 15 18),(fL 15 20),(kB 34 35)] [] [Ex W ⟨⟨154,12,154,67⟩,p6,(bo (pW W) (cQ n) (dD n) (bJ n 2)),(be (dG (pW W)))⟩ (cQ n) (dD n) (bJ n 2) 14 12 13 11 3 3,oG 13 3 3,Ep W ⟨⟨157,13,157,21⟩,p6,(bo (pW W) (cQ n) (dD n) (bJ n 2)),(be (dG (pW W)))⟩ (cQ n) (dD n) (bJ n 2) 3 17 13 15 3 3,Ej W ⟨⟨164,11,164,98⟩,p6,(bo (pW W) (cQ n) (dD n) (bJ n 2)),(be (dG (pW W)))⟩ (cQ n) (dD n) (bJ n 2) 29 27 28 4 5 30 19 21 3 3,Ew W ⟨⟨166,16,166,37⟩,p6,(bo (pW W) (cQ n) (dD n) (bJ n 2)),(be (dG (pW W)))⟩ (cQ n) (dD n) (bJ n 2) 3 33 32 19 21 28 31 3 3,DX W ⟨⟨174,82,174,101⟩,p6,(bo (pW W) (cQ n) (dD n) (bJ n 2)),(be (dG (pW W)))⟩ (cQ n) (dD n) (bJ n 2) 41 39 40 38 3 3,zr W [(.func (be (dG (pW W))) (bo (pW W) (ik n 0) (ik n 1) (ik n 2)),⟨174,27,174,103⟩),(Y7,p6)] 40 3 3,xb W ⟨⟨174,27,174,103⟩,p6,(bo (pW W) (cQ n) (dD n) (bJ n 2)),(be (dG (pW W)))⟩ (cQ n) (dD n) (bJ n 2) 3 43 42 37 3 3,D8 W ⟨⟨179,48,179,54⟩,p6,(bo (pW W) (cQ n) (dD n) (bJ n 2)),(be (dG (pW W)))⟩ (cQ n) (dD n) (bJ n 2) 46 44 45 37 3 3,D9 W [(.func (be (dG (pW W))) (bo (pW W) (ik n 0) (ik n 1) (ik n 2)),⟨179,11,179,67⟩),(Y7,p6)] 45 36 3 3] []) 529 (⟨.call (.ref 243) ⟨[.ref 244],[]⟩,none,none,[(Y7,p6)],none⟩) (p0) (a8 (.call (.ref 243) ⟨[.ref 244],[]⟩)) [] hs (cN E n tb gb) (lY Z)) (fun E W Z hs=>ad (lE E) (A n) gb (sl hs 0 12) (((Rf (.builtin "list.__getitem__" ⟨[(.ref 244),(dV n 4)],[]⟩:Code))/\(KJ/\(Yc/\((itv.size.le 1000)/\(Rf (Array.mk (Lq itv tb):Array Value))))))/\ad (lE E) (A n) gb (sl hs 13 4) (((Rf (.builtin "len" ⟨[(.ref 244)],[]⟩:Code))/\(Hy/\(itv.size.le 1000)))/\ad (lE E) (A n) gb (sl hs 18 4) (((Rf (.builtin "list.__getitem__" ⟨[(dV n 3),(dV n 6)],[]⟩:Code))/\(KJ/\(Yc/\(((Qm tb).size.le 1000)/\(Rf (Array.mk (KW tb itv):Array Value))))))/\ad (lE E) (A n) gb (sl hs 23 4) (((Rf (.builtin "list.__add__" ⟨[(dV n 5),(dV n 7)],[]⟩:Code))/\(Yi/\(Yi/\(((Array.mk (Lq itv tb)).size+(Array.mk (KW tb itv)).size).le 1000))))/\ad (lE E) (A n) gb (sl hs 28 4) ((∃xs,aj (Array.mk ((Array.mk (Lq itv tb)).toList++(Array.mk (KW tb itv)).toList)) xs/\List.length xs=7)/\(Rf (⟨ay (ao (fN (pW W)) (bo (pW W) (cQ n) (dD n) (bJ n 2)) (bJ n 11) (bJ n 9) (bJ n 10)),none,none,[(.func (be (dG (pW W))) (bo (pW W) (ik n 0) (ik n 1) (ik n 2)),⟨154,12,154,67⟩),(Y7,p6)],none⟩:Ctx))/\(Rf (ax ([(db n 11,eG),(db n 9,aK "list_iterator" [.ref (qP n 8),Ym]),(db n 8,ab (Array.mk ((Array.mk (Lq itv tb)).toList++(Array.mk (KW tb itv)).toList)) 0),(mD n 10)])))/\Yc/\Yc/\∀(x0:j8) (n0 tb0 gb0:Nat),cond154 x0->Yc/\ad (Ma n) (A n0) gb0 (sl hs 33 8) (((P6 n 10)/\Yc/\(Rf (ab (Yw x0) x0.ep:Obj))/\(∃xs,aj (Yw x0) xs/\dN 0 xs))/\(Rf (ax ([((Y2 n 10),(ab (Yw x0) x0.ep:Obj))])))/\Yc/\Yc/\∀(x1:cA) (n1 tb1 gb1:Nat),True->Yc/\ad (Ma n) (A n1) gb1 (sl hs 41 0) ((av (.builtin "int.__mod__" ⟨[(.int (Qj x0) x1.t),(.int (Int.ofNat 2) (TK tb1))],[]⟩) [] (Made.int (Int.ofNat (CF (Y0 x0 x1 tb1) % 2).toNat))/\Yc)/\ad (Ma n) (A n1) gb1 (sl hs 43 17) ((aY (Yw x0) (mZ (Yw x0))/\List.length (mZ (Yw x0))=7/\((JO x0 x1 tb1)=2\/(JO x0 x1 tb1)=3))/\(Rf (⟨fb (pW W) (cQ n) (dD n) (bJ n 2) (bJ n1 2),none,none,[(.func (be (dG (pW W))) (bo (pW W) (ik n 0) (ik n 1) (ik n 2)),⟨157,13,157,21⟩),(Y7,p6)],none⟩:Ctx))/\(Rf (ax (lj (pW W) (cQ n) (bJ n1 2) (bJ n 10) (cQ n1) (JO x0 x1 tb1) (TK tb) (Y8 tb 8) (TK tb0) (Y8 tb1 3) (Y8 tb1 4) (Y8 tb1 2) (.ref 244) (dV n 3) (Yw x0) x0.ep [] 5 0 7 ⟨[]⟩ 0)))/\Yc/\Yc/\∀(x2:pF) (n2 tb2 gb2:Nat),oE (JO x0 x1 tb1) (mZ (Yw x0)) x2->Yc/\ad (Mk n n1) (A n2) gb2 (sl hs 61 5) (((Rf (.builtin "list.__getitem__" ⟨[(dV n1 0),(dV n2 0)],[]⟩:Code))/\(KJ/\(Yc/\(((KP x2).size.le 1000)/\(Rf (Array.mk (cutL (KP x2) Er (bS (Value.int (Int.ofNat 4) (TK tb2)))):Array Value))))))/\ad (Mk n n1) (A n2) gb2 (sl hs 67 5) (((Rf (.builtin "list.__getitem__" ⟨[(dV n1 0),(dV n2 2)],[]⟩:Code))/\(KJ/\(Yc/\(((KP x2).size.le 1000)/\(Rf (Array.mk (cutL (KP x2) (bS (Value.int (Int.ofNat 4) (Y8 tb2 1))) Er):Array Value))))))/\ad (Mk n n1) (A n2) gb2 (sl hs 73 44) ((aj (uk x2) (cU (uk x2))/\aj (wY x2) (cU (wY x2))/\List.length (cU (uk x2))=4/\List.length (cU (wY x2))=3/\(∀a∈(cU (uk x2)),Builtin.Int.intBits a<=64)/\(∀k,dN 0 (bz (cU (uk x2)) (cU (wY x2)) k 0 4)))/\(Rf (⟨ay (gr (pW W) (cQ n) (dD n) (bJ n 2) (bJ n2 12) (bJ n2 11) (bJ n2 9) (bJ n2 10)),none,none,[(.func (be (dG (pW W))) (bo (pW W) (ik n 0) (ik n 1) (ik n 2)),⟨164,11,164,98⟩),(Y7,p6)],none⟩:Ctx))/\(Rf (ax ([(db n2 11,eG),(db n2 9,EF 6),(mD n2 10),(db n 1,⟨Yu,none,.cell (some (.ref (A (dD n2)))),⟨[]⟩⟩),(db n 2,⟨Yu,none,.cell (some (.ref (qP n2 3))),⟨[]⟩⟩),(db n2 12,⟨Yu,none,.cell none,⟨[]⟩⟩),(db n2 1,ab (uk x2) 0),(db n2 3,ab (wY x2) 0)])))/\Yc/\Yc/\∀(x3:F9) (n3 tb3 gb3:Nat),aj x3.ls (cO (cU (uk x2)) (cU (wY x2)) 0 6)->Yc/\ad [140,147,244,(Y2 n 0),(Y2 n 1),(Y2 n 2),(Y2 n 3),(Y2 n 4),(Y2 n 5),(Y2 n 6),(Y2 n 7),(Y2 n 8),(Y2 n 9),(Y2 n 10),(Y2 n 11),(Y2 n1 0),(Y2 n1 1),(Y2 n1 2),(Y2 n2 0),(Y2 n2 1),(Y2 n2 2),(Y2 n2 3),(Y2 n2 4),(Y2 n2 5),(Y2 n2 6),(Y2 n2 7),(Y2 n2 8),(Y2 n2 9),(Y2 n2 10),(Y2 n2 11),(Y2 n2 12)] (A n3) gb3 (sl hs 118 11) ((aj (uk x2) (cU (uk x2))/\aj (wY x2) (cU (wY x2))/\aj (x3.ls) (cU (x3.ls))/\List.length (cU (uk x2))=4/\List.length (cU (wY x2))=3/\List.length (cU (x3.ls))=6/\((Int.toNat (DN x0 x1 tb1))=2\/(Int.toNat (DN x0 x1 tb1))=3)/\dI (Int.toNat (DN x0 x1 tb1)) (cU (uk x2))/\dI (Int.toNat (DN x0 x1 tb1)) (cU (wY x2))/\dI (Int.toNat (DN x0 x1 tb1)) (cU (x3.ls)))/\(Rf (⟨kj (pW W) (cQ n) (dD n) (bJ n 2) (bJ n3 2),none,none,[(.func (be (dG (pW W))) (bo (pW W) (ik n 0) (ik n 1) (ik n 2)),⟨166,16,166,37⟩),(Y7,p6)],none⟩:Ctx))/\(Rf (ax ([(140,bB []),(147,bB []),(db n 0,ah "frame" ([aa (pW W) Yy (TK tb) (.ref 244),aa (pW W) ii (Y8 tb 8) (dV n 3),aa (pW W) ie (TK tb0) (dV n 10),aa (pW W) eH (Y8 tb1 3) (.int (Int.ofNat (Int.toNat (DN x0 x1 tb1))) (Y8 tb1 2)),aa (pW W) Yr (Y8 tb1 4) (dV n1 0),aa (pW W) [105] x2.y6 (x2.x6),aa (pW W) [113] x2.y7 (x2.x7),aa (pW W) qc (TK tb3) (dV n2 10),aa (pW W) kI (Y8 tb3 1) (.ref (A (cQ n3)))]++[]) 9),(db n3 2,aK "list_iterator" [.ref (A (dD n3)),Ym]),(db n3 1,ab ⟨[.ref (A (dD n2)),.ref (qP n2 3),.ref (qP n2 10)]⟩ 0),(db n2 1,ab (uk x2) 0),(db n2 3,ab (wY x2) 0),(db n2 10,ab (x3.ls) x3.ep),(mD n3 0)])))/\Yc/\Yc/\∀(x4:nG) (n4 tb4 gb4:Nat),(ot (Int.toNat (DN x0 x1 tb1)) (cU (uk x2)) (cU (wY x2)) (cU (x3.ls)) x4)/\eR [] (x4.fz1++(x4.fz2++x4.fz3))->Yc/\ad (Px n n1 n2 n3 x4) (A n4) gb4 (sl hs 130 20) (((Rf (.builtin "list.__add__" ⟨[(.ref (A x4.a1)),(.ref (A x4.a2))],[]⟩:Code))/\(Yi/\(Yi/\((x4.eds1.size+x4.eds2.size).le 1000))))/\ad (Px n n1 n2 n3 x4) (A n4) gb4 (sl hs 151 4) (∃ds5:List cw,(aw (Array.mk (x4.eds1.toList++x4.eds2.toList)) (Ip x4) ds5/\ranged ds5/\ds5≠[]/\List.length ds5<=900)/\(Rf (⟨ay (ao (ez (pW W)) (bo (pW W) (cQ n) (dD n) (bJ n 2)) (bJ n4 4) (bJ n4 2) (bJ n4 3)),none,none,[(.func (be (dG (pW W))) (bo (pW W) (ik n 0) (ik n 1) (ik n 2)),⟨174,82,174,101⟩),(Y7,p6)],none⟩:Ctx))/\(Rf (ax ([(db n4 4,eG),(db n4 2,aK "list_iterator" [.ref (A (dD n4)),Ym]),(db n4 1,ab (Array.mk (x4.eds1.toList++x4.eds2.toList)) 0),(mD n4 3)])))/\Yc/\Yc/\∀(x5:BR) (n5 tb5 gb5:Nat),(bq x5.ls x5.fz ds5/\∃hi,dl x5.fz hi)/\eR (Ip x4) x5.fz->Yc/\ad [140,147,244,(Y2 n 0),(Y2 n 1),(Y2 n 2),(Y2 n 3),(Y2 n 4),(Y2 n 5),(Y2 n 6),(Y2 n 7),(Y2 n 8),(Y2 n 9),(Y2 n 10),(Y2 n 11),(Y2 n1 0),(Y2 n1 1),(Y2 n1 2),(Y2 n2 0),(Y2 n2 1),(Y2 n2 2),(Y2 n2 3),(Y2 n2 4),(Y2 n2 5),(Y2 n2 6),(Y2 n2 7),(Y2 n2 8),(Y2 n2 9),(Y2 n2 10),(Y2 n2 11),(Y2 n2 12),(Y2 n3 0),(Y2 n3 1),(Y2 n3 2),(A x4.a1),(A x4.a2),(A x4.a3),(Y2 n4 0),(Y2 n4 1),(Y2 n4 2),(Y2 n4 3),(Y2 n4 4)] (A n5) gb5 (sl hs 156 3) (∃y6:List cw×List df,(bq (x5.ls) y6.2 y6.1/\(∃hi,dl y6.2 hi)/\cb y6.1/\2<=List.length y6.1/\List.length y6.1<=5/\∀x∈y6.2,x∈((Ip x4)++x5.fz))/\(Rf (⟨.builtin "sorted" ⟨[.ref (qP n4 3)],[]⟩,none,none,[(.func (be (dG (pW W))) (bo (pW W) (ik n 0) (ik n 1) (ik n 2)),⟨174,27,174,103⟩),(Y7,p6)],none⟩:Ctx))/\(Rf (ax ([(db n4 3,ab (x5.ls) x5.ep)])))/\Yc/\Yc/\∀(x6:sK) (n6 tb6 gb6:Nat),(bq x6.ls y6.2 x6.ds/\List.Perm x6.ds y6.1/\List.Pairwise aX x6.ds)/\eR ((Ip x4)++x5.fz) ([]:ae)->Yc/\ad [140,147,244,(Y2 n 0),(Y2 n 1),(Y2 n 2),(Y2 n 3),(Y2 n 4),(Y2 n 5),(Y2 n 6),(Y2 n 7),(Y2 n 8),(Y2 n 9),(Y2 n 10),(Y2 n 11),(Y2 n1 0),(Y2 n1 1),(Y2 n1 2),(Y2 n2 0),(Y2 n2 1),(Y2 n2 2),(Y2 n2 3),(Y2 n2 4),(Y2 n2 5),(Y2 n2 6),(Y2 n2 7),(Y2 n2 8),(Y2 n2 9),(Y2 n2 10),(Y2 n2 11),(Y2 n2 12),(Y2 n3 0),(Y2 n3 1),(Y2 n3 2),(A x4.a1),(A x4.a2),(A x4.a3),(Y2 n4 0),(Y2 n4 1),(Y2 n4 2),(Y2 n4 3),(Y2 n4 4),(A x6.a)] (A n6) gb6 (sl hs 160 4) (∃y7:List cw×List df,(bq (x6.ls) y7.2 y7.1/\cb y7.1/\y7.1≠[]/\List.length y7.1<=900/\∀x∈y7.2,x∈(Ho x4 x5))/\(Rf (⟨fx (pW W) (cQ n) (dD n) (bJ n 2) (cQ n6),none,none,[(.func (be (dG (pW W))) (bo (pW W) (ik n 0) (ik n 1) (ik n 2)),⟨174,27,174,103⟩),(Y7,p6)],none⟩:Ctx))/\(Rf (ax (yy (pW W) (cQ n) (cQ n6) x6.a (cQ n4) (TK tb) (Y8 tb 8) (TK tb0) (Y8 tb1 3) (Y8 tb1 4) x2.y6 x2.y7 (TK tb3) (Y8 tb3 1) x4.y10 x4.y11 (TK tb4) (.ref 244) (dV n 3) (dV n 10) (.int (Int.ofNat ((DN x0 x1 tb1).toNat)) (Y8 tb1 2)) (dV n1 0) (x2.x6) (x2.x7) (dV n2 10) (dV n3 0) (x4.w10) (x4.w11) (x6.ls) x6.ep 0)))/\Yc/\Yc/\∀(x7:xi) (n7 tb7 gb7:Nat),(cz x7.ls x7.fz (List.foldl bt [] y7.1))/\eR (Ho x4 x5) x7.fz->Yc/\ad [140,147,244,(Y2 n 0),(Y2 n 1),(Y2 n 2),(Y2 n 3),(Y2 n 4),(Y2 n 5),(Y2 n 6),(Y2 n 7),(Y2 n 8),(Y2 n 9),(Y2 n 10),(Y2 n 11),(Y2 n1 0),(Y2 n1 1),(Y2 n1 2),(Y2 n2 0),(Y2 n2 1),(Y2 n2 2),(Y2 n2 3),(Y2 n2 4),(Y2 n2 5),(Y2 n2 6),(Y2 n2 7),(Y2 n2 8),(Y2 n2 9),(Y2 n2 10),(Y2 n2 11),(Y2 n2 12),(Y2 n3 0),(Y2 n3 1),(Y2 n3 2),(A x4.a1),(A x4.a2),(A x4.a3),(Y2 n4 0),(Y2 n4 1),(Y2 n4 2),(Y2 n4 3),(Y2 n4 4),(A x6.a),(Y2 n6 0)] (A n7) gb7 (sl hs 165 5) (∃y8:List cw×List df,(cz (x7.ls) y8.2 y8.1/\y8.1≠[]/\List.length y8.1<=900/\∀x∈y8.2,x∈((Ho x4 x5)++x7.fz))/\(Rf (⟨ay (ao (f6 (pW W)) (bo (pW W) (cQ n) (dD n) (bJ n 2)) (bJ n7 2) (cQ n7) (dD n7)),none,none,[(.func (be (dG (pW W))) (bo (pW W) (ik n 0) (ik n 1) (ik n 2)),⟨179,48,179,54⟩),(Y7,p6)],none⟩:Ctx))/\(Rf (ax ([(db n7 2,eG),(Id n7 n4 0),(db n4 0,ab (x7.ls) x7.ep),(mD n7 1)])))/\Yc/\Yc/\∀(x8:GC) (n8 tb8 gb8:Nat),(aw x8.ls x8.fz y8.1)/\eR ((Ho x4 x5)++x7.fz) x8.fz->Yc/\ad (Qa n n1 n2 n3 x4 n4 x6 n6 n7) (A n8) gb8 (sl hs 171 19) (∃y9:List cw×List df×List df,(aw (x8.ls) y9.2.1 y9.1/\aw (x4.eds3) y9.2.2 y9.1/\∀x∈y9.2.1++y9.2.2,x∈(((Ho x4 x5)++x7.fz)++x8.fz))/\(Rf (⟨.builtin "list.__eq__" ⟨[.ref (A (dD n7)),.ref (A x4.a3)],[]⟩,none,none,[(.func (be (dG (pW W))) (bo (pW W) (ik n 0) (ik n 1) (ik n 2)),⟨179,11,179,67⟩),(Y7,p6)],none⟩:Ctx))/\(Rf (ax ([(db n7 1,ab (x8.ls) x8.ep),(A x4.a3,ab (x4.eds3) x4.ep3)])))/\Yc/\Yc/\∀(x9:Unit) (n9 tb9 gb9:Nat),(True)/\eR (((Ho x4 x5)++x7.fz)++x8.fz) ([]:ae)->Yc/\ad (Qa n n1 n2 n3 x4 n4 x6 n6 n7) (A n9) gb9 (sl hs 190 0) (Z (.fin HC) (Y2 n9 0) (Y8 tb9 0) true (ax ([(140,bB (cC x4.r1)),(147,bB (cE x4.r2)),(244,ab itv 0)])))))))))))))))))))))) (fun W=>(gC [0,0,4,4,0,4,4,4,40003,4000,4,0,0,4,4001,40007,4002,9,11,9,9,4003,30012,13,1000,4,4,30015,0,0,4,7001,4004,40004,0,0,100017,18,1002,4,40016,4005,4,40016,4006,40023,50024,23,60024,23,60024,23,24,24,26,5,5,6,6,0,0,100027,28,1003,40004,5,6,4,30033,34,1004,4,4,0,0,4,50032,4,50032,35,36,35,35,4007,30039,40,1005,30042,7006,30043,44,1007,4,30038,45,1008,90047,4,50032,46,37,46,46,7009])) (pc (by kernel_rfl)) rfl ⟨fun _=>eI,fun _=>qW,fun _=>eI,fun _=>lV,fun _=>rf,fun _=>eI,fun _=>eI,fun _=>lV,trivial⟩ ⟨xn _ _ _ _ _ rfl,mG rfl,zd _ _ _ _ _ rfl,ym _ _ _ _ _ rfl,zw _ _ _ _ _ rfl,xO _ _ _ _ _ rfl,ua _ _ rfl,vP _ _ _ _ _ rfl,xX _ _ _ _ _ rfl,xC _ _ (le_of_ble_eq_true rfl) rfl,trivial⟩ rfl fun hs=>?_
 refine rI ⟨rfl,⟨rfl,rfl,rfl⟩,rfl,Nat.le_trans h63 (by decide),rfl⟩ ?_
 refine rI ⟨rfl,rfl,Nat.le_trans h63 (by decide)⟩ ?_
 refine rI ⟨rfl,⟨rfl,rfl,rfl⟩,rfl,le_of_ble_eq_true rfl,rfl⟩ ?_
 refine rI ⟨rfl,⟨rfl,rfl,rfl⟩,⟨rfl,rfl,rfl⟩,pt h63 (Nat.le_refl 7)⟩ ?_
 refine ag ⟨zF hv rfl zJ rfl,rfl,rfl,rfl,rfl,fun x0 n0 tb0 gb0 hx0=>⟨rfl,?_⟩⟩ _
 refine ag ⟨⟨⟨rfl,rfl,rfl,rfl⟩,rfl,rfl,_,zJ,OO hx0⟩,rfl,rfl,rfl,fun x1 n1 tb1 gb1 hx1=>⟨rfl,?_⟩⟩ _
 refine rI ⟨vw,rfl⟩ ?_
 refine ag ⟨⟨IM,rfl,cR⟩,rfl,rfl,rfl,rfl,fun x2 n2 tb2 gb2 hx2=>⟨rfl,?_⟩⟩ _
 refine rI ⟨rfl,⟨rfl,rfl,rfl⟩,rfl,le_of_ble_eq_true rfl,rfl⟩ ?_
 refine rI ⟨rfl,⟨rfl,rfl,rfl⟩,rfl,le_of_ble_eq_true rfl,rfl⟩ ?_
 refine ag ⟨⟨zD,gx,rfl,rfl,(bZ hlaw cR rfl hx2).bits,(bZ hlaw cR rfl hx2).fit⟩,rfl,rfl,rfl,rfl,fun x3 n3 tb3 gb3 hx3=>⟨rfl,?_⟩⟩ _
 refine ag ⟨⟨zD,gx,vp hx3,rfl,rfl,(by rw [cr hx3];rfl),cR,(bZ hlaw cR rfl hx2).first,(bZ hlaw cR rfl hx2).second,(by rw [cr hx3];exact(bZ hlaw cR rfl hx2).both)⟩,rfl,rfl,rfl,rfl,fun x4 n4 tb4 gb4 hx4=>⟨rfl,?_⟩⟩ _
 refine rI ⟨rfl,⟨rfl,rfl,rfl⟩,⟨rfl,rfl,rfl⟩,cX.add (cX.mk (bZ hlaw cR rfl hx2) (cr hx3) hx4.1)⟩ ?_
 refine ag ⟨x4.es1++x4.es2,cX.pts (cX.mk (bZ hlaw cR rfl hx2) (cr hx3) hx4.1) (fun y hy=>mem_append_right _ hy),rfl,rfl,rfl,rfl,fun x5 n5 tb5 gb5 hx5=>⟨rfl,?_⟩⟩ _
 refine ag ⟨(x4.es1++x4.es2,x5.fz),⟨hx5.1.1,hx5.1.2,(cX.st (cX.mk (bZ hlaw cR rfl hx2) (cr hx3) hx4.1)).1,(cX.st (cX.mk (bZ hlaw cR rfl hx2) (cr hx3) hx4.1)).2.1,(cX.st (cX.mk (bZ hlaw cR rfl hx2) (cr hx3) hx4.1)).2.2,fun y hy=>mem_append_right _ hy⟩,rfl,rfl,rfl,rfl,fun x6 n6 tb6 gb6 hx6=>⟨rfl,?_⟩⟩ _
 refine ag ⟨(x6.ds,x5.fz),⟨hx6.1.1,(cX.perm (cX.mk (bZ hlaw cR rfl hx2) (cr hx3) hx4.1) hx6.1.2.1).1,(cX.perm (cX.mk (bZ hlaw cR rfl hx2) (cr hx3) hx4.1) hx6.1.2.1).2.1,(cX.perm (cX.mk (bZ hlaw cR rfl hx2) (cr hx3) hx4.1) hx6.1.2.1).2.2,fun y hy=>mem_append_left _ (mem_append_right _ hy)⟩,rfl,rfl,rfl,rfl,fun x7 n7 tb7 gb7 hx7=>⟨rfl,?_⟩⟩ _
 refine ag ⟨(List.foldl bt [] x6.ds,x7.fz),⟨hx7.1,(cX.mlen (cX.mk (bZ hlaw cR rfl hx2) (cr hx3) hx4.1) hx6.1.2.1 hx6.1.2.2).1,(cX.mlen (cX.mk (bZ hlaw cR rfl hx2) (cr hx3) hx4.1) hx6.1.2.1 hx6.1.2.2).2,fun y hy=>mem_append_right _ hy⟩,rfl,rfl,rfl,rfl,fun x8 n8 tb8 gb8 hx8=>⟨rfl,?_⟩⟩ _
 refine ag ⟨(x4.es3,x8.fz,x4.fz3),⟨(by rw [<-cX.merged (cX.mk (bZ hlaw cR rfl hx2) (cr hx3) hx4.1) hx6.1.2.1 hx6.1.2.2];exact hx8.1),hx4.1.2.2.1,fun y hy=>by rcases List.mem_append.mp hy with hy|hy;exact mem_append_right _ hy;exact mem_append_left _ (mem_append_left _ (mem_append_left _ (mem_append_left _ (mem_append_right _ (mem_append_right _ (mem_append_right _ hy))))))⟩,rfl,rfl,rfl,rfl,fun x9 n9 tb9 gb9 hx9=>⟨rfl,?_⟩⟩ _
 exact rF fun s' r _ h3 h4 h5=>kQ n tb s' _ _ hn ht (by rw [bG];exact r) h4 (ai h3) h5
def ba(d e:Int×Int):Prop:=d.2*e.1<e.2*d.1
noncomputable def ph(e X:Int×Int):Int:=X.2*e.1-X.1*e.2
noncomputable def dm(X q:Int×Int):Int×Int:=(X.1-q.1,X.2-q.2)
structure qB(ps:List (Int×Int))(e P Q:Int×Int):Prop where
 p:P∈ps
 q:Q∈ps
 eq:ph e Q=ph e P
 min:∀X∈ps,ph e P<=ph e X
 lo:∀X∈ps,ph e X=ph e P->P.1<=X.1/\X.1<=Q.1
noncomputable def bv(e:Int×Int):List (Int×Int)->Int×Int
 |[]=>(0,0)
 |f::l=>if f.2*e.1=e.2*f.1 then(f.1+(bv e l).1,f.2+(bv e l).2) else bv e l
theorem jF{a b c:Int×Int}(ha:0<a.1)(hb:0<b.1)(hc:0<c.1)(h1:ba a b)(h2:aX b c):ba a c:=by
 unfold ba aX at*
 have e1:(a.2*b.1)*c.1<(b.2*a.1)*c.1:=Int.mul_lt_mul_of_pos_right h1 hc
 have e2:(b.2*c.1)*a.1<=(c.2*b.1)*a.1:=mul_le_mul_of_nonneg_right h2 (by lia)
 have:(a.2*c.1)*b.1<(c.2*a.1)*b.1:=by grind
 exact Int.lt_of_mul_lt_mul_right this (by lia)
theorem jL{a b c:Int×Int}(ha:0<a.1)(hb:0<b.1)(hc:0<c.1)(h1:aX a b)(h2:ba b c):ba a c:=by
 unfold ba aX at*
 have e1:(a.2*b.1)*c.1<=(b.2*a.1)*c.1:=mul_le_mul_of_nonneg_right h1 (by lia)
 have e2:(b.2*c.1)*a.1<(c.2*b.1)*a.1:=Int.mul_lt_mul_of_pos_right h2 ha
 have:(a.2*c.1)*b.1<(c.2*a.1)*b.1:=by grind
 exact Int.lt_of_mul_lt_mul_right this (by lia)
theorem GO{a b:Int×Int}(h:ba a b):aX a b:=Int.le_of_lt h
theorem eL{a b c:Int×Int}(ha:0<a.1)(hb:0<b.1)(hc:0<c.1)(h1:ba a b)(h2:ba b c):ba a c:=jF ha hb hc h1 (GO h2)
theorem cB{e:Int×Int}:∀{es:List (Int×Int)},(∀f∈es,ba e f)->bv e es=(0,0)
 |[],_=>rfl
 |f::l,h=>by
  have:=h f (mem_cons_self ..)
  unfold ba at this
  rw [bv,if_neg (by lia)]
  exact cB fun g hg=>h g (mem_cons_of_mem _ hg)
theorem iQ{q q' e:Int×Int}{l l':List cw}{j:Nat}(hb:lc (difs q l) j e)(hd:l.drop j=q'::l'):∃pre,l=pre++q'::l'/\e=dm q' q/\(∀X∈l,aX e (dm X q))/\∀X∈l',ba e (dm X q):=by
 obtain⟨h1,h2⟩:=hb
 have hj:l[j]? =some q':=by
  have:=getElem?_drop (xs:=l) (i:=j) (j:=0)
  rw [hd] at this
  simpa using this.symm
 have he:e=dm q' q:=by
  unfold difs at h1
  rw [getElem?_map,hj] at h1
  exact(Option.some.inj h1).symm
 refine⟨l.take j,by rw [<-hd,List.take_append_drop],he,fun X hX=>?_,fun X hX=>?_⟩
 ·obtain⟨i,hi⟩:=List.mem_iff_getElem?.mp hX
  exact(h2 i (dm X q) (by unfold difs;rw [getElem?_map,hi];rfl)).1
 ·obtain⟨i,hi⟩:=List.mem_iff_getElem?.mp hX
  have hi':l[j+(i+1)]? =some X:=by
   have:=getElem?_drop (xs:=l) (i:=j) (j:=i+1)
   rw [hd] at this
   rw [<-this];simpa using hi
  have z:=h2 _ (dm X q) (by unfold difs;rw [getElem?_map,hi'];rfl)
  unfold ba
  rcases Int.lt_or_le (e.2*(dm X q).1) ((dm X q).2*e.1) with g|g
  ·exact g
  ·have:=z.2 (by unfold aX;exact g);lia
theorem qs{q q' Y f:Int×Int}(hf:f=dm q' q)(h:ba f (dm Y q)):ba f (dm Y q'):=by
 subst hf
 unfold ba dm at*
 simp only at*
 grind
theorem qI{q q' X f e:Int×Int}(hf:f=dm q' q)(hf0:0<f.1)(he:0<e.1)(hX:X.1<q'.1)(h1:aX f (dm X q))(h2:ba f e):ph e q'<ph e X:=by
 have a1: -(q'.1-X.1)*f.2<=(X.2-q'.2)*f.1:=by
  subst hf
  unfold aX dm at*
  simp only at*
  grind
 unfold ba at h2
 have e1:(-(q'.1-X.1)*f.2)*e.1<=((X.2-q'.2)*f.1)*e.1:=mul_le_mul_of_nonneg_right a1 (by lia)
 have e2:(q'.1-X.1)*(f.2*e.1)<(q'.1-X.1)*(e.2*f.1):=Int.mul_lt_mul_of_pos_left h2 (by lia)
 have:(-(q'.1-X.1)*e.2)*f.1<((X.2-q'.2)*e.1)*f.1:=by grind
 have:=Int.lt_of_mul_lt_mul_right this (by lia)
 unfold ph
 grind
theorem iz{q:Int×Int}{l es:List cw}(h:eF q l es):(q::l).Pairwise (fun a b=>a.1<b.1)->
  es.Pairwise ba/\(∀f∈es,0<f.1)/\(∀g:Int×Int,0<g.1->(∀X∈l,ba g (dm X q))->∀f∈es,ba g f)/\
  (∀e:Int×Int,0<e.1->∃P Q,qB (q::l) e P Q/\Q.1-P.1=(bv e es).1/\Q.2-P.2=(bv e es).2):=by
 induction h with
 |nil q=>
  intro _
  refine⟨List.Pairwise.nil,(fun f hf=>nomatch hf),(fun g _ _ f hf=>nomatch hf),fun e he=>⟨q,q,⟨List.mem_singleton.mpr rfl,List.mem_singleton.mpr rfl,rfl,fun X hX=>?_,fun X hX _=>?_⟩,by simp [bv],by simp [bv]⟩⟩
  ·rw [List.mem_singleton.mp hX];exact Int.le_refl _
  ·rw [List.mem_singleton.mp hX];exact⟨Int.le_refl _,Int.le_refl _⟩
 | @cons q l j f q' l' es hl hb hd h ih=>
  intro hs
  obtain⟨pre,hpre,hf,hle,hlt⟩:=iQ hb hd
  have hs2:=List.pairwise_cons.mp hs
  have hs':(q'::l').Pairwise (fun a b=>a.1<b.1):=by
   have:=hs2.2
   rw [hpre] at this
   exact(List.pairwise_append.mp this).2.1
  have hprelt:∀X∈pre,X.1<q'.1:=fun X hX=>by
   have:=hs2.2
   rw [hpre] at this
   exact(List.pairwise_append.mp this).2.2 X hX q' (mem_cons_self ..)
  have hq'l:q'∈l:=by rw [hpre];simp
  have hqq':q.1<q'.1:=hs2.1 q' hq'l
  have hf0:0<f.1:=by rw [hf];show 0<q'.1-q.1;lia
  have hpos:∀X∈l,0<(dm X q).1:=fun X hX=>by have:=hs2.1 X hX;show 0<X.1-q.1;lia
  have hl'l:∀X∈l',X∈l:=fun X hX=>by rw [hpre];simp [hX]
  have hpos':∀X∈l',0<(dm X q').1:=fun X hX=>by have:=(List.pairwise_cons.mp hs').1 X hX;show 0<X.1-q'.1;lia
  have hlt':∀X∈l',ba f (dm X q'):=fun X hX=>qs hf (hlt X hX)
  obtain⟨i1,i2,i3,i4⟩:=ih hs'
  have hfs:∀g∈es,ba f g:=i3 f hf0 hlt'
  refine⟨List.pairwise_cons.mpr ⟨hfs,i1⟩,fun g hg=>?_,fun g hg0 hg k hk=>?_,fun e he=>?_⟩
  ·rcases List.mem_cons.mp hg with rfl|hg
   ·exact hf0
   ·exact i2 g hg
  ·have hgf:ba g f:=by rw [hf];exact hg q' hq'l
   rcases List.mem_cons.mp hk with rfl|hk
   ·exact hgf
   ·exact i3 g hg0 (fun X hX=>eL hg0 hf0 (hpos' X hX) hgf (hlt' X hX)) k hk
  ·rcases(by unfold ba;lia:ba e f\/f.2*e.1=e.2*f.1\/ba f e) with c|c|c
   ·have hX:∀X∈l,ph e q<ph e X:=fun X hX=>by
     have:=jF he hf0 (hpos X hX) c (hle X hX)
     unfold ba dm at this
     unfold ph
     simp only at this
     grind
    refine⟨q,q,⟨mem_cons_self ..,mem_cons_self ..,rfl,fun X h=>?_,fun X h h'=>?_⟩,?_,?_⟩
    ·rcases List.mem_cons.mp h with rfl|h
     ·exact Int.le_refl _
     ·exact Int.le_of_lt (hX X h)
    ·rcases List.mem_cons.mp h with rfl|h
     ·exact⟨Int.le_refl _,Int.le_refl _⟩
     ·have:=hX X h;lia
    ·rw [cB fun k hk=>?_];exact Int.sub_self _
     rcases List.mem_cons.mp hk with rfl|hk
     ·exact c
     ·exact eL he hf0 (i2 k hk) c (hfs k hk)
    ·rw [cB fun k hk=>?_];exact Int.sub_self _
     rcases List.mem_cons.mp hk with rfl|hk
     ·exact c
     ·exact eL he hf0 (i2 k hk) c (hfs k hk)
   ·have hd0:bv e es=(0,0):=cB fun k hk=>by
     have a1:=hfs k hk
     exact jL he hf0 (i2 k hk) (by unfold aX;lia) a1
    have hle':∀X∈l,ph e q<=ph e X:=fun X hX=>by
     have:=cq (a:=e) (b:=f) (c:=dm X q) hf0 he (hpos X hX) (by unfold aX;lia) (hle X hX)
     unfold aX dm at this
     unfold ph
     simp only at this
     grind
    have hlt2:∀X∈l',ph e q<ph e X:=fun X hX=>by
     have:=jL (a:=e) (b:=f) (c:=dm X q) he hf0 (hpos X (hl'l X hX)) (by unfold aX;lia) (hlt X hX)
     unfold ba dm at this
     unfold ph
     simp only at this
     grind
    refine⟨q,q',⟨mem_cons_self ..,mem_cons_of_mem _ hq'l,?_,fun X h=>?_,fun X h h'=>?_⟩,?_,?_⟩
    ·rw [hf] at c
     unfold dm at c
     unfold ph
     simp only at c
     grind
    ·rcases List.mem_cons.mp h with rfl|h
     ·exact Int.le_refl _
     ·exact hle' X h
    ·rcases List.mem_cons.mp h with rfl|h
     ·exact⟨Int.le_refl _,Int.le_of_lt hqq'⟩
     ·refine⟨Int.le_of_lt (hs2.1 X h),?_⟩
      rw [hpre] at h
      rcases List.mem_append.mp h with h|h
      ·exact Int.le_of_lt (hprelt X h)
      ·rcases List.mem_cons.mp h with rfl|h
       ·exact Int.le_refl _
       ·have:=hlt2 X h;lia
    ·rw [bv,if_pos c,hd0,hf];show q'.1-q.1=q'.1-q.1+0;lia
    ·rw [bv,if_pos c,hd0,hf];show q'.2-q.2=q'.2-q.2+0;lia
   ·obtain⟨P,Q,F,d1,d2⟩:=i4 e he
    have hdd:bv e (f::es)=bv e es:=by
     unfold ba at c
     rw [bv,if_neg (by lia)]
    have hbelow:∀X∈q::pre,ph e q'<ph e X:=fun X hX=>by
     rcases List.mem_cons.mp hX with rfl|hX
     ·refine qI hf hf0 he hqq' ?_ c
      unfold aX dm
      simp only
      lia
     ·exact qI hf hf0 he (hprelt X hX) (hle X (by rw [hpre];exact mem_append_left _ hX)) c
    have hmem:∀X∈q::l,X∈q::pre\/X∈q'::l':=fun X hX=>by
     rcases List.mem_cons.mp hX with rfl|hX
     ·exact .inl (mem_cons_self ..)
     ·rw [hpre] at hX
      rcases List.mem_append.mp hX with h|h
      ·exact .inl (mem_cons_of_mem _ h)
      ·exact .inr h
    have hup:∀X∈q'::l',X∈q::l:=fun X hX=>mem_cons_of_mem _ (by rw [hpre];exact mem_append_right _ hX)
    have hq'P:=F.min q' (mem_cons_self ..)
    refine⟨P,Q,⟨hup P F.p,hup Q F.q,F.eq,fun X hX=>?_,fun X hX hX'=>?_⟩,by rw [hdd];exact d1,by rw [hdd];exact d2⟩
    ·rcases hmem X hX with h|h
     ·have:=hbelow X h;lia
     ·exact F.min X h
    ·rcases hmem X hX with h|h
     ·have:=hbelow X h;lia
     ·exact F.lo X h hX'
theorem DK{e X Y:Int×Int}(he:0<e.1)(h1:X.1=Y.1)(h2:ph e X=ph e Y):X.2=Y.2:=by
 unfold ph at h2
 rw [h1] at h2
 exact Int.eq_of_mul_eq_mul_right (by lia:e.1≠0) (by lia)
theorem pN{ps:List (Int×Int)}{e P Q P' Q':Int×Int}(he:0<e.1)(F:qB ps e P Q)(G:qB ps e P' Q'):P=P'/\Q=Q':=by
 have m:ph e P=ph e P':=Int.le_antisymm (F.min P' G.p) (G.min P F.p)
 have a1:=F.lo P' G.p m.symm
 have a2:=G.lo P F.p m
 have b1:=F.lo Q' G.q (by rw [G.eq,m])
 have b2:=G.lo Q F.q (by rw [F.eq,m])
 have hP:P.1=P'.1:=by lia
 have hQ:Q.1=Q'.1:=by lia
 exact⟨Prod.ext hP (DK he hP m),Prod.ext hQ (DK he hQ (by rw [F.eq,G.eq,m]))⟩
theorem c8{e f:Int×Int}{l:List (Int×Int)}:(bv e (f::l)).1=(bv e [f]).1+(bv e l).1/\(bv e (f::l)).2=(bv e [f]).2+(bv e l).2:=by
 by_cases h:f.2*e.1=e.2*f.1
 ·rw [bv,if_pos h,bv,if_pos h];exact⟨by simp [bv],by simp [bv]⟩
 ·rw [bv,if_neg h,bv,if_neg h];exact⟨by simp [bv],by simp [bv]⟩
theorem eC{e:Int×Int}:∀(l m:List (Int×Int)),(bv e (l++m)).1=(bv e l).1+(bv e m).1/\(bv e (l++m)).2=(bv e l).2+(bv e m).2
 |[],m=>⟨by simp [bv],by simp [bv]⟩
 |f::l,m=>by
  obtain⟨a,b⟩:=eC (e:=e) l m
  obtain⟨c,d⟩:=c8 (e:=e) (f:=f) (l:=l++m)
  obtain⟨c',d'⟩:=c8 (e:=e) (f:=f) (l:=l)
  rw [List.cons_append,c,d,c',d',a,b]
  exact⟨by lia,by lia⟩
theorem vb{e:Int×Int}{l m:List cw}(h:l.Perm m):bv e l=bv e m:=by
 have key:(bv e l).1=(bv e m).1/\(bv e l).2=(bv e m).2:=by
  induction h with
  |nil=>exact⟨rfl,rfl⟩
  | @cons x l m _ ih=>
   obtain⟨a,b⟩:=c8 (e:=e) (f:=x) (l:=l)
   obtain⟨c,d⟩:=c8 (e:=e) (f:=x) (l:=m)
   rw [a,b,c,d,ih.1,ih.2];exact⟨rfl,rfl⟩
  | @swap x y l=>
   obtain⟨a,b⟩:=eC (e:=e) [y,x] l
   obtain⟨c,d⟩:=eC (e:=e) [x,y] l
   obtain⟨a',b'⟩:=c8 (e:=e) (f:=y) (l:=[x])
   obtain⟨c',d'⟩:=c8 (e:=e) (f:=x) (l:=[y])
   show(bv e ([y,x]++l)).1=(bv e ([x,y]++l)).1/\(bv e ([y,x]++l)).2=(bv e ([x,y]++l)).2
   rw [a,b,c,d,a',b',c',d']
   exact⟨by lia,by lia⟩
  |trans _ _ i1 i2=>exact⟨i1.1.trans i2.1,i1.2.trans i2.2⟩
 exact Prod.ext key.1 key.2
theorem jr:∀(es fs:List cw),es.Pairwise ba->(∀f∈es,0<f.1)->fs.Pairwise ba->(∀f∈fs,0<f.1)->(∀e:Int×Int,0<e.1->bv e es=bv e fs)->es=fs
 |[],[],_,_,_,_,_=>rfl
 |[],f::fs,_,_,h1,h2,h=>by
  have hf:=h2 f (mem_cons_self ..)
  have z:=h f hf
  have z2:bv f (f::fs)=(f.1+(bv f fs).1,f.2+(bv f fs).2):=by rw [bv,if_pos rfl]
  rw [z2,cB (List.pairwise_cons.mp h1).1] at z
  have:=congrArg Prod.fst z
  simp [bv] at this;lia
 |e::es,[],h1,h2,_,_,h=>by
  have hf:=h2 e (mem_cons_self ..)
  have z:=h e hf
  have z2:bv e (e::es)=(e.1+(bv e es).1,e.2+(bv e es).2):=by rw [bv,if_pos rfl]
  rw [z2,cB (List.pairwise_cons.mp h1).1] at z
  have:=congrArg Prod.fst z
  simp [bv] at this;lia
 |e::es,f::fs,h1,h2,h3,h4,h=>by
  have he:=h2 e (mem_cons_self ..)
  have hf:=h4 f (mem_cons_self ..)
  have p1:=List.pairwise_cons.mp h1
  have p3:=List.pairwise_cons.mp h3
  have ze:bv e (e::es)=e:=by
   rw [bv,if_pos rfl,cB p1.1];exact Prod.ext (Int.add_zero _) (Int.add_zero _)
  have zf:bv f (f::fs)=f:=by
   rw [bv,if_pos rfl,cB p3.1];exact Prod.ext (Int.add_zero _) (Int.add_zero _)
  rcases(by unfold ba;lia:ba e f\/e.2*f.1=f.2*e.1\/ba f e) with c|c|c
  ·have z:=h e he
   rw [ze,cB fun k hk=>?_] at z
   ·have:=congrArg Prod.fst z;simp at this;lia
   ·rcases List.mem_cons.mp hk with rfl|hk
    ·exact c
    ·exact eL he hf (h4 k (mem_cons_of_mem _ hk)) c (p3.1 k hk)
  ·have hef:e=f:=by
    have z:=h e he
    rw [ze,bv,if_pos c.symm,cB fun k hk=>jL he hf (h4 k (mem_cons_of_mem _ hk)) (by unfold aX;lia) (p3.1 k hk)] at z
    rw [z];exact Prod.ext (Int.add_zero _) (Int.add_zero _)
   subst hef
   refine congrArg (e::·) (jr es fs p1.2 (fun k hk=>h2 k (mem_cons_of_mem _ hk)) p3.2 (fun k hk=>h4 k (mem_cons_of_mem _ hk)) fun g hg=>?_)
   have z:=h g hg
   obtain⟨a,b⟩:=c8 (e:=g) (f:=e) (l:=es)
   obtain⟨a',b'⟩:=c8 (e:=g) (f:=e) (l:=fs)
   have z1:=congrArg Prod.fst z
   have z2:=congrArg Prod.snd z
   rw [a,a'] at z1
   rw [b,b'] at z2
   exact Prod.ext (by lia) (by lia)
  ·have z:=h f hf
   rw [zf,cB fun k hk=>?_] at z
   ·have:=congrArg Prod.fst z;simp at this;lia
   ·rcases List.mem_cons.mp hk with rfl|hk
    ·exact c
    ·exact eL hf he (h2 k (mem_cons_of_mem _ hk)) c (p1.1 k hk)
theorem lu{e c:Int×Int}(h:c.2*e.1=e.2*c.1):bv e [c]=c:=by
 rw [bv,if_pos h];exact Prod.ext (Int.add_zero _) (Int.add_zero _)
theorem oT{e c:Int×Int}(h:¬c.2*e.1=e.2*c.1):bv e [c]=(0,0):=by
 rw [bv,if_neg h];rfl
theorem ud{e c d:Int×Int}(hc:0<c.1)(hd:0<d.1)(he:0<e.1)(h:c.2*d.1=d.2*c.1):(bv e [(c.1+d.1,c.2+d.2)]).1=(bv e [c]).1+(bv e [d]).1/\(bv e [(c.1+d.1,c.2+d.2)]).2=(bv e [c]).2+(bv e [d]).2:=by
 have i1:(c.2*e.1=e.2*c.1)↔(d.2*e.1=e.2*d.1):=jq hd he hc (by lia)
 have i2:((c.2+d.2)*e.1=e.2*(c.1+d.1))↔(c.2*e.1=e.2*c.1):=by
  have:=jq (c:=c) (d:=e) (e:=(c.1+d.1,c.2+d.2)) hc he (by show 0<c.1+d.1;lia) (by show(c.2+d.2)*c.1=c.2*(c.1+d.1);grind)
  exact this
 by_cases g:c.2*e.1=e.2*c.1
 ·rw [lu (i2.mpr g),lu g,lu (i1.mp g)]
  exact⟨rfl,rfl⟩
 ·rw [oT (fun q=>g (i2.mp q)),oT g,oT (fun q=>g (i1.mpr q))]
  exact⟨rfl,rfl⟩
theorem f7:∀(ds acc:List cw),(∀f∈ds,0<f.1)->(∀f∈acc,0<f.1)->ds.Pairwise aX->acc.Pairwise ba->(∀c∈acc,∀d∈ds,aX c d)->
  (ds.foldl bt acc).Pairwise ba/\(∀f∈ds.foldl bt acc,0<f.1)/\∀e:Int×Int,0<e.1->bv e (ds.foldl bt acc)=bv e (acc++ds)
 |[],acc,_,h2,_,h4,_=>⟨h4,h2,fun e _=>by rw [List.append_nil];rfl⟩
 |d::ds,acc,h1,h2,h3,h4,h5=>by
  have hd:=h1 d (mem_cons_self ..)
  have p3:=List.pairwise_cons.mp h3
  have hcs:acc=[]\/∃acc0 c,acc=acc0++[c]:=by
   by_cases hne:acc=[]
   ·exact .inl hne
   ·exact .inr ⟨acc.dropLast,acc.getLast hne,(List.dropLast_concat_getLast hne).symm⟩
  rcases hcs with rfl|⟨acc0,c,rfl⟩
  ·have e0:bt [] d=[d]:=rfl
   obtain⟨a1,a2,a3⟩:=f7 ds [d] (fun f hf=>h1 f (mem_cons_of_mem _ hf)) (fun f hf=>by rw [List.mem_singleton.mp hf];exact hd) p3.2 (pairwise_singleton ..) (fun c hc f hf=>by rw [List.mem_singleton.mp hc];exact p3.1 f hf)
   rw [foldl_cons,e0]
   exact⟨a1,a2,fun e he=>by rw [a3 e he];rfl⟩
  ·have hc:=h2 c (by simp)
   have hcd:aX c d:=h5 c (by simp) d (mem_cons_self ..)
   have pa:=List.pairwise_append.mp h4
   rw [foldl_cons,dg]
   by_cases g:c.2*d.1=d.2*c.1
   ·rw [if_pos g]
    have hn:0<c.1+d.1:=by lia
    obtain⟨a1,a2,a3⟩:=f7 ds (acc0++[(c.1+d.1,c.2+d.2)]) (fun f hf=>h1 f (mem_cons_of_mem _ hf)) (fun f hf=>by
      rcases List.mem_append.mp hf with hf|hf
      ·exact h2 f (by simp [hf])
      ·rw [List.mem_singleton.mp hf];exact hn) p3.2 (List.pairwise_append.mpr ⟨pa.1,pairwise_singleton ..,fun x hx y hy=>by
       rw [List.mem_singleton.mp hy]
       refine jF (h2 x (by simp [hx])) hc hn (pa.2.2 x hx c (by simp)) ?_
       show c.2*(c.1+d.1)<=(c.2+d.2)*c.1
       grind⟩) (fun x hx f hf=>by
       rcases List.mem_append.mp hx with hx|hx
       ·exact h5 x (by simp [hx]) f (mem_cons_of_mem _ hf)
       ·rw [List.mem_singleton.mp hx]
        refine cq hd hn (h1 f (mem_cons_of_mem _ hf)) ?_ (p3.1 f hf)
        show(c.2+d.2)*d.1<=d.2*(c.1+d.1)
        grind)
    refine⟨a1,a2,fun e he=>?_⟩
    rw [a3 e he]
    obtain⟨j1,j2⟩:=ud hc hd he g
    obtain⟨k1,k2⟩:=eC (e:=e) (acc0++[(c.1+d.1,c.2+d.2)]) ds
    obtain⟨k3,k4⟩:=eC (e:=e) acc0 [(c.1+d.1,c.2+d.2)]
    obtain⟨k5,k6⟩:=eC (e:=e) (acc0++[c]) (d::ds)
    obtain⟨k7,k8⟩:=eC (e:=e) acc0 [c]
    obtain⟨k9,k10⟩:=c8 (e:=e) (f:=d) (l:=ds)
    exact Prod.ext (by rw [k1,k3,k5,k7,k9,j1];lia) (by rw [k2,k4,k6,k8,k10,j2];lia)
   ·rw [if_neg g]
    have hlt:ba c d:=by unfold aX at hcd;unfold ba;lia
    obtain⟨a1,a2,a3⟩:=f7 ds ((acc0++[c])++[d]) (fun f hf=>h1 f (mem_cons_of_mem _ hf)) (fun f hf=>by
      rcases List.mem_append.mp hf with hf|hf
      ·exact h2 f hf
      ·rw [List.mem_singleton.mp hf];exact hd) p3.2 (List.pairwise_append.mpr ⟨h4,pairwise_singleton ..,fun x hx y hy=>by
       rw [List.mem_singleton.mp hy]
       rcases List.mem_append.mp hx with hx|hx
       ·exact eL (h2 x (by simp [hx])) hc hd (pa.2.2 x hx c (by simp)) hlt
       ·rw [List.mem_singleton.mp hx];exact hlt⟩) (fun x hx f hf=>by
       rcases List.mem_append.mp hx with hx|hx
       ·exact h5 x hx f (mem_cons_of_mem _ hf)
       ·rw [List.mem_singleton.mp hx];exact p3.1 f hf)
    refine⟨a1,a2,fun e he=>?_⟩
    rw [a3 e he,append_assoc];rfl
def fE(B:Nat)(v:Int)(h:Nat):Prop:=∃u:Int,v=u*(B:Int)^h/\u % (B:Int)≠0
theorem oa{B:Nat}(hB:B=2\/B=3){c d:Int}{h g:Nat}(hc:fE B c h)(hd:fE B d g):fE B (c*d) (h+g):=by
 obtain⟨u,e1,h1⟩:=hc
 obtain⟨u',e2,h2⟩:=hd
 refine⟨u*u',by rw [e1,e2,Int.pow_add];grind,?_⟩
 rw [Int.mul_emod]
 rcases hB with rfl|rfl
 ·have a1:u % ((2:Nat):Int)=1:=by have h1:u % 2≠0:=h1;show u % 2=1;lia
  have a2:u' % ((2:Nat):Int)=1:=by have h2:u' % 2≠0:=h2;show u' % 2=1;lia
  rw [a1,a2];decide
 ·have a1:u % ((3:Nat):Int)=1\/u % ((3:Nat):Int)=2:=by have h1:u % 3≠0:=h1;show u % 3=1\/u % 3=2;lia
  have a2:u' % ((3:Nat):Int)=1\/u' % ((3:Nat):Int)=2:=by have h2:u' % 3≠0:=h2;show u' % 3=1\/u' % 3=2;lia
  rcases a1 with a1|a1<;>rcases a2 with a2|a2<;>rw [a1,a2]<;>decide
theorem Bm{B:Nat}(hB:B=2\/B=3)(h:Nat):0<(B:Int)^h:=Int.pow_pos (by lia)
theorem oR{B:Nat}(hB:B=2\/B=3){v:Int}{h:Nat}(hv:fE B v h):¬(B:Int)^(h+1)∣v:=by
 rintro⟨t,e⟩
 obtain⟨u,e1,h1⟩:=hv
 have:u*(B:Int)^h=((B:Int)*t)*(B:Int)^h:=by rw [<-e1,e,Int.pow_succ];grind
 have:=Int.eq_of_mul_eq_mul_right (Int.ne_of_gt (Bm hB h)) this
 rw [this] at h1
 exact h1 (Int.mul_emod_right _ _)
theorem kw{B:Nat}{v:Int}{h n:Nat}(hv:fE B v h)(hn:n<=h):(B:Int)^n∣v:=by
 obtain⟨u,e1,h1⟩:=hv
 rw [e1]
 exact Int.dvd_trans ⟨(B:Int)^(h-n),by rw [<-Int.pow_add,Nat.add_sub_cancel' hn]⟩ (Int.dvd_mul_left _ _)
theorem AM{B:Nat}{v r:Int}{h:Nat}(hv:fE B v h)(hr:(B:Int)^(h+1)∣r):fE B (v+r) h:=by
 obtain⟨u,e1,h1⟩:=hv
 obtain⟨t,e2⟩:=hr
 refine⟨u+(B:Int)*t,by rw [e1,e2,Int.pow_succ];grind,?_⟩
 rw [Int.add_mul_emod_self_left];exact h1
theorem C3{B:Nat}(hB:B=2\/B=3){v:Int}{h g:Nat}(h1:fE B v h)(h2:fE B v g):h=g:=by
 rcases(by lia:h<g\/h=g\/g<h) with q|q|q
 ·exact absurd (kw h2 q) (oR hB h1)
 ·exact q
 ·exact absurd (kw h1 q) (oR hB h2)
theorem Gr{B:Nat}(hB:B=2\/B=3){v:Int}{h:Nat}(hv:fE B v h):v≠0:=fun e=>by
 subst e;exact oR hB hv (dvd_zero _)
def Jy(B:Nat)(vals:List Int):Prop:=∀v∈vals,v≠0->∃h:Nat,iu B v=(h:Int)/\fE B v h
theorem dL{B:Nat}{X:Int×Int}:∀{vals:List Int} {k:Nat},X∈aZ B k vals↔∃(i:Nat) (v:Int),vals[i]? =some v/\v≠0/\X=(((k+i:Nat):Int),iu B v)
 |[],k=>by simp [aZ]
 |v::l,k=>by
  have ih:=dL (B:=B) (X:=X) (vals:=l) (k:=k+1)
  have step:X∈aZ B (k+1) l↔∃(i:Nat) (w:Int),(v::l)[i+1]? =some w/\w≠0/\X=(((k+(i+1):Nat):Int),iu B w):=by
   rw [ih]
   exact⟨fun⟨i,w,a,b,c⟩=>⟨i,w,by simpa using a,b,by rw [c];congr 1;lia⟩,fun⟨i,w,a,b,c⟩=>⟨i,w,by simpa using a,b,by rw [c];congr 1;lia⟩⟩
  unfold aZ
  by_cases hv:v=0
  ·rw [if_pos hv,step]
   refine⟨fun⟨i,w,a,b,c⟩=>⟨i+1,w,a,b,c⟩,fun⟨i,w,a,b,c⟩=>?_⟩
   cases i with
   |zero=>simp at a;exact absurd (a▸hv) b
   |succ i=>exact⟨i,w,a,b,c⟩
  ·rw [if_neg hv,List.mem_cons,step]
   refine⟨fun h=>?_,fun⟨i,w,a,b,c⟩=>?_⟩
   ·rcases h with h|⟨i,w,a,b,c⟩
    ·exact⟨0,v,rfl,hv,h⟩
    ·exact⟨i+1,w,a,b,c⟩
   ·cases i with
    |zero=>simp at a;subst a;exact .inl c
    |succ i=>exact .inr ⟨i,w,a,b,c⟩
noncomputable def tm(p q:List Int)(k t:Nat):Int:=if t<=k/\k-t<3 then p.getD t 0*q.getD (k-t) 0 else 0
theorem kP:∀(l:List Int) (a:Int),dP a l=a+dP 0 l
 |[],a=>by simp [dP]
 |b::l,a=>by
  show dP (a+b) l=a+dP (0+b) l
  rw [kP l (a+b),kP l (0+b)];lia
theorem cT(p q:List Int)(k i m:Nat):dP 0 (bz p q k i (m+1))=tm p q k i+dP 0 (bz p q k (i+1) m):=by
 show dP 0 (dJ p q k i++bz p q k (i+1) m)=_
 unfold dJ tm
 split
 ·show dP (0+_) (bz p q k (i+1) m)=_
  rw [kP];lia
 ·show dP 0 (bz p q k (i+1) m)=_
  lia
theorem l8{N:Int}{p q:List Int}{k:Nat}:∀(m i:Nat),(∀t,i<=t->t<i+m->N∣tm p q k t)->N∣dP 0 (bz p q k i m)
 |0,i,_=>dvd_zero _
 |m+1,i,h=>by
  rw [cT]
  exact Int.dvd_add (h i (Nat.le_refl _) (by lia)) (l8 m (i+1) fun t h1 h2=>h t (by lia) (by lia))
theorem pH{N:Int}{p q:List Int}{k i0:Nat}:∀(m i:Nat),i<=i0->i0<i+m->(∀t,i<=t->t<i+m->t≠i0->N∣tm p q k t)->∃r,N∣r/\dP 0 (bz p q k i m)=tm p q k i0+r
 |0,i,h1,h2,_=>by lia
 |m+1,i,h1,h2,h=>by
  rw [cT]
  by_cases e:i=i0
  ·subst e
   exact⟨_,l8 m (i+1) fun t a b=>h t (by lia) (by lia) (by lia),rfl⟩
  ·obtain⟨r,a,b⟩:=pH m (i+1) (by lia) (by lia) fun t a b c=>h t (by lia) (by lia) c
   exact⟨tm p q k i+r,Int.dvd_add (h i (Nat.le_refl _) (by lia) e) a,by rw [b];lia⟩
theorem fO{p q:List Int}:∀(m k i:Nat),i<m->(cO p q k m)[i]? =some (dP 0 (bz p q (k+i) 0 4))
 |0,k,i,h=>by lia
 |m+1,k,0,h=>rfl
 |m+1,k,i+1,h=>by
  show(cO p q (k+1) m)[i]? =_
  rw [fO m (k+1) i (by lia),show k+1+i=k+(i+1) by lia]
theorem jC{p q:List Int}:∀(m k:Nat),(cO p q k m).length=m
 |0,k=>rfl
 |m+1,k=>by show(cO p q (k+1) m).length+1=m+1;rw [jC]
theorem qL{p q:List Int}{k:Nat}{b:Int}(h:(cO p q 0 6)[k]? =some b):k<6/\b=dP 0 (bz p q k 0 4):=by
 have hk:k<6:=by
  have:=(List.getElem?_eq_some_iff.mp h).1
  rw [jC] at this;exact this
 rw [fO 6 0 k hk,zero_add] at h
 exact⟨hk,(Option.some.inj h).symm⟩
theorem oe{p q:List Int}(hp:p.length=4)(hq:q.length=3){k t:Nat}(h:tm p q k t≠0):∃c d,p[t]? =some c/\q[k-t]? =some d/\c≠0/\d≠0/\t<=k/\t<4/\tm p q k t=c*d:=by
 unfold tm at h⊢
 by_cases g:t<=k/\k-t<3
 ·rw [if_pos g] at h⊢
  have hc:p.getD t 0≠0:=fun e=>h (by rw [e,Int.zero_mul])
  have hd:q.getD (k-t) 0≠0:=fun e=>h (by rw [e,Int.mul_zero])
  have ht:t<p.length:=by
   rcases lt_or_ge t p.length with x|x
   ·exact x
   ·exact absurd (by simp [List.getD,List.getElem?_eq_none x]) hc
  have hk:k-t<q.length:=by lia
  refine⟨p[t],q[k-t],List.getElem?_eq_getElem ht,List.getElem?_eq_getElem hk,?_,?_,g.1,by lia,?_⟩
  ·simpa [List.getD,ht] using hc
  ·simpa [List.getD,hk] using hd
  ·simp [List.getD,ht,hk]
 ·rw [if_neg g] at h;exact absurd rfl h
theorem IC{p q:List Int}(hq:q.length=3){i j:Nat}{c d:Int}(hc:p[i]? =some c)(hd:q[j]? =some d):tm p q (i+j) i=c*d:=by
 have hj:=(List.getElem?_eq_some_iff.mp hd).1
 unfold tm
 rw [if_pos ⟨by lia,by lia⟩,show i+j-i=j by lia]
 simp [List.getD,hc,hd]
section
section
variable{B:Nat}{p q:List Int}
theorem oi{e X Y:Int×Int}:ph e (X.1+Y.1,X.2+Y.2)=ph e X+ph e Y:=by unfold ph;simp only;grind
theorem ij{e P Q P' Q':Int×Int}(F:qB (aZ B 0 p) e P Q)(G:qB (aZ B 0 q) e P' Q'){X Y:Int×Int}(hX:X∈aZ B 0 p)(hY:Y∈aZ B 0 q):
  ph e P+ph e P'<=ph e X+ph e Y/\(ph e X+ph e Y=ph e P+ph e P'->(P.1<=X.1/\X.1<=Q.1)/\P'.1<=Y.1/\Y.1<=Q'.1):=by
 have a:=F.min X hX
 have b:=G.min Y hY
 exact⟨by lia,fun h=>⟨F.lo X hX (by lia),G.lo Y hY (by lia)⟩⟩
section
variable(hB:B=2\/B=3)(hp:p.length=4)(hq:q.length=3)(Vp:Jy B p)(Vq:Jy B q)(Vr:Jy B (cO p q 0 6))
include hB hp hq Vp Vq Vr
theorem xJ{e A A':Int×Int}(he:0<e.1)(hA:A∈aZ B 0 p)(hA':A'∈aZ B 0 q)(hmin:∀X∈aZ B 0 p,∀Y∈aZ B 0 q,ph e A+ph e A'<=ph e X+ph e Y)(hone:∀X∈aZ B 0 p,∀Y∈aZ B 0 q,ph e X+ph e Y=ph e A+ph e A'->X.1+Y.1=A.1+A'.1->X.1=A.1):
  (A.1+A'.1,A.2+A'.2)∈aZ B 0 (cO p q 0 6):=by
 refine gQ fun Q zQ=>?_
 obtain⟨i,c,hc,hc0,rfl⟩:=dL.mp hA
 obtain⟨j,d,hd,hd0,rfl⟩:=dL.mp hA'
 obtain⟨h,eh,vh⟩:=Vp c (mem_of_getElem? hc) hc0
 obtain⟨g,eg,vg⟩:=Vq d (mem_of_getElem? hd) hd0
 have hi:=(List.getElem?_eq_some_iff.mp hc).1
 have hj:=(List.getElem?_eq_some_iff.mp hd).1
 have hk:i+j<6:=by lia
 obtain⟨r,hr,es⟩:=pH (N:=(B:Int)^(h+g+1)) (p:=p) (q:=q) (k:=i+j) (i0:=i) 4 0 (zero_le _) (by lia) fun t _ ht hne=>by
  by_cases hz:tm p q (i+j) t=0
  ·rw [hz];exact dvd_zero _
  ·obtain⟨c',d',hc',hd',hc0',hd0',htk,_,eT⟩:=oe hp hq hz
   obtain⟨h',eh',vh'⟩:=Vp c' (mem_of_getElem? hc') hc0'
   obtain⟨g',eg',vg'⟩:=Vq d' (mem_of_getElem? hd') hd0'
   have mX:((((0+t:Nat):Int),iu B c'):Int×Int)∈aZ B 0 p:=dL.mpr ⟨t,c',hc',hc0',rfl⟩
   have mY:((((0+(i+j-t):Nat):Int),iu B d'):Int×Int)∈aZ B 0 q:=dL.mpr ⟨i+j-t,d',hd',hd0',rfl⟩
   have a:=hmin _ mX _ mY
   have b:=hone _ mX _ mY
   have hlt:h+g<h'+g':=by
    have e1:((0+t:Nat):Int)+((0+(i+j-t):Nat):Int)=((0+i:Nat):Int)+((0+j:Nat):Int):=by lia
    have ne:¬(ph e (((0+t:Nat):Int),iu B c')+ph e (((0+(i+j-t):Nat):Int),iu B d')=ph e (((0+i:Nat):Int),iu B c)+ph e (((0+j:Nat):Int),iu B d)):=fun q=>by
     have z:=b q e1
     simp only at z
     lia
    unfold ph at a ne
    simp only at a ne
    rw [eh,eg,eh',eg'] at a ne
    have k1:((h:Int)+g)*e.1<((h':Int)+g')*e.1:=by
     have e2:((0+t:Nat):Int)*e.2+((0+(i+j-t):Nat):Int)*e.2=((0+i:Nat):Int)*e.2+((0+j:Nat):Int)*e.2:=by rw [<-add_mul,<-add_mul,e1]
     rw [add_mul,add_mul]
     lia
    have:=Int.lt_of_mul_lt_mul_right k1 (by lia)
    lia
   rw [eT]
   exact kw (oa hB vh' vg') hlt
 rw [IC hq hc hd] at es
 have hv:fE B (dP 0 (bz p q (i+j) 0 4)) (h+g):=by rw [es];exact AM (oa hB vh vg) hr
 have hb:(cO p q 0 6)[i+j]? =some (dP 0 (bz p q (i+j) 0 4)):=by rw [fO 6 0 _ hk,zero_add]
 have hb0:=Gr hB hv
 obtain⟨h2,e2,v2⟩:=Vr _ (mem_of_getElem? hb) hb0
 refine zQ ?_
 have:=C3 hB v2 hv
 refine dL.mpr ⟨i+j,_,hb,hb0,?_⟩
 rw [e2,this]
 refine Prod.ext ?_ ?_
 ·show((0+i:Nat):Int)+((0+j:Nat):Int)=((0+(i+j):Nat):Int);lia
 ·show iu B c+iu B d=((h+g:Nat):Int);rw [eh,eg];lia
theorem uV{e P Q P' Q':Int×Int}(he:0<e.1)(F:qB (aZ B 0 p) e P Q)(G:qB (aZ B 0 q) e P' Q'):
  qB (aZ B 0 (cO p q 0 6)) e (P.1+P'.1,P.2+P'.2) (Q.1+Q'.1,Q.2+Q'.2):=by
 have above:∀Z∈aZ B 0 (cO p q 0 6),∃X∈aZ B 0 p,∃Y∈aZ B 0 q,X.1+Y.1=Z.1/\ph e X+ph e Y<=ph e Z:=by
  intro Z hZ
  obtain⟨k,b,hb,hb0,rfl⟩:=dL.mp hZ
  obtain⟨hk,eb⟩:=qL hb
  obtain⟨h,eh,vh⟩:=Vr b (mem_of_getElem? hb) hb0
  apply Classical.byContradiction
  intro hno
  refine oR hB vh ?_
  rw [eb]
  refine l8 4 0 fun t _ ht=>?_
  by_cases hz:tm p q k t=0
  ·rw [hz];exact dvd_zero _
  ·obtain⟨c',d',hc',hd',hc0',hd0',htk,_,eT⟩:=oe hp hq hz
   obtain⟨h',eh',vh'⟩:=Vp c' (mem_of_getElem? hc') hc0'
   obtain⟨g',eg',vg'⟩:=Vq d' (mem_of_getElem? hd') hd0'
   have mX:((((0+t:Nat):Int),iu B c'):Int×Int)∈aZ B 0 p:=dL.mpr ⟨t,c',hc',hc0',rfl⟩
   have mY:((((0+(k-t):Nat):Int),iu B d'):Int×Int)∈aZ B 0 q:=dL.mpr ⟨k-t,d',hd',hd0',rfl⟩
   have hlt:h<h'+g':=by
    rcases lt_or_ge h (h'+g') with x|x
    ·exact x
    ·refine absurd ⟨_,mX,_,mY,?_,?_⟩ hno
     ·show((0+t:Nat):Int)+((0+(k-t):Nat):Int)=((0+k:Nat):Int);lia
     ·unfold ph
      simp only
      rw [eh,eh',eg']
      have e1:((0+t:Nat):Int)+((0+(k-t):Nat):Int)=((0+k:Nat):Int):=by lia
      have e2:((0+t:Nat):Int)*e.2+((0+(k-t):Nat):Int)*e.2=((0+k:Nat):Int)*e.2:=by rw [<-add_mul,e1]
      have e3:((h':Int)+g')*e.1<=(h:Int)*e.1:=mul_le_mul_of_nonneg_right (by lia) (by lia)
      rw [add_mul] at e3
      lia
   rw [eT]
   exact kw (oa hB vh' vg') hlt
 have hQ:=F.eq
 have hQ':=G.eq
 refine⟨?_,?_,?_,fun Z hZ=>?_,fun Z hZ hZ'=>?_⟩
 ·refine xJ hB hp hq Vp Vq Vr he F.p G.p (fun X hX Y hY=>(ij F G hX hY).1) fun X hX Y hY h1 h2=>?_
  have:=(ij F G hX hY).2 h1
  lia
 ·refine xJ hB hp hq Vp Vq Vr he F.q G.q (fun X hX Y hY=>by rw [hQ,hQ'];exact(ij F G hX hY).1) fun X hX Y hY h1 h2=>?_
  have:=(ij F G hX hY).2 (by rw [h1,hQ,hQ'])
  lia
 ·rw [oi,oi,hQ,hQ']
 ·rw [oi]
  obtain⟨X,hX,Y,hY,_,h⟩:=above Z hZ
  have:=(ij F G hX hY).1
  lia
 ·rw [oi] at hZ'
  obtain⟨X,hX,Y,hY,h1,h⟩:=above Z hZ
  have a:=ij F G hX hY
  have b:=a.2 (by have:=a.1;lia)
  show P.1+P'.1<=Z.1/\Z.1<=Q.1+Q'.1
  lia
def LG(ps:List cw):Prop:=ps.Pairwise fun a b=>a.1<b.1
theorem pg(ap:LG (aZ B 0 p))(aq:LG (aZ B 0 q))(ar:LG (aZ B 0 (cO p q 0 6)))(es1 es2 es3 ds:List cw)(h1:cJ (aZ B 0 p) es1)(h2:cJ (aZ B 0 q) es2)(h3:cJ (aZ B 0 (cO p q 0 6)) es3)(hd:ds.Perm (es1++es2))(hs:ds.Pairwise aX):ds.foldl bt []=es3:=by
 refine gQ fun Q zQ=>?_
 obtain⟨p0,pl,ep,S1⟩:=h1
 obtain⟨q0,ql,eq,S2⟩:=h2
 obtain⟨r0,rl,er,S3⟩:=h3
 obtain⟨_,pos1,_,f1⟩:=iz S1 (by rw [<-ep];exact ap)
 obtain⟨_,pos2,_,f2⟩:=iz S2 (by rw [<-eq];exact aq)
 obtain⟨so3,pos3,_,f3⟩:=iz S3 (by rw [<-er];exact ar)
 have posd:∀f∈ds,0<f.1:=fun f hf=>by
  rcases List.mem_append.mp (hd.mem_iff.mp hf) with h|h
  ·exact pos1 f h
  ·exact pos2 f h
 obtain⟨m1,m2,m3⟩:=f7 ds [] posd (fun f hf=>nomatch hf) hs List.Pairwise.nil (fun c hc=>nomatch hc)
 refine zQ ?_
 refine jr _ _ m1 m2 so3 pos3 fun e he=>?_
 rw [m3 e he,List.nil_append,vb hd]
 refine gQ fun Q zQ=>?_
 obtain⟨P,Q,F,a1,a2⟩:=f1 e he
 obtain⟨P',Q',G,b1,b2⟩:=f2 e he
 obtain⟨P3,Q3,K,c1,c2⟩:=f3 e he
 rw [<-ep] at F
 rw [<-eq] at G
 rw [<-er] at K
 obtain⟨u1,u2⟩:=pN he K (uV hB hp hq Vp Vq Vr he F G)
 subst u1 u2
 obtain⟨d1,d2⟩:=eC (e:=e) es1 es2
 refine zQ ?_
 refine Prod.ext ?_ ?_
 ·rw [d1];simp only at c1;lia
 ·rw [d2];simp only at c2;lia
end
end
end
section
open Builtin.Str (strSub)
noncomputable def bP(l:List Nat):Nat:=(l.reverse.takeWhile fun a=>(⟨[32]⟩:Array Nat).contains a).length
theorem Gv(l:List Nat):bP l<=l.length:=by
 unfold bP
 have:=(List.takeWhile_prefix (p:=fun a=>(⟨[32]⟩:Array Nat).contains a) (l:=l.reverse)).length_le
 rw [List.length_reverse] at this;exact this
theorem yA(l:List Nat):bP (l++[32])=bP l+1:=by
 unfold bP
 rw [List.reverse_append]
 show(List.takeWhile _ (32::l.reverse)).length=_
 rw [List.takeWhile_cons,if_pos (by simp)];rfl
theorem ru(l:List Nat){c:Nat}(h:c≠32):bP (l++[c])=0:=by
 unfold bP
 rw [List.reverse_append]
 show(List.takeWhile _ (c::l.reverse)).length=_
 rw [List.takeWhile_cons,if_neg (by simpa using h)];rfl
theorem Gp(x:Str):x.length=(tZ x ⟨⟨[32]⟩⟩).length+bP x.cps.toList:=by
 have hc:=Gv x.cps.toList
 have hl:x.cps.toList.length=x.length:=by show _=x.cps.size;simp
 have hi:stripHi (⟨[32]⟩:Array Nat).contains true x 0=x.length-bP x.cps.toList:=rfl
 have lo:stripLo (⟨[32]⟩:Array Nat).contains false x=0:=rfl
 unfold tZ stripSame PySem.stripped
 show x.length=(if(stripLo (⟨[32]⟩:Array Nat).contains false x==0&&stripHi (⟨[32]⟩:Array Nat).contains true x (stripLo (⟨[32]⟩:Array Nat).contains false x)==x.length)=true then x else strSub x (stripLo (⟨[32]⟩:Array Nat).contains false x) (stripHi (⟨[32]⟩:Array Nat).contains true x (stripLo (⟨[32]⟩:Array Nat).contains false x))).length+_
 rw [lo,hi]
 split
 ·rename_i h
  have:=eq_of_beq (Bool.and_eq_true_iff.mp h).2
  lia
 ·show x.length=(strSub x 0 (x.length-bP x.cps.toList)).cps.size+_
  unfold strSub
  rw [Array.size_extract]
  show x.length=min (x.length-bP x.cps.toList) x.length-0+_
  lia
theorem B6(B:Nat)(v:Int):iu B v=(bP (i7 (List.map sd (dk B 20 v.natAbs []))).cps.toList:Int):=by
 unfold iu
 have:=Gp (i7 (List.map sd (dk B 20 v.natAbs [])))
 simp only [Int.ofNat_eq_natCast]
 lia
theorem tJ{B:Nat}(hB:B=2\/B=3):∀(f L:Nat),L<2^f->L≠0->∃u,L=u*B^bP (((dk B f L []).map di).flatten.drop 1)/\u % B≠0
 |0,L,h,h0=>by simp at h;exact absurd h h0
 |f+1,L,h,h0=>by
  have e:dk B (f+1) L []=dk B f (L/B) []++[L % B]:=by
   rw [dk,if_neg h0,jo]
  have hm:L % B<B:=mod_lt _ (by lia)
  have hlt:L/B<2^f:=by
   have h2:L/B<=L/2:=Nat.div_le_div_left (by lia) (by lia)
   have:2^(f+1)=2*2^f:=by rw [Nat.pow_succ,Nat.mul_comm]
   lia
  rw [e]
  by_cases hz:L/B=0
  ·rw [hz,jT]
   have hLB:L<B:=(Nat.div_eq_zero_iff.mp hz).resolve_left (by lia)
   have hL:L % B=L:=Nat.mod_eq_of_lt hLB
   refine⟨L,?_,by lia⟩
   rw [hL]
   have:L=1\/L=2:=by lia
   rcases this with rfl|rfl
   ·show 1=1*B^bP [49]
    rw [show bP [49]=0 from ru [] (by decide)];simp
   ·show 2=2*B^bP [127]
    rw [show bP [127]=0 from ru [] (by decide)];simp
  ·obtain⟨u,e1,h1⟩:=tJ hB f (L/B) hlt hz
   obtain⟨d,l,hd⟩:∃d l,dk B f (L/B) []=d::l:=by
    cases hh:dk B f (L/B) [] with
    |nil=>exact absurd hh (nQ hB f (L/B) hlt hz).1
    |cons d l=>exact⟨d,l,rfl⟩
   have hX:∃y Y,((dk B f (L/B) []).map di).flatten=y::Y:=by
    rw [hd,map_cons,flatten_cons]
    unfold di
    split
    ·exact⟨_,_,rfl⟩
    ·split
     ·exact⟨_,_,rfl⟩
     ·exact⟨_,_,rfl⟩
   obtain⟨y,Y,hY⟩:=hX
   have split1:(((dk B f (L/B) []++[L % B]).map di).flatten.drop 1)=((dk B f (L/B) []).map di).flatten.drop 1++di (L % B):=by
    rw [map_append,List.flatten_append,hY]
    simp
   rw [split1]
   by_cases hz2:L % B=0
   ·refine⟨u,?_,h1⟩
    rw [hz2,show di 0=[32] from rfl,yA,Nat.pow_succ,<-Nat.mul_assoc,<-e1]
    have:=Nat.div_add_mod L B
    rw [hz2,Nat.add_zero,Nat.mul_comm] at this
    exact this.symm
   ·refine⟨L,?_,hz2⟩
    have:∃c,di (L % B)=[124]++[c]/\c≠32:=by
     have:L % B=1\/L % B=2:=by lia
     rcases this with q|q
     ·exact⟨49,by rw [q];rfl,by decide⟩
     ·exact⟨127,by rw [q];rfl,by decide⟩
    obtain⟨c,e2,hc⟩:=this
    rw [e2,<-append_assoc,ru _ hc];simp
theorem xA{B:Nat}(hB:B=2\/B=3){v:Int}(hv:v≠0)(hs:v.natAbs<2^20):∃h:Nat,iu B v=(h:Int)/\fE B v h/\B^h<=v.natAbs:=by
 have hn:v.natAbs≠0:=by lia
 obtain⟨u,e,hu⟩:=tJ hB 20 v.natAbs hs hn
 have hD:=DV hB hs hn
 rw [<-oI hD] at e
 refine⟨_,B6 B v,?_,?_⟩
 ·have e':(v.natAbs:Int)=(u:Int)*(B:Int)^bP (rO B v).cps.toList:=by
   conv=>lhs;rw [e]
   rw [Int.natCast_mul,Int.natCast_pow]
  rcases Int.natAbs_eq v with q|q
  ·exact⟨u,by rw [<-e'];exact q,by
    rcases hB with rfl|rfl
    ·show(u:Int) % 2≠0;lia
    ·show(u:Int) % 3≠0;lia⟩
  ·exact⟨-u,by rw [Int.neg_mul,<-e'];exact q,by
    rcases hB with rfl|rfl
    ·show(-u:Int) % 2≠0;lia
    ·show(-u:Int) % 3≠0;lia⟩
 ·have hu0:1<=u:=by
   rcases Nat.eq_zero_or_pos u with q|q
   ·rw [q] at hu;simp at hu
   ·exact q
  conv=>rhs;rw [e]
  exact Nat.le_mul_of_pos_left _ hu0
end
theorem ox{ps:List (Int×Int)}(h:eP ps):ps.Pairwise fun a b=>a.1<b.1:=h.imp fun{a b} x=>by have:=x.1;simp only at this;lia
theorem iO{q:Int×Int}{l es:List cw}(h:eF q l es):eP (q::l)->cb es/\es.length<=l.length/\(l≠[]->es≠[]):=by
 induction h with
 |nil q=>intro _;exact⟨(fun f hf=>nomatch hf),Nat.le_refl _,fun h=>absurd rfl h⟩
 | @cons q l j f q' l' es hl hb hd h ih=>
  intro hs
  obtain⟨pre,hpre,hf,_,_⟩:=iQ hb hd
  have hs2:=List.pairwise_cons.mp hs
  have hq'l:q'∈l:=by rw [hpre];simp
  obtain⟨i1,i2,_⟩:=ih (by
   have:=hs2.2
   rw [hpre] at this
   exact(List.pairwise_append.mp this).2.1)
  refine⟨fun g hg=>?_,?_,fun _=>by simp⟩
  ·rcases List.mem_cons.mp hg with rfl|hg
   ·rw [hf];exact hs2.1 q' hq'l
   ·exact i1 g hg
  ·rw [hpre];simp;lia
theorem ry{q:Int×Int}{l es:List cw}(h:eF q l es):(q::l).Pairwise (fun a b=>a.1<b.1)->∀ps:List cw,
  (∀X∈ps,X∈q::l\/(X.1<q.1/\∃f0:Int×Int,0<f0.1/\(∀Y∈l,ba f0 (dm Y q))/\ph f0 q<=ph f0 X))->
  hJ ps q.1 q.2 es/\∃z,(q::l).getLast? =some z/\gH q.1 es=z.1/\gJ q.2 es=z.2:=by
 induction h with
 |nil q=>intro _ ps _;exact⟨trivial,q,rfl,rfl,rfl⟩
 | @cons q l j f q' l' es hl hb hd h ih=>
  intro hs ps hps
  obtain⟨pre,hpre,hf,hle,hlt⟩:=iQ hb hd
  have hs2:=List.pairwise_cons.mp hs
  have hq'l:q'∈l:=by rw [hpre];simp
  have hqq':q.1<q'.1:=hs2.1 q' hq'l
  have hf0:0<f.1:=by rw [hf];show 0<q'.1-q.1;lia
  have hpos:∀X∈l,0<(dm X q).1:=fun X hX=>by have:=hs2.1 X hX;show 0<X.1-q.1;lia
  have hs':(q'::l').Pairwise (fun a b=>a.1<b.1):=by
   have:=hs2.2
   rw [hpre] at this
   exact(List.pairwise_append.mp this).2.1
  have hprelt:∀X∈pre,X.1<q'.1:=fun X hX=>by
   have:=hs2.2
   rw [hpre] at this
   exact(List.pairwise_append.mp this).2.2 X hX q' (mem_cons_self ..)
  have hlt':∀X∈l',ba f (dm X q'):=fun X hX=>qs hf (hlt X hX)
  have phq:ph f q'=ph f q:=by rw [hf];unfold ph dm;simp only;grind
  have hin:∀X∈l,ph f q<=ph f X:=fun X hX=>by
   have:=hle X hX
   unfold aX dm at this
   unfold ph
   simp only at this
   grind
  have hbelow:∀X∈ps,ph f q<=ph f X:=fun X hX=>by
   rcases hps X hX with h|⟨h1,f0,p0,h2,h3⟩
   ·rcases List.mem_cons.mp h with rfl|h
    ·exact Int.le_refl _
    ·exact hin X h
   ·have c:ba f0 f:=by rw [hf];exact h2 q' hq'l
    have a1: -(q.1-X.1)*f0.2<=(X.2-q.2)*f0.1:=by
     unfold ph at h3
     grind
    unfold ba at c
    have e1:(-(q.1-X.1)*f0.2)*f.1<=((X.2-q.2)*f0.1)*f.1:=mul_le_mul_of_nonneg_right a1 (by lia)
    have e2:(q.1-X.1)*(f0.2*f.1)<(q.1-X.1)*(f.2*f0.1):=Int.mul_lt_mul_of_pos_left c (by lia)
    have:(-(q.1-X.1)*f.2)*f0.1<((X.2-q.2)*f.1)*f0.1:=by grind
    have:=Int.lt_of_mul_lt_mul_right this (by lia)
    unfold ph
    grind
  obtain⟨i1,z,i2,i3,i4⟩:=ih hs' ps fun X hX=>by
   rcases hps X hX with h|⟨h1,_⟩
   ·rcases List.mem_cons.mp h with rfl|h
    ·exact .inr ⟨hqq',f,hf0,hlt',by rw [phq];exact Int.le_refl _⟩
    ·rw [hpre] at h
     rcases List.mem_append.mp h with h|h
     ·exact .inr ⟨hprelt X h,f,hf0,hlt',by rw [phq];exact hbelow X hX⟩
     ·exact .inl h
   ·exact .inr ⟨by lia,f,hf0,hlt',by rw [phq];exact hbelow X hX⟩
  have x1:q.1+f.1=q'.1:=by rw [hf];show q.1+(q'.1-q.1)=q'.1;lia
  have x2:q.2+f.2=q'.2:=by rw [hf];show q.2+(q'.2-q.2)=q'.2;lia
  refine⟨⟨fun X hX hlt=>?_,by rw [x1,x2];exact i1⟩,z,?_,?_,?_⟩
  ·have:=hbelow X hX
   unfold ph at this
   grind
  ·rw [<-i2,hpre,<-List.cons_append,List.getLast?_append]
   cases hh:(q'::l').getLast? with
   |none=>simp at hh
   |some y=>simp
  ·show gH (q.1+f.1) es=z.1;rw [x1];exact i3
  ·show gJ (q.2+f.2) es=z.2;rw [x2];exact i4
theorem xw{es:List (Int×Int)}(h:cb es):oN es:=fun e he=>by
 obtain⟨h1,h2,h3,h4⟩:=h e he
 exact⟨intBits_le_iff.mpr (by omega),intBits_le_iff.mpr (by omega)⟩
theorem yv{ps es:List (Int×Int)}(hok:eP ps)(h2:2<=ps.length)(h:cJ ps es):jB ps es:=by
 refine gQ fun Q zQ=>?_
 obtain⟨q0,ql,rfl,S⟩:=h
 obtain⟨b1,z,b2,b3,b4⟩:=ry S (ox hok) (q0::ql) fun X hX=>.inl hX
 obtain⟨c1,c2,c3⟩:=iO S hok
 refine zQ ?_
 exact⟨q0,z,rfl,b2,b1,b3,b4,xw c1,c3 fun e=>by rw [e] at h2;simp at h2⟩
theorem zN{B:Nat}:∀(vals:List Int) (k:Nat),k+vals.length<=6->(∀v∈vals,v≠0->0<=iu B v/\iu B v<=10)->eP (aZ B k vals)/\(∀X∈aZ B k vals,(k:Int)<=X.1/\X.1<k+vals.length/\0<=X.2/\X.2<=10)/\(aZ B k vals).length<=vals.length
 |[],k,_,_=>⟨List.Pairwise.nil,(fun X hX=>nomatch hX),Nat.le_refl _⟩
 |v::l,k,hk,hv=>by
  rw [length_cons] at hk
  obtain⟨a,b,c⟩:=zN (B:=B) l (k+1) (by lia) fun x hx=>hv x (mem_cons_of_mem _ hx)
  unfold aZ
  by_cases h0:v=0
  ·rw [if_pos h0]
   exact⟨a,fun X hX=>by have:=b X hX;rw [length_cons];lia,by rw [length_cons];lia⟩
  ·rw [if_neg h0]
   have hh:=hv v (mem_cons_self ..) h0
   refine⟨List.pairwise_cons.mpr ⟨fun X hX=>?_,a⟩,fun X hX=>?_,by rw [length_cons,length_cons];lia⟩
   ·have:=b X hX
    refine⟨?_,?_,?_,?_⟩<;>simp only [Int.ofNat_eq_natCast]<;>lia
   ·rcases List.mem_cons.mp hX with rfl|hX
    ·rw [length_cons];simp only [Int.ofNat_eq_natCast];lia
    ·have:=b X hX;rw [length_cons];lia
theorem FG{B:Nat}{vals:List Int}{n:Nat}{v w:Int}(h0:vals[0]? =some v)(hv:v≠0)(hn:vals[n]? =some w)(hw:w≠0)(n0:n≠0):2<=(aZ B 0 vals).length:=by
 have m1:(((0+0:Nat):Int),iu B v)∈aZ B 0 vals:=dL.mpr ⟨0,v,h0,hv,rfl⟩
 have m2:(((0+n:Nat):Int),iu B w)∈aZ B 0 vals:=dL.mpr ⟨n,w,hn,hw,rfl⟩
 rcases hh:aZ B 0 vals with _|⟨a,_|⟨b,r⟩⟩
 ·rw [hh] at m1;cases m1
 ·rw [hh] at m1 m2
  have e:=(List.mem_singleton.mp m1).trans (List.mem_singleton.mp m2).symm
  have:=congrArg Prod.fst e
  simp only at this
  lia
 ·simp
theorem jH{B:Nat}(hB:B=2\/B=3){vals:List Int}{n:Nat}{v w:Int}(hl:vals.length<=6)(hs:∀v∈vals,v.natAbs<2^20/\v.natAbs<B^11)(h0:vals[0]? =some v)(hv:v≠0)(hn:vals[n]? =some w)(hw:w≠0)(n0:n≠0):dI B vals/\Jy B vals:=by
 have H:∀v∈vals,v≠0->0<=iu B v/\iu B v<=10:=fun v hv h0=>by
  obtain⟨h,e,_,hb⟩:=xA hB h0 (hs v hv).1
  have:h<=10:=by
   rcases lt_or_ge 10 h with q|q
   ·have h1:B^11<=B^h:=Nat.pow_le_pow_right (by lia) q
    have:=(hs v hv).2
    lia
   ·exact q
  rw [e];lia
 obtain⟨a,b,c⟩:=zN (B:=B) vals 0 (by lia) H
 have h2:=FG (B:=B) h0 hv hn hw n0
 refine⟨⟨fun v hv=>(hs v hv).1,⟨v,h0,hv⟩,h2,by lia,a,fun es h=>yv a h2 h⟩,fun v hv h0=>?_⟩
 obtain⟨h,e,x,_⟩:=xA hB h0 (hs v hv).1
 exact⟨h,e,x⟩
theorem yz{B:Nat}(hB:B=2\/B=3)(q:Nat):qf B q≠0/\(qf B q).natAbs<=(1+B)*B^3:=by
 unfold qf
 have a:q % 4=0\/q % 4=1\/q % 4=2\/q % 4=3:=by lia
 have b:q/4 % 2=0\/q/4 % 2=1:=by lia
 have c:q/8 % 2=0\/q/8 % 2≠0:=by lia
 rcases hB with rfl|rfl<;>rcases a with a|a|a|a<;>rcases b with b|b<;>rcases c with c|c<;>rw [a,b]<;>first|rw [if_pos c]|rw [if_neg c]
 all_goals decide
theorem fY{B:Nat}(hB:B=2\/B=3)(i q:Nat):(cW B i q).natAbs<=(1+B)*B^3/\(¬(i=1\/i=2\/i=5)->cW B i q≠0):=by
 unfold cW
 split
 ·rename_i h
  exact⟨zero_le _,fun g=>absurd h.1 g⟩
 ·exact⟨(yz hB q).2,fun _=>(yz hB q).1⟩
theorem mK{a b:Int}{M:Nat}(ha:a.natAbs<=M)(hb:b.natAbs<=M):(a*b).natAbs<=M*M:=by
 rw [Int.natAbs_mul];exact Nat.mul_le_mul ha hb
theorem mC{N:Nat}:∀(l:List Int) (a:Int),(∀b∈l,b.natAbs<=N)->a.natAbs+N*l.length<=2^62->dN a l
 |[],a,_,_=>trivial
 |b::l,a,h,hN=>by
  have hb:=h b (mem_cons_self ..)
  rw [length_cons,Nat.mul_add,Nat.mul_one] at hN
  have h1:N*l.length+N=N*l.length+N:=rfl
  refine⟨⟨?_,?_⟩,⟨?_,?_⟩,mC (N:=N) l (a+b) (fun x hx=>h x (mem_cons_of_mem _ hx)) ?_⟩<;>omega
theorem kM{p q:List Int}{M k:Nat}(hp:∀c∈p,c.natAbs<=M)(hq:∀d∈q,d.natAbs<=M):∀(m i:Nat),(∀x∈bz p q k i m,x.natAbs<=M*M)/\(bz p q k i m).length<=m
 |0,i=>⟨(fun x hx=>nomatch hx),Nat.le_refl _⟩
 |m+1,i=>by
  obtain⟨a,b⟩:=kM (k:=k) hp hq m (i+1)
  have g:∀(l:List Int) (j:Nat),(∀c∈l,c.natAbs<=M)->(l.getD j 0).natAbs<=M:=fun l j h=>by
   rw [getD_eq_getElem?_getD]
   cases e:l[j]? with
   |none=>exact zero_le _
   |some c=>exact h c (mem_of_getElem? e)
  have h1:(∀x∈dJ p q k i,x.natAbs<=M*M)/\(dJ p q k i).length<=1:=by
   unfold dJ
   split
   ·exact⟨fun x hx=>by rw [List.mem_singleton.mp hx];exact mK (g p i hp) (g q _ hq),Nat.le_refl _⟩
   ·exact⟨(fun x hx=>nomatch hx),zero_le _⟩
  show(∀x∈dJ p q k i++bz p q k (i+1) m,x.natAbs<=M*M)/\(dJ p q k i++bz p q k (i+1) m).length<=m+1
  refine⟨fun x hx=>?_,by rw [List.length_append];lia⟩
  rcases List.mem_append.mp hx with hx|hx
  ·exact h1.1 x hx
  ·exact a x hx
theorem yb{p q:List Int}{M k t:Nat}(hp:∀c∈p,c.natAbs<=M)(hq:∀d∈q,d.natAbs<=M)(lp:p.length=4)(lq:q.length=3):(tm p q k t).natAbs<=M*M:=by
 by_cases h:tm p q k t=0
 ·rw [h];exact zero_le _
 ·obtain⟨c,d,hc,hd,_,_,_,_,e⟩:=oe lp lq h
  rw [e];exact mK (hp c (mem_of_getElem? hc)) (hq d (mem_of_getElem? hd))
theorem dE{a b:Int}{m n:Nat}(ha:a.natAbs<=m)(hb:b.natAbs<=n):(a+b).natAbs<=m+n:=Nat.le_trans (Int.natAbs_add_le a b) (Nat.add_le_add ha hb)
theorem rc{p q:List Int}{M k:Nat}(hp:∀c∈p,c.natAbs<=M)(hq:∀d∈q,d.natAbs<=M)(lp:p.length=4)(lq:q.length=3):(dP 0 (bz p q k 0 4)).natAbs<=3*(M*M):=by
 rw [cT,cT,cT,cT]
 have a:=fun t=>yb (k:=k) (t:=t) hp hq lp lq
 have h3:∀N,0+(N+(N+(N+0)))=3*N/\N+(N+(N+(0+0)))=3*N:=fun N=>by omega
 by_cases h:k<3
 ·have z:tm p q k 3=0:=if_neg fun x=>absurd x.1 (Nat.not_le.mpr h)
  exact Nat.le_trans (dE (a 0) (dE (a 1) (dE (a 2) (dE (n:=0) (by rw [z];exact Nat.le_refl _) (Nat.le_refl _))))) (le_of_eq (h3 _).2)
 ·have z:tm p q k 0=0:=if_neg fun x=>absurd x.2 h
  exact Nat.le_trans (dE (m:=0) (by rw [z];exact Nat.le_refl _) (dE (a 1) (dE (a 2) (dE (n:=0) (a 3) (Nat.le_refl _))))) (le_of_eq (h3 _).1)
theorem oL(B:Nat):∀(vals:List Int) (k:Nat),(aZ B k vals).length<=vals.length
 |[],k=>Nat.le_refl _
 |v::l,k=>by
  have:=oL B l (k+1)
  unfold aZ
  split
  ·rw [length_cons];lia
  ·rw [length_cons,length_cons];lia
theorem I2{B:Nat}(hB:B=2\/B=3)(ds:List Nat)(h7:ds.length=7):mA B ((eY B 0 ds).take 4) ((eY B 0 ds).drop 4):=by
 refine G3 h7 fun d0 d1 d2 d3 d4 d5 d6 ex=>?_
 subst ex
 have n0:=fY hB 0 d0
 have n1:=fY hB 1 d1
 have n2:=fY hB 2 d2
 have n3:=fY hB 3 d3
 have n4:=fY hB 4 d4
 have n5:=fY hB 5 d5
 have n6:=fY hB 6 d6
 have z0:=n0.2 (by lia)
 have z3:=n3.2 (by lia)
 have z4:=n4.2 (by lia)
 have z6:=n6.2 (by lia)
 show mA B [cW B 0 d0,cW B 1 d1,cW B 2 d2,cW B 3 d3] [cW B 4 d4,cW B 5 d5,cW B 6 d6]
 generalize cW B 0 d0=c0 at*
 generalize cW B 1 d1=c1 at*
 generalize cW B 2 d2=c2 at*
 generalize cW B 3 d3=c3 at*
 generalize cW B 4 d4=e0 at*
 generalize cW B 5 d5=e1 at*
 generalize cW B 6 d6=e2 at*
 have hp:∀c∈[c0,c1,c2,c3],c.natAbs<=(1+B)*B^3:=fun c hc=>by
  simp only [List.mem_cons,List.not_mem_nil,or_false] at hc
  rcases hc with rfl|rfl|rfl|rfl
  ·exact n0.1
  ·exact n1.1
  ·exact n2.1
  ·exact n3.1
 have hq:∀c∈[e0,e1,e2],c.natAbs<=(1+B)*B^3:=fun c hc=>by
  simp only [List.mem_cons,List.not_mem_nil,or_false] at hc
  rcases hc with rfl|rfl|rfl
  ·exact n4.1
  ·exact n5.1
  ·exact n6.1
 have bd:3*(((1+B)*B^3)*((1+B)*B^3))<2^20/\3*(((1+B)*B^3)*((1+B)*B^3))<B^11/\(1+B)*B^3<2^20/\(1+B)*B^3<B^11:=by
  rcases hB with rfl|rfl<;>decide
 obtain⟨P1,V1⟩:=jH hB (vals:=[c0,c1,c2,c3]) (n:=3) (by simp) (fun v hv=>by have:=hp v hv;lia) rfl z0 rfl z3 (by decide)
 obtain⟨P2,V2⟩:=jH hB (vals:=[e0,e1,e2]) (n:=2) (by simp) (fun v hv=>by have:=hq v hv;lia) rfl z4 rfl z6 (by decide)
 have b0:(cO [c0,c1,c2,c3] [e0,e1,e2] 0 6)[0]? =some (c0*e0):=by
  rw [fO 6 0 0 (by decide),cT,cT,cT,cT]
  unfold tm
  simp [bz,dP]
 have b5:(cO [c0,c1,c2,c3] [e0,e1,e2] 0 6)[5]? =some (c3*e2):=by
  rw [fO 6 0 5 (by decide),cT,cT,cT,cT]
  unfold tm
  simp [bz,dP]
 obtain⟨P3,V3⟩:=jH hB (vals:=cO [c0,c1,c2,c3] [e0,e1,e2] 0 6) (n:=5) (by rw [jC];exact Nat.le_refl _) (fun v hv=>by
  obtain⟨k,hk⟩:=List.mem_iff_getElem?.mp hv
  obtain⟨_,rfl⟩:=qL hk
  have:=rc (k:=k) hp hq rfl rfl
  lia) b0 (Int.mul_ne_zero z0 z4) b5 (Int.mul_ne_zero z3 z6) (by decide)
 refine⟨P1,P2,P3,fun a ha=>intBits_le_iff.mpr ?_,fun k=>?_,fun es1 es2 h1 h2=>?_,fun es1 es2 es3 ds h1 h2 h3 hd hs=>pg hB rfl rfl V1 V2 V3 (ox P1.ok) (ox P2.ok) (ox P3.ok) es1 es2 es3 ds h1 h2 h3 hd hs⟩
 ·have:=hp a ha;lia
 ·obtain⟨a,b⟩:=kM (k:=k) hp hq 4 0
  refine mC _ _ a ?_
  have:((1+B)*B^3)*((1+B)*B^3)*(bz [c0,c1,c2,c3] [e0,e1,e2] k 0 4).length<=((1+B)*B^3)*((1+B)*B^3)*4:=Nat.mul_le_mul_left _ b
  simp only [Int.natAbs_zero]
  lia
 ·obtain⟨q0,ql,eq,S1⟩:=h1
  obtain⟨r0,rl',er,S2⟩:=h2
  obtain⟨g1,g2,g3⟩:=iO S1 (by rw [<-eq];exact P1.ok)
  obtain⟨k1,k2,k3⟩:=iO S2 (by rw [<-er];exact P2.ok)
  have l1:(aZ B 0 [c0,c1,c2,c3]).length<=4:=(oL _ _ _)
  have l2:(aZ B 0 [e0,e1,e2]).length<=3:=(oL _ _ _)
  have t1:=P1.two
  have t2:=P2.two
  rw [eq,length_cons] at l1 t1
  rw [er,length_cons] at l2 t2
  have e1':=List.length_pos_iff.mpr (g3 (fun e=>by rw [e] at t1;simp at t1))
  have e2':=List.length_pos_iff.mpr (k3 (fun e=>by rw [e] at t2;simp at t2))
  refine⟨fun d hd=>?_,by rw [List.length_append];lia,by rw [List.length_append];lia⟩
  rcases List.mem_append.mp hd with hd|hd
  ·exact g1 d hd
  ·exact k1 d hd
section
open PyProof.Rows PySem.Calls
noncomputable abbrev Γ0:Ctx:=⟨Y7,none,none,[],none⟩
theorem mh{c:ClaimW}{tree:List Value->Sem Fin}{w:World}{s:Shared}{free:Addr->Prop}{gens:Prop}{kept:Heap->Prop}(hz:s.asleep)(hgens:s.gens= #[])
  (spec:∀args,c.pre args=true->WData.layableAll args=true->∀ord:List DictEntry->List DictEntry,(∀l,(ord l).Perm l)->
   ∃vs s₁,layAllW c.records (classAt s.heap) w.params ord args s=some (vs,s₁)/\
    ∃r s',Runs (model c.prog w) Γ0 default (tree vs) [] s₁ (.ret r) s'/\c.Ends s args vs s₁ r s'/\s'.os=s.os/\AllBare s'.gens/\kept s'.heap):
  c.CallFrom (fun vs=>⟨tree vs,Y7,default,[]⟩) w free gens kept s:=by
 intro args hpre hlay ord hord
 refine gQ fun Q zQ=>?_
 obtain⟨vs,s₁,hlaid,r,s',hrun,hends,hos,hbare,hkept⟩:=spec args hpre hlay ord hord
 have hal:=layAllW_rest _ _ _ hlaid
 have hwp:=(Sem.wp_iff_runs (model c.prog w) Γ0 (tree vs) (fun r s'=>(c.Ends s args vs s₁ r s'/\s'.os=s.os/\kept s'.heap)/\leftWithCleanup s'.gens=false) default s₁).mpr ⟨r,s',hrun,⟨hends,hos,hkept⟩,leftWithCleanup_false_of_bare hbare⟩
 obtain⟨n,r',s₃,s₂,hs,hn,hfo,hE,hO,hK⟩:=wp_halts_full (M:=model c.prog w) (c:=.builtin "claim.caller" {}) (R:=fun r s'=>c.Ends s args vs s₁ r s'/\s'.os=s.os/\kept s'.heap) (Shared.asleep_of_life hal.2.2.2 hz) hwp
 obtain⟨eh,_,_,eo,_⟩:=Shared.forget_eq hfo
 refine zQ ?_
 have hcase:=hE.congr eh
 have hkp:kept s₂.heap:=by first|exact eh▸hK|(rw [eh];exact hK)|(rw [<-eh] at hK;exact hK)
 rw [<-eo] at hO
 have hlife:s₂.heap.life=s.heap.life:=(runN_life _ _ _ hn).trans hal.2.2.2
 refine⟨vs,s₁,hlaid,n,_,s₂,hs,?_,(fun _ i x hx=>by rw [hgens] at hx;simp at hx),hkp,by rw [hlife],Shared.rest_eq hO⟩
 rcases hcase with⟨v,rfl,d1,d2,d3,d4,d5⟩|⟨e,ob,cls,rfl,d1,d2,d3,d4,d5⟩
 ·exact .inl ⟨v,rfl,d1,d2,d3,fun b o y _=>d4 b o y,d5⟩
 ·exact .inr ⟨e,ob,cls,rfl,d1,d2,d3,d4,fun b o y _=>d5 b o y⟩
abbrev rl:OpenLaw:=PySem.Challenge.rw_tr0049_01
noncomputable abbrev kq(vs:List Value):Sem Fin:=do match<-nsGet mainNs rl.name with
 |some f=>do ret (<-PySem.call f vs)
 |none=>unsupported "claim.caller:no-such-global"
noncomputable abbrev MT:DefRec:={name:="law",params:=D0 (mf 17),body:=IY (mf 17),scope:=DZ (mf 17),pos:=⟨152,0,179,67⟩}
theorem F4:defOf qv "law"=some (MT,[]):=by rfl
theorem Mq(call:∀(w:World) (s:Shared) (ns:List Int) (its:List Value),(∀b o,(dA w.params).get? b=some o->s.heap.get? b=some o)->s.heap.objs.size=245->
   s.heap.get? 244=some {cls:=.type "list",data:=.seq its.toArray}->IntsAre its ns->ns.length<=63->s.gens= #[]->677<=s.toks->
   ∃s',Runs (jw w) Γ0 default (kq [.ref 244]) [] s HC s'/\OldK s.heap s'.heap/\s'.os=s.os/\AllBare s'.gens):rl.Holds:=by
 have hw:rl.row.toRowW.promised:=by w_witness2
 have ok:(chainsOk qv&&opensWell rl.row.prog&&(frees rl.row.toRowW&&rl.row.toRowW.within.isEmpty))=true:=by decide+kernel
 have hb:rl.row.prog.bare:=⟨rfl,rfl,rfl,rfl,rfl,by decide+kernel⟩
 have k0:rl.wellSaid=true:=by decide+kernel
 have k1:rl.row.wellSaid=true:=by decide+kernel
 refine⟨k0,k1,hw,?_⟩
 refine gQ fun Q zQ=>?_
 obtain⟨ok,k5⟩:=Bool.and_eq_true_iff.mp ok
 obtain⟨hch,o1⟩:=Bool.and_eq_true_iff.mp ok
 obtain⟨k5,k6⟩:=Bool.and_eq_true_iff.mp k5
 obtain⟨hsame,hu,ha,hap,hm⟩:=frees_parts k5
 refine zQ ?_
 have lb:=fun w=>LeftO.behind (XP:=fun _ _=>True) left (fun _ _=>trivial) hch w
 refine⟨⟨hb,o1,by first|rfl|(show rl.row.toRowW.makers.map _=[];rw [hm];rfl)⟩,hw.witness,fun w=>⟨(lb w).1,fun s' hs'=>?_⟩⟩
 refine gQ fun Q zQ=>?_
 obtain⟨s₀,hf,hg0,s,hT,hz,hgens,hg,G,y⟩:=(lb w).2 s' hs'
 refine zQ ?_
 refine⟨s₀,hf,hg0,s,hT,fun n hn=>?_,fun x hx=>(nomatch hx),fun x hx=>(nomatch hx),?_⟩
 ·obtain rfl:n=rl.row.name:=by split at hn<;>simp_all
  exact pinned_of_view hg G F4 (by rfl) (by rfl)
 have hgens:s.gens= #[]:=Array.eq_empty_of_size_eq_zero (beq_iff_eq.mp hgens)
 have y1:s.heap=dA w.params:=congrArg Prod.fst y
 have y2:s.toks=677:=congrArg Prod.snd y
 refine mh (c:=rl.row.toRowW.claim) (tree:=kq) hz hgens fun args hpre hlay ord hord=>?_
 obtain⟨⟨vs,s₁⟩,hlaid⟩:=Option.isSome_iff_exists.mp (layAllW_isSome (P:=w.params) (ord:=ord) G.has args rl.row.toRowW.args s (pre_splitW hpre).1)
 have keeps:=layAllW_keeps _ _ _ hlaid
 have hal:=layAllW_rest _ _ _ hlaid
 obtain⟨as,hrd,hin,hold⟩:=reads_layAllW hord _ _ _ hlaid hlay s₁.heap (fun _ _ e=>e)
 have L:Laid rl.row.toRowW.records w s s₁ args vs as:=⟨⟨ord,hord,hlaid⟩,hrd,hin,hold,keeps,hal.1.trans hgens,hal.2.2.1⟩
 have hi:=ident_freeW hu ha hap
 have hwi:rl.row.toRowW.claim.within=[]:=List.isEmpty_iff.mp k6
 refine⟨vs,s₁,hlaid,?_⟩
 have key:∃s',Runs (jw w) Γ0 default (kq vs) [] s₁ HC s'/\OldK s₁.heap s'.heap/\s'.os=s₁.os/\AllBare s'.gens:=by
  have hwl:=L.well
  have hlo:=L.low G.low
  wrow_args hpre hlay hrd hwl hlo
  all_lens
  rename Heap.IsList _ _ _=>hL
  rename IntsAre _ _=>hI
  rename ¬(_:Int)<_=>hc
  obtain⟨ea,es⟩:=script_at L
  have et:=script_toks L y2
  have eo:=script_obj L hL
  rw [y1] at ea es
  have e244:(dA w.params).objs.size=244:=by rfl
  rw [e244] at ea es
  subst ea
  refine call w s₁ _ _ (fun b o e=>keeps b o (by rw [y1];exact e)) es eo hI (by lia) L.gens et
 obtain⟨s₂,hr,hK,hO,hB⟩:=key
 have g:GoodWG rl.row.toRowW.claim (classAt s.heap) (ExcName.means s.heap) args s₁ (.ok (.ret (.bool true))) s₂:=
  ⟨.inl ⟨_,_,[],rfl,fun _=>rfl,ReadsW.bool true,by wrow_post,fun _=>⟨nodup_nil,fun _ hm=>(nomatch hm)⟩⟩,hK,hO,hB⟩
 have z:=g.laid (c:=rl.row.toRowW.claim) hsame hwi hi L
 exact⟨_,s₂,hr,z.1,z.2.1,z.2.2,fun q=>by cases q⟩
theorem Ch(w:World):W2 w (w.params.followText "special-get-raises") (w.params.followText "comprehension-iter-twice")=w:=by
 unfold W2
 rw [World.withFollow_self,World.withFollow_self]
section
variable(P:Params)
include P
theorem xZ:(dA P).get? 140=some (bB []):=by rfl
theorem xz:(dA P).get? 147=some (bB []):=by rfl
theorem I8:∃o vs,(dA P).get? 144=some o/\o.cls=.type "code"/\o.data=.fields vs/\vs[11]? =some (.ref 140):=⟨_,_,rfl,rfl,rfl,rfl⟩
theorem I1:∃o vs,(dA P).get? 151=some o/\o.cls=.type "code"/\o.data=.fields vs/\vs[11]? =some (.ref 147):=⟨_,_,rfl,rfl,rfl,rfl⟩
theorem wv:(eD P).get 140=none/\(eD P).get 147=none/\(eD P).get 244=none:=⟨rfl,rfl,rfl⟩
theorem xe:∃o,(dA P).get? 3=some o/\∀(M:Model) (p:Pos) (s s':Shared) (k:Option Value->Sem Fin) (e:End),s.heap.get? 3=some o->Runs M Γ0 p (k (some (.ref 243))) [] s e s'->Runs M Γ0 p (nsGet mainNs rl.name>>=k) [] s e s':=by
 refine⟨_,rfl,fun M p s s' k e hs h=>?_⟩
 refine Runs.load hs ?_
 exact h
end
theorem Fk(w:World)(s:Shared)(ns:List Int)(its:List Value)(hk:∀b o,(dA w.params).get? b=some o->s.heap.get? b=some o)(hsz:s.heap.objs.size=245)
  (hl:s.heap.get? 244=some {cls:=.type "list",data:=.seq its.toArray}) (hI:IntsAre its ns) (h63:ns.length<=63) (hg:s.gens= #[]) (ht:677<=s.toks):
  ∃s',Runs (model pw w) Γ0 default (kq [.ref 244]) [] s (.ret (.ok (.ret (.bool true)))) s'/\OldK s.heap s'.heap/\s'.os=s.os/\AllBare s'.gens:=by
 have hv:aj its.toArray ns:=oj hI
 have hlen:its.toArray.size<=63:=by have:=hv.1;lia
 obtain⟨W,hW⟩:∃W:WW,w=Vw W:=⟨⟨w,_,_⟩,(Ch w).symm⟩
 subst hW
 obtain⟨bn1,bn2,bn3⟩:=wv (pW W)
 have hP:az (pW W) [(140,bB []),(147,bB []),(244,ab its.toArray 0)] s:=by
  refine⟨⟨fun a o e=>hk a o (tV e).2.2.2,(fun j x e=>by rw [hg] at e;simp at e),by lia,ht⟩,⟨hk _ _ (xZ _),hk _ _ (xz _),hl,trivial⟩,(by show [140,147,244].Nodup;decide),fun a ha=>?_⟩
  simp only [map_cons,map_nil,List.mem_cons,List.not_mem_nil,or_false] at ha
  rcases ha with rfl|rfl|rfl
  ·exact bn1
  ·exact bn2
  ·exact bn3
 refine Oe W default default its.toArray s ns hv hlen (fun B ds hB h7=>I2 hB ds h7) _ rfl hP fun n tb s' r1 r2 _ _ R rdy has K=>?_
 obtain⟨o3,e3,main⟩:=xe (pW W)
 refine⟨s',?_,?_,K.os,fun y hy=>?_⟩
 ·refine main (model pw (Vw W)) default s s' _ _ (hk _ _ e3) ?_
  exact Runs.call R Runs.done
 ·have keep:∀b o,s.heap.get? b=some o->b≠140->b≠147->s'.heap.get? b=some o:=fun b o e h1 h2=>by
   by_cases q:b=244
   ·subst q
    rw [show s.heap.get? 244=some (ab its.toArray 0) from hl] at e
    cases e;exact has.2.2.1
   ·exact K.keep b o e (by simp;exact⟨h1,h2,q⟩)
  refine⟨fun b o e=>?_,fun b o e=>?_⟩
  ·by_cases q1:b=140
   ·subst q1
    rw [hk _ _ (xZ _)] at e
    cases e
    obtain⟨o,vs,a1,a2,a3,a4⟩:=I8 (pW W)
    exact .inr (.inl ⟨⟨144,o,vs,hk _ _ a1,a2,a3,a4⟩,rfl, #[],⟨cC r1⟩,rfl,by rw [Array.empty_append];exact has.1⟩)
   ·by_cases q2:b=147
    ·subst q2
     rw [hk _ _ (xz _)] at e
     cases e
     obtain⟨o,vs,a1,a2,a3,a4⟩:=I1 (pW W)
     exact .inr (.inl ⟨⟨151,o,vs,hk _ _ a1,a2,a3,a4⟩,rfl, #[],⟨cE r2⟩,rfl,by rw [Array.empty_append];exact has.2.1⟩)
    ·exact .inl (keep b o e q1 q2)
  ·by_cases q1:b=140
   ·subst q1;exact⟨_,has.1⟩
   ·by_cases q2:b=147
    ·subst q2;exact⟨_,has.2.1⟩
    ·exact⟨_,keep b o e q1 q2⟩
 ·obtain⟨j,hj⟩:=List.mem_iff_getElem?.mp (Array.mem_toList_iff.mpr hy)
  rw [rdy.gens j y (by simpa using hj)];rfl
theorem done:rl.Holds:=Mq Fk
end
end
end Mine
theorem PySem.Challenge.cw_tr0049_01_holds : PySem.Challenge.rw_tr0049_01.Holds := by
  exact Mine.done
