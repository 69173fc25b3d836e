import PyProof.Rows.All
import PyProof.AutoIntG0
import PyProof.AutoIntG1
import PyProof.AutoIntG2
import PyProof.AutoIntG4
import PyProof.AutoIntG6
import PyProof.AutoIntG9
import PyProof.AutoListH
import PyProof.SliceList
import PyProof.MeetsStr
import PyProof.SumWalk
import PyProof.MeetsSeq
import PyProof.Draws
import PyProof.EnumMake
import PyProof.EqKinds
import PyProof.NeKinds
import PyProof.SliceStr
import PyProof.StrLawsIdx
import PyProof.SliceMore
import PyProof.StrReplace2
import KE.IntBitsLaws
import KE.KSortTup
import Wide.FinOn
import OpenK.AllK
import Wide.All
import PySem.Challenge.RW_tr0049_01
set_option maxRecDepth 100000
set_option linter.all false
set_option Elab.async false
set_option compiler.extract_closed false
set_option genSizeOf false
set_option genInjectivity false
set_option compiler.extract_closed false
set_option compiler.extract_closed false
set_option maxHeartbeats 0
open PySem PySem.W PySem.W.X PySem.W.SL
open List (append_assoc cons_subset_cons drop_drop eq_nil_of_length_eq_zero flatten_cons foldl_cons getD_eq_getElem?_getD getElem?_append_left getElem?_append_right getElem?_drop getElem?_inj getElem?_map getElem?_toArray getElem_map getElem_mem length_cons length_map length_range map_append map_cons map_map map_nil map_take mem_append_left mem_append_right mem_cons_of_mem mem_cons_self mem_of_getElem? nodup_nil pairwise_singleton range_succ size_toArray sum_cons take_of_length_le)
open Nat (eq_of_beq_eq_true le_add_right le_of_ble_eq_true le_of_eq lt_of_lt_of_le lt_or_ge mod_lt ne_of_lt zero_add zero_le)
open Int (add_mul dvd_zero mul_le_mul_of_nonneg_right natCast_nonneg toNat_of_nonneg)
open Array (getElem?_push getElem?_setIfInBounds getElem?_toList length_toList size_append)
open Option (bind_some map_some)
namespace Mine
noncomputable section
theorem gQ{G:Prop}(h:∀Q:Prop,(G->Q)->Q):G:=h G id
abbrev Rf{α:Type}(x:α):Prop:=x=x
noncomputable abbrev pw:Program:=PySem.Challenge.pw_tr0049_01
noncomputable def mu(i:Nat):Stmt:=(pw.main.body[i]?).getD (.Pass default)
noncomputable def kj(i j:Nat):Stmt:=match mu i with
 |.ClassDef _ _ _ b .. =>(b[j]?).getD (.Pass default)
 |s=>s
noncomputable def Do:Stmt->Arguments
 |.FunctionDef _ a .. =>a
 |_=>⟨[],[],none,[],[],none,[]⟩
noncomputable def Iu:Stmt->List Stmt
 |.FunctionDef _ _ b .. =>b
 |_=>[]
noncomputable def Dj:Stmt->Scope
 |.FunctionDef _ _ _ _ _ _ sc .. =>sc
 |_=>⟨.function,[],false,false,[]⟩
noncomputable abbrev QS(s:String):=s
abbrev q0:=QS s14018661285674007319x4
abbrev q1:="builtins.__doc__:str#opaque"
abbrev q2:="builtins.__package__:str#opaque"
abbrev q3:="builtins.__loader__:shared#opaque"
abbrev q4:=QS s11665532747177232413x24
abbrev q5:=QS s15183661809925369436x15
abbrev q6:=QS s13915890719876406383x10
abbrev q7:=QS s13459172003223722735x3
abbrev q8:=QS s10557405761357834076x3
abbrev q9:=QS s4233737765568776869x3
abbrev Ju:=QS s2508922471967985374x5
abbrev Js:=QS s15574269061696679450x3
abbrev QJ:=QS s6016482663378992977x10
abbrev Sm:=QS s5596568736180474577x8
abbrev RR:=QS s2839554839881490554x3
abbrev SF:=QS s725004073602090463x7
abbrev QR:=QS s9436932552931045734x7
abbrev Sy:=QS s2754603736356183583x3
abbrev Si:=QS s15185746759980889043x6
abbrev QI:=QS s8192189862530294059x4
abbrev Sd:=QS s7038307821325472102x4
abbrev Qo:=QS s5662562618415449548x6
abbrev Qb:=QS s15281542589158584767x7
abbrev S5:=QS s17651547275483570877x7
abbrev Sq:=QS s4036449017235975746x7
abbrev P5:=QS s8879979712987360175x4
abbrev Rw:=QS s1801250619170735830x3
abbrev Tl:=QS s17659931425627118568x2
abbrev Qv:=QS s6063217899685152688x5
abbrev Qd:=QS s8008927332132565319x10
abbrev R6:=QS s3544116645089599534x10
abbrev Sk:=QS s13761710972054866084x4
abbrev Qs:=QS s12896375587409280029x5
abbrev Sc:=QS s13014049009108672802x3
abbrev Q1:=QS s13935586738268321596x6
abbrev QB:=QS s8200498257699607233x3
abbrev Sa:=QS s14114244577727609259x3
abbrev SQ:=QS s1499430450269397089x4
abbrev Rc:=QS s8755793994789770505x5
abbrev QZ:=QS s15725212667919936108x3
abbrev R7:=QS s15791221867095933363x3
abbrev QK:=QS s81309575031448614x3
abbrev Su:=QS s8069831620301644142x5
abbrev SJ:=QS s10061844253413749634x4
abbrev SW:=QS s9496514870978017513x5
abbrev Q0:=QS s8899691144933366716x7
abbrev Sg:=QS s15201008993051130160x6
abbrev Rn:=QS s741896355592496720x3
abbrev Sp:=QS s17925004256654032244x4
abbrev P6:=QS s11695548795398191787x4
abbrev Qu:=QS s4156966113859768872x10
abbrev Qt:=QS s9501651726347032510x9
abbrev Sn:=QS s15722918466584999320x5
abbrev RQ:=QS s591115383303110208x11
abbrev RZ:=QS s15721156781594690315x7
abbrev RB:=QS s14340494229221121180x9
abbrev Qq:=QS s13429844117177748173x6
abbrev Q9:=QS s16463266125957815391x5
abbrev RY:=QS s4922535414793169389x9
abbrev QQ:=QS s8101838861749082086x8
abbrev Sl:=QS s7066276694103001551x3
abbrev Gi:=QS s9222952809800978799x4
abbrev Sz:=QS s462964344163437139x3
abbrev Ja:=QS s2742458400755230247x6
abbrev Po:=QS s1438033511350832697x5
abbrev Ql:=QS s14365286008749172514x8
abbrev Hy:=QS s3642769012341782148x3
abbrev S8:=QS s4674234679698826739x5
abbrev Rs:=QS s16656946322747308186x12
abbrev Re:=QS s10796804682411823810x3
abbrev K0:=QS s4290257624100764138x5
abbrev cn:=QS s2766695959194262286x5
abbrev Io:=QS s17162191345867700912x4
abbrev QT:=QS s14339709457334898076x3
abbrev Qz:=QS s4278001404047624695x13
abbrev RC:=QS s6585700554429387442x18
abbrev QD:=QS s5946037652744460706x9
abbrev Qj:=QS s7410770068591931388x13
abbrev ST:=QS s11817881795495490833x17
abbrev QU:=QS s15679963881808890155x10
abbrev Qi:=QS s3871700062485845797x15
abbrev RJ:=QS s7689518266570723881x14
abbrev RH:=QS s9001593270443806431x14
abbrev Rr:=QS s6882542574934516792x11
abbrev R0:=QS s14403400214490484960x8
abbrev Ss:=QS s14457978657717015782x11
abbrev QO:=QS s1753610191782819921x11
abbrev Th:=QS s14119380538032626715x11
abbrev QX:=QS s11437920000406562045x9
abbrev KW:=QS s10852414792293593619x7
abbrev R5:=QS s14816307405966870543x14
abbrev Sr:=QS s8682627914449686677x12
abbrev S7:=QS s4428170145600203450x18
abbrev Oa:=QS s5991306692159431302x13
abbrev Q8:=QS s16067994140765818257x11
abbrev Qh:=QS s2327743974964600596x11
abbrev Tf:=QS s2804747833354056582x9
abbrev SN:=QS s6070975301684473832x10
abbrev Qg:=QS s14270485950484850486x7
abbrev SX:=QS s12041534306414923332x18
abbrev Mm:=QS s2531307568338490285x13
abbrev KX:=QS s631175304937289666x17
abbrev ON:=QS s5144983644357021410x12
abbrev Ov:=QS s18039099521571816885x18
abbrev MD:=QS s6011586214260557989x15
abbrev NB:=QS s5430567037509283100x13
abbrev LA:=QS s8117915138073963741x13
abbrev Ow:=QS s3423317712779056401x25
abbrev M6:=QS s2007317383269046180x15
abbrev LI:=QS s17481586968713580700x14
abbrev Os:=QS s2450899226349176912x13
abbrev Oj:=QS s16626165730633575011x14
abbrev Nn:=QS s14288496050688921416x11
abbrev Of:=QS s5735081916595925998x15
abbrev MJ:=QS s3865607918536308442x17
abbrev Ob:=QS s13337502604062700212x15
abbrev Lz:=QS s13114017843053701147x15
abbrev Oh:=QS s17467278006356818441x17
abbrev Ll:=QS s17722149559621369488x16
abbrev LP:=QS s7855274175708717672x17
abbrev Oy:=QS s13351283678309829046x18
abbrev Nf:=QS s6668348653404991179x15
abbrev NT:=QS s12913350958174193794x18
abbrev OI:=QS s16115879512475548326x12
abbrev Nb:=QS s15920661018069861047x16
abbrev LQ:=QS s10779130036587390575x21
abbrev LJ:=QS s7801419657504700863x10
abbrev LR:=QS s1688129525768580628x8
abbrev MW:=QS s1031832959479892071x19
abbrev Mf:=QS s8991790508128307865x19
abbrev LX:=QS s14539662485746970245x23
abbrev MA:=QS s11643622729373238714x14
abbrev Lv:=QS s3386828779285465597x17
abbrev LN:=QS s13042696260734638735x12
abbrev OG:=QS s18239426817015966623x15
abbrev OR:=QS s1270395311379034370x22
abbrev N1:=QS s10696252587037064777x22
abbrev Ln:=QS s7852717498200857586x20
abbrev Lc:=QS s6377248116197321094x8
abbrev Nt:=QS s3834378056692298002x18
abbrev OW:=QS s17586630440231065808x18
abbrev N6:=QS s15234114252648025395x21
abbrev LY:=QS s8496462677383758984x14
abbrev Lb:=QS s16789243406116112673x4
abbrev LS:=QS s14400166428656793546x20
abbrev K8:=QS s5857708277339239366x20
abbrev Oc:="builtins.copyright#opaque"
abbrev Oq:="builtins.credits#opaque"
abbrev Mk:="builtins.license#opaque"
abbrev M5:=QS s7804999707787243718x20
abbrev Hw:=QS s7097527257260152453x26
abbrev HI:=QS s6658869562736209489x6
abbrev dn:=QS s5856160107412720595x4
abbrev B8:=QS s658472552662922059x5
abbrev dZ:=QS s7174869446012820540x8
abbrev Aj:=QS s11030030927630378310x26
abbrev Ik:=QS s10062305145149207511x16
abbrev NW:=QS s11443829558043349243x14
abbrev CA:=QS s14755015743595814543x17
abbrev H9:=QS s6511155373996960695x17
abbrev Ho:=QS s12411053484034534018x21
abbrev Ie:=QS s10220274742760427390x26
abbrev IC:=QS s4860613602091757760x24
abbrev KU:=QS s15660640913423913556x4
abbrev Nj:=QS s896114127876100448x12
abbrev NI:=QS s15992201931430999065x14
abbrev cp:=QS s3492446563574874994x13
noncomputable def S(l:List Nat):Str:=⟨⟨l⟩⟩
def s0:=S [95,95,110,97,109,101,95,95]
def s1:=S [98,117,105,108,116,105,110,115]
def s2:=S [95,95,100,111,99,95,95]
def s3:=S [95,95,112,97,99,107,97,103,101,95,95]
def s4:=S [95,95,108,111,97,100,101,114,95,95]
def s5:=S [95,95,115,112,101,99,95,95]
def s6:=S [95,95,98,117,105,108,100,95,99,108,97,115,115,95,95]
def s7:=S [95,95,105,109,112,111,114,116,95,95]
def s8:=S [97,98,115]
def s9:=S [97,108,108]
def S4:=S [97,110,121]
def QV:=S [97,115,99,105,105]
def P7:=S [98,105,110]
def Td:=S [98,114,101,97,107,112,111,105,110,116]
def Ri:=S [99,97,108,108,97,98,108,101]
def RD:=S [99,104,114]
def SA:=S [99,111,109,112,105,108,101]
def QE:=S [100,101,108,97,116,116,114]
def SG:=S [100,105,114]
def Tc:=S [100,105,118,109,111,100]
def R4:=S [101,118,97,108]
def Sb:=S [101,120,101,99]
def Se:=S [102,111,114,109,97,116]
def SZ:=S [103,101,116,97,116,116,114]
def QL:=S [103,108,111,98,97,108,115]
def SB:=S [104,97,115,97,116,116,114]
def SO:=S [104,97,115,104]
def RF:=S [104,101,120]
def Te:=S [105,100]
def Tj:=S [105,110,112,117,116]
def QF:=S [105,115,105,110,115,116,97,110,99,101]
def RU:=S [105,115,115,117,98,99,108,97,115,115]
def Qa:=S [105,116,101,114]
def Sf:=S [97,105,116,101,114]
def QH:=S [108,101,110]
def QP:=S [108,111,99,97,108,115]
def SE:=S [109,97,120]
def Ro:=S [109,105,110]
def Sh:=S [110,101,120,116]
def SP:=S [97,110,101,120,116]
def Tb:=S [111,99,116]
def Rg:=S [111,114,100]
def RA:=S [112,111,119]
def RG:=S [112,114,105,110,116]
def SI:=S [114,101,112,114]
def QA:=S [114,111,117,110,100]
def Rq:=S [115,101,116,97,116,116,114]
def Q4:=S [115,111,114,116,101,100]
def R1:=S [115,117,109]
def S9:=S [118,97,114,115]
def P9:=S [78,111,110,101]
def PX:=S [69,108,108,105,112,115,105,115]
def Pm:=S [78,111,116,73,109,112,108,101,109,101,110,116,101,100]
def Pe:=S [70,97,108,115,101]
def O3:=S [84,114,117,101]
def RI:=S [98,111,111,108]
def RT:=S [109,101,109,111,114,121,118,105,101,119]
def QY:=S [98,121,116,101,97,114,114,97,121]
def Qy:=S [98,121,116,101,115]
def Rv:=S [99,108,97,115,115,109,101,116,104,111,100]
def SR:=S [99,111,109,112,108,101,120]
def Qe:=S [100,105,99,116]
def Q2:=S [101,110,117,109,101,114,97,116,101]
def Rt:=S [102,105,108,116,101,114]
def Sw:=S [102,108,111,97,116]
def Rx:=S [102,114,111,122,101,110,115,101,116]
def SU:=S [112,114,111,112,101,114,116,121]
def Qn:=S [105,110,116]
def P0:=S [108,105,115,116]
def Sj:=S [109,97,112]
def P4:=S [111,98,106,101,99,116]
def RO:=S [114,97,110,103,101]
def SV:=S [114,101,118,101,114,115,101,100]
def RK:=S [115,101,116]
def Q6:=S [115,108,105,99,101]
def Rb:=S [115,116,97,116,105,99,109,101,116,104,111,100]
def RN:=S [115,116,114]
def QW:=S [115,117,112,101,114]
def Ru:=S [116,117,112,108,101]
def Qf:=S [116,121,112,101]
def R9:=S [122,105,112]
def PP:=S [95,95,100,101,98,117,103,95,95]
def QC:=S [66,97,115,101,69,120,99,101,112,116,105,111,110]
def Rp:=S [66,97,115,101,69,120,99,101,112,116,105,111,110,71,114,111,117,112]
def S6:=S [69,120,99,101,112,116,105,111,110]
def Qm:=S [71,101,110,101,114,97,116,111,114,69,120,105,116]
def RE:=S [75,101,121,98,111,97,114,100,73,110,116,101,114,114,117,112,116]
def Rm:=S [83,121,115,116,101,109,69,120,105,116]
def QM:=S [65,114,105,116,104,109,101,116,105,99,69,114,114,111,114]
def RX:=S [65,115,115,101,114,116,105,111,110,69,114,114,111,114]
def RW:=S [65,116,116,114,105,98,117,116,101,69,114,114,111,114]
def Tm:=S [66,117,102,102,101,114,69,114,114,111,114]
def Qk:=S [69,79,70,69,114,114,111,114]
def Sv:=S [73,109,112,111,114,116,69,114,114,111,114]
def So:=S [76,111,111,107,117,112,69,114,114,111,114]
def Q5:=S [77,101,109,111,114,121,69,114,114,111,114]
def QN:=S [78,97,109,101,69,114,114,111,114]
def RP:=S [79,83,69,114,114,111,114]
def QG:=S [82,101,102,101,114,101,110,99,101,69,114,114,111,114]
def P8:=S [82,117,110,116,105,109,101,69,114,114,111,114]
def Mc:=S [83,116,111,112,65,115,121,110,99,73,116,101,114,97,116,105,111,110]
def My:=S [83,116,111,112,73,116,101,114,97,116,105,111,110]
def MQ:=S [83,121,110,116,97,120,69,114,114,111,114]
def On:=S [83,121,115,116,101,109,69,114,114,111,114]
def OV:=S [84,121,112,101,69,114,114,111,114]
def MH:=S [86,97,108,117,101,69,114,114,111,114]
def N9:=S [87,97,114,110,105,110,103]
def Lr:=S [70,108,111,97,116,105,110,103,80,111,105,110,116,69,114,114,111,114]
def MS:=S [79,118,101,114,102,108,111,119,69,114,114,111,114]
def Lu:=S [90,101,114,111,68,105,118,105,115,105,111,110,69,114,114,111,114]
def NC:=S [66,121,116,101,115,87,97,114,110,105,110,103]
def OJ:=S [68,101,112,114,101,99,97,116,105,111,110,87,97,114,110,105,110,103]
def N7:=S [69,110,99,111,100,105,110,103,87,97,114,110,105,110,103]
def M1:=S [70,117,116,117,114,101,87,97,114,110,105,110,103]
def Li:=S [73,109,112,111,114,116,87,97,114,110,105,110,103]
def ME:=S [80,101,110,100,105,110,103,68,101,112,114,101,99,97,116,105,111,110,87,97,114,110,105,110,103]
def M8:=S [82,101,115,111,117,114,99,101,87,97,114,110,105,110,103]
def LL:=S [82,117,110,116,105,109,101,87,97,114,110,105,110,103]
def Mq:=S [83,121,110,116,97,120,87,97,114,110,105,110,103]
def L7:=S [85,110,105,99,111,100,101,87,97,114,110,105,110,103]
def L4:=S [85,115,101,114,87,97,114,110,105,110,103]
def MB:=S [66,108,111,99,107,105,110,103,73,79,69,114,114,111,114]
def NH:=S [67,104,105,108,100,80,114,111,99,101,115,115,69,114,114,111,114]
def NA:=S [67,111,110,110,101,99,116,105,111,110,69,114,114,111,114]
def OC:=S [70,105,108,101,69,120,105,115,116,115,69,114,114,111,114]
def LT:=S [70,105,108,101,78,111,116,70,111,117,110,100,69,114,114,111,114]
def KQ:=S [73,110,116,101,114,114,117,112,116,101,100,69,114,114,111,114]
def MG:=S [73,115,65,68,105,114,101,99,116,111,114,121,69,114,114,111,114]
def Lh:=S [78,111,116,65,68,105,114,101,99,116,111,114,121,69,114,114,111,114]
def Mw:=S [80,101,114,109,105,115,115,105,111,110,69,114,114,111,114]
def Ni:=S [80,114,111,99,101,115,115,76,111,111,107,117,112,69,114,114,111,114]
def NQ:=S [84,105,109,101,111,117,116,69,114,114,111,114]
def Ns:=S [73,110,100,101,110,116,97,116,105,111,110,69,114,114,111,114]
def OA:=S [95,73,110,99,111,109,112,108,101,116,101,73,110,112,117,116,69,114,114,111,114]
def LC:=S [73,110,100,101,120,69,114,114,111,114]
def M9:=S [75,101,121,69,114,114,111,114]
def L0:=S [77,111,100,117,108,101,78,111,116,70,111,117,110,100,69,114,114,111,114]
def LG:=S [78,111,116,73,109,112,108,101,109,101,110,116,101,100,69,114,114,111,114]
def NP:=S [80,121,116,104,111,110,70,105,110,97,108,105,122,97,116,105,111,110,69,114,114,111,114]
def NK:=S [82,101,99,117,114,115,105,111,110,69,114,114,111,114]
def KV:=S [85,110,98,111,117,110,100,76,111,99,97,108,69,114,114,111,114]
def L6:=S [85,110,105,99,111,100,101,69,114,114,111,114]
def Md:=S [66,114,111,107,101,110,80,105,112,101,69,114,114,111,114]
def Ng:=S [67,111,110,110,101,99,116,105,111,110,65,98,111,114,116,101,100,69,114,114,111,114]
def LZ:=S [67,111,110,110,101,99,116,105,111,110,82,101,102,117,115,101,100,69,114,114,111,114]
def NY:=S [67,111,110,110,101,99,116,105,111,110,82,101,115,101,116,69,114,114,111,114]
def Lm:=S [84,97,98,69,114,114,111,114]
def Mx:=S [85,110,105,99,111,100,101,68,101,99,111,100,101,69,114,114,111,114]
def KS:=S [85,110,105,99,111,100,101,69,110,99,111,100,101,69,114,114,111,114]
def Nc:=S [85,110,105,99,111,100,101,84,114,97,110,115,108,97,116,101,69,114,114,111,114]
def MU:=S [69,120,99,101,112,116,105,111,110,71,114,111,117,112]
def Mp:=S [69,110,118,105,114,111,110,109,101,110,116,69,114,114,111,114]
def Lk:=S [73,79,69,114,114,111,114]
def Nk:=S [111,112,101,110]
def La:=S [113,117,105,116]
def L9:=S [101,120,105,116]
def K5:=S [99,111,112,121,114,105,103,104,116]
def MP:=S [99,114,101,100,105,116,115]
def LO:=S [108,105,99,101,110,115,101]
def Na:=S [104,101,108,112]
def Bc:=S [95,95,109,97,105,110,95,95]
def r4:=S [108,97,119,95,116,114,48,48,52,57,95,48,49]
def Im:=S [95,95,97,110,110,111,116,97,116,105,111,110,115,95,95]
def HZ:=S [95,95,98,117,105,108,116,105,110,115,95,95]
def HB:=S [95,95,102,105,108,101,95,95]
def dg:=S [47,99,108,97,105,109,47,99,117,116,46,112,121]
def HM:=S [95,95,99,97,99,104,101,100,95,95]
def wP:=S [95,119,97,108,108]
def Ir:=S [78,76]
def Hk:=S [10]
def HN:=S [69,77,80,84,89,83,84,82,73,78,71]
def HS:=S []
def qh:=S [95,86,97,108,117,101,70,111,114,109,97,116,116,101,114]
def pK:=S [95,65,99,99,117,109,117,108,97,116,111,114]
def yX:=S [114,103,98,95,116,111,95,104,115,118]
def KZ:=S [99,57,95,115,101,116]
def zN:=S [105,110,95,116,97,98,108,101,95,99,57]
def BC:=S [95,108,97,119,95,108,105,110,101,115]
def Bv:=S [95,108,97,119,95,112,111,105,110,116,115]
def Cz:=S [95,108,97,119,95,104,117,101]
def CP:=S [95,108,97,119,95,115,116,101,112,115]
def zT:=S [95,108,97,119,95,110,111,110,101,95,98,101,108,111,119]
def Bx:=S [108,97,119]
def Hv:=S [60,109,111,100,117,108,101,62]
def Me:=S [107]
def zZ:=S [95,95,109,111,100,117,108,101,95,95]
def eJ:=S [99,112,121,51,49,51,46,101,109,97,105,108,46,104,101,97,100,101,114]
def Iw:=S [95,95,113,117,97,108,110,97,109,101,95,95]
def pF:=S [95,95,102,105,114,115,116,108,105,110,101,110,111,95,95]
def mq:=S [95,95,105,110,105,116,95,95]
def zi:=S [95,115,116,114]
def mo:=S [95,95,115,116,114,95,95]
def xD:=S [110,101,119,108,105,110,101]
def xg:=S [97,100,100,95,116,114,97,110,115,105,116,105,111,110]
def xO:=S [102,101,101,100]
def yS:=S [95,109,97,120,108,101,110,103,116,104,115]
def xL:=S [95,97,115,99,105,105,95,115,112,108,105,116]
def xw:=S [95,97,112,112,101,110,100,95,99,104,117,110,107]
def Ad:=S [95,95,115,116,97,116,105,99,95,97,116,116,114,105,98,117,116,101,115,95,95]
def gG:=S [115,101,108,102]
def Ou:=S [104,101,97,100,101,114,108,101,110]
def Nv:=S [109,97,120,108,101,110]
def NF:=S [99,111,110,116,105,110,117,97,116,105,111,110,95,119,115]
def IG:=S [115,112,108,105,116,99,104,97,114,115]
def EF:=S [95,86,97,108,117,101,70,111,114,109,97,116,116,101,114,46,95,95,105,110,105,116,95,95]
def MC:=S [108,105,110,101,115,101,112]
def F6:=S [95,86,97,108,117,101,70,111,114,109,97,116,116,101,114,46,95,115,116,114]
def D0:=S [95,86,97,108,117,101,70,111,114,109,97,116,116,101,114,46,95,95,115,116,114,95,95]
def NZ:=S [101,110,100,95,111,102,95,108,105,110,101]
def Fr:=S [95,86,97,108,117,101,70,111,114,109,97,116,116,101,114,46,110,101,119,108,105,110,101]
def Fm:=S [95,86,97,108,117,101,70,111,114,109,97,116,116,101,114,46,97,100,100,95,116,114,97,110,115,105,116,105,111,110]
def zV:=S [102,119,115]
def BE:=S [115,116,114,105,110,103]
def MZ:=S [99,104,97,114,115,101,116]
def Ei:=S [95,86,97,108,117,101,70,111,114,109,97,116,116,101,114,46,102,101,101,100]
def EC:=S [95,86,97,108,117,101,70,111,114,109,97,116,116,101,114,46,95,109,97,120,108,101,110,103,116,104,115]
def FM:=S [95,86,97,108,117,101,70,111,114,109,97,116,116,101,114,46,95,97,115,99,105,105,95,115,112,108,105,116]
def Ft:=S [95,86,97,108,117,101,70,111,114,109,97,116,116,101,114,46,95,97,112,112,101,110,100,95,99,104,117,110,107]
noncomputable abbrev Pf:=[95,99,111,110,116,105,110,117,97,116,105,111,110,95,119,115]
def Ny:Str:=S Pf
noncomputable abbrev Pt:=[95,99,111,110,116,105,110,117,97,116,105,111,110,95,119,115,95,108,101,110]
def Mv:Str:=S Pt
def Ly:=S [95,99,117,114,114,101,110,116,95,108,105,110,101]
def LW:=S [95,108,105,110,101,115]
def M2:=S [95,109,97,120,108,101,110]
def MN:=S [95,115,112,108,105,116,99,104,97,114,115]
def AH:=S [95,95,100,105,99,116,95,95]
def CF:=S [95,95,119,101,97,107,114,101,102,95,95]
def xN:=S [112,117,115,104]
def yo:=S [112,111,112,95,102,114,111,109]
def wR:=S [112,111,112]
def yJ:=S [95,95,108,101,110,95,95]
def yU:=S [114,101,115,101,116]
def yL:=S [105,115,95,111,110,108,121,119,115]
def yO:=S [112,97,114,116,95,99,111,117,110,116]
def Mt:=S [95,95,99,108,97,115,115,99,101,108,108,95,95]
def wg:=S [95,95,99,108,97,115,115,95,95]
def K6:=S [105,110,105,116,105,97,108,95,115,105,122,101]
def ED:=S [95,65,99,99,117,109,117,108,97,116,111,114,46,95,95,105,110,105,116,95,95]
def EG:=S [95,65,99,99,117,109,117,108,97,116,111,114,46,112,117,115,104]
def NR:=S [105]
def GD:=S [95,65,99,99,117,109,117,108,97,116,111,114,46,112,111,112,95,102,114,111,109]
def D9:=S [95,65,99,99,117,109,117,108,97,116,111,114,46,112,111,112]
def Ea:=S [95,65,99,99,117,109,117,108,97,116,111,114,46,95,95,108,101,110,95,95]
def Fc:=S [95,65,99,99,117,109,117,108,97,116,111,114,46,95,95,115,116,114,95,95]
def NJ:=S [115,116,97,114,116,118,97,108]
def F5:=S [95,65,99,99,117,109,117,108,97,116,111,114,46,114,101,115,101,116]
def E6:=S [95,65,99,99,117,109,117,108,97,116,111,114,46,105,115,95,111,110,108,121,119,115]
def EN:=S [95,65,99,99,117,109,117,108,97,116,111,114,46,112,97,114,116,95,99,111,117,110,116]
noncomputable abbrev OB:=[95,105,110,105,116,105,97,108,95,115,105,122,101]
def OS:Str:=S OB
def LB:=S [114]
def NX:=S [103]
def Nr:=S [98]
def N2:=S [109,97,120,99]
def Ld:=S [109,105,110,99]
def Oz:=S [114,97,110,103,101,99]
def Or:=S [118]
def Nu:=S [115]
def Lt:=S [114,99]
def Mu:=S [103,99]
def OD:=S [98,99]
def Ot:=S [104]
def OT:=S [99,112,121,51,49,51,46,99,111,108,111,114,115,121,115]
def LK:=S [99,111,100,101]
def II:=S [99,112,121,51,49,51,46,115,116,114,105,110,103,112,114,101,112]
def LU:=S [115,105,103,110,115]
def Mb:=S [114,111,119,115]
noncomputable abbrev Dw:=[115,105,103,110]
noncomputable abbrev DM:=Dw
def N5:Str:=S DM
noncomputable abbrev C1:=[115,116,101,112]
noncomputable abbrev J4:=C1
def L3:Str:=S J4
noncomputable abbrev wI:=[112,111,105,110,116,115]
noncomputable abbrev Yq:=wI
def Nw:Str:=S Yq
def ND:=S [101,100,103,101]
noncomputable abbrev my:=[112,108,97,99,101]
def NS:Str:=S my
def Og:=S [104,101,105,103,104,116]
noncomputable abbrev wz:=[97,99,114,111,115,115]
noncomputable abbrev mf:=wz
def Lp:Str:=S mf
noncomputable abbrev wZ:=[117,112]
noncomputable abbrev wB:=wZ
def M3:Str:=S wB
def Nq:=S [120]
def NE:=S [121]
noncomputable abbrev Yn a:=Value.type a
noncomputable abbrev Ys a:=Value.ref a
noncomputable def b0:List Value:=[(Ys 178),(Yn Gi),(Yn Ja)]
noncomputable abbrev Y4 a b c d:=DictEntry.mk (PyData.keyHash a b) (Value.str b d) (Value.type c)
noncomputable abbrev Yb a b:=Value.str a b
noncomputable abbrev Yg a b:=PyData.keyHash a b
noncomputable abbrev uV a:=Value.builtin a
noncomputable abbrev dP a b c d:=DictEntry.mk (Yg a b) (Yb b d) (uV c)
noncomputable abbrev rr a b c d e:=DictEntry.mk (Yg a b) (Yb b d) (Yb c e)
noncomputable abbrev xZ a b c:=DictEntry.mk (Yg a b) (Yb b c) Value.none
noncomputable abbrev GF:=Value.bool Bool.true
def o0(P:Params):=Obj.mk (Yn q0) none (Data.dict ⟨[(rr P s0 s1 1 160),(dP P s2 q1 2),(dP P s3 q2 3),(dP P s4 q3 4),(dP P s5 q4 5),(dP P s6 q5 6),(dP P s7 q6 7),(dP P s8 q7 8),(dP P s9 q8 9),(dP P S4 q9 10),(dP P QV Ju 11),(dP P P7 Js 12),(dP P Td QJ 13),(dP P Ri Sm 14),(dP P RD RR 15),(dP P SA SF 16),(dP P QE QR 17),(dP P SG Sy 18),(dP P Tc Si 19),(dP P R4 QI 20),(dP P Sb Sd 21),(dP P Se Qo 22),(dP P SZ Qb 23),(dP P QL S5 24),(dP P SB Sq 25),(dP P SO P5 26),(dP P RF Rw 27),(dP P Te Tl 28),(dP P Tj Qv 29),(dP P QF Qd 30),(dP P RU R6 31),(dP P Qa Sk 32),(dP P Sf Qs 33),(dP P QH Sc 34),(dP P QP Q1 35),(dP P SE QB 36),(dP P Ro Sa 37),(dP P Sh SQ 38),(dP P SP Rc 39),(dP P Tb QZ 40),(dP P Rg R7 41),(dP P RA QK 42),(dP P RG Su 43),(dP P SI SJ 44),(dP P QA SW 45),(dP P Rq Q0 46),(dP P Q4 Sg 47),(dP P R1 Rn 48),(dP P S9 Sp 49),(xZ P P9 50),(DictEntry.mk (Yg P PX) (Yb PX 51) Value.ellipsis),(DictEntry.mk (Yg P Pm) (Yb Pm 52) Value.notImplemented),(DictEntry.mk (Yg P Pe) (Yb Pe 53) (Value.bool Bool.false)),(DictEntry.mk (Yg P O3) (Yb O3 54) GF),(Y4 P RI P6 55),(Y4 P RT Qu 56),(Y4 P QY Qt 57),(Y4 P Qy Sn 58),(Y4 P Rv RQ 59),(Y4 P SR RZ 60),(Y4 P Qe q0 61),(Y4 P Q2 RB 62),(Y4 P Rt Qq 63),(Y4 P Sw Q9 64),(Y4 P Rx RY 65),(Y4 P SU QQ 66),(Y4 P Qn Sl 67),(Y4 P P0 Gi 68),(Y4 P Sj Sz 69),(Y4 P P4 Ja 70),(Y4 P RO Po 71),(Y4 P SV Ql 72),(Y4 P RK Hy 73),(Y4 P Q6 S8 74),(Y4 P Rb Rs 75),(Y4 P RN Re 76),(Y4 P QW K0 77),(Y4 P Ru cn 78),(Y4 P Qf Io 79),(Y4 P R9 QT 80),(DictEntry.mk (Yg P PP) (Yb PP 81) GF),(Y4 P QC Qz 82),(Y4 P Rp RC 83),(Y4 P S6 QD 84),(Y4 P Qm Qj 85),(Y4 P RE ST 86),(Y4 P Rm QU 87),(Y4 P QM Qi 88),(Y4 P RX RJ 89),(Y4 P RW RH 90),(Y4 P Tm Rr 91),(Y4 P Qk R0 92),(Y4 P Sv Ss 93),(Y4 P So QO 94),(Y4 P Q5 Th 95),(Y4 P QN QX 96),(Y4 P RP KW 97),(Y4 P QG R5 98),(Y4 P P8 Sr 99),(Y4 P Mc S7 100),(Y4 P My Oa 101),(Y4 P MQ Q8 102),(Y4 P On Qh 103),(Y4 P OV Tf 104),(Y4 P MH SN 105),(Y4 P N9 Qg 106),(Y4 P Lr SX 107),(Y4 P MS Mm 108),(Y4 P Lu KX 109),(Y4 P NC ON 110),(Y4 P OJ Ov 111),(Y4 P N7 MD 112),(Y4 P M1 NB 113),(Y4 P Li LA 114),(Y4 P ME Ow 115),(Y4 P M8 M6 116),(Y4 P LL LI 117),(Y4 P Mq Os 118),(Y4 P L7 Oj 119),(Y4 P L4 Nn 120),(Y4 P MB Of 121),(Y4 P NH MJ 122),(Y4 P NA Ob 123),(Y4 P OC Lz 124),(Y4 P LT Oh 125),(Y4 P KQ Ll 126),(Y4 P MG LP 127),(Y4 P Lh Oy 128),(Y4 P Mw Nf 129),(Y4 P Ni NT 130),(Y4 P NQ OI 131),(Y4 P Ns Nb 132),(Y4 P OA LQ 133),(Y4 P LC LJ 134),(Y4 P M9 LR 135),(Y4 P L0 MW 136),(Y4 P LG Mf 137),(Y4 P NP LX 138),(Y4 P NK MA 139),(Y4 P KV Lv 140),(Y4 P L6 LN 141),(Y4 P Md OG 142),(Y4 P Ng OR 143),(Y4 P LZ N1 144),(Y4 P NY Ln 145),(Y4 P Lm Lc 146),(Y4 P Mx Nt 147),(Y4 P KS OW 148),(Y4 P Nc N6 149),(Y4 P MU LY 150),(Y4 P Mp KW 151),(Y4 P Lk KW 152),(dP P Nk Lb 153),(dP P La LS 154),(dP P L9 K8 155),(dP P K5 Oc 156),(dP P MP Oq 157),(dP P LO Mk 158),(dP P Na M5 159)]⟩ 159) ⟨[]⟩
noncomputable abbrev Ya a b c d:=DictEntry.mk (PyData.keyHash a b) (Value.str b c) (Value.ref d)
def o1(P:Params):=Obj.mk (Yn q0) none (Data.dict ⟨[(Ya P s1 162 4),(Ya P Bc 163 5)]⟩ 2) ⟨[]⟩
noncomputable def o2(P:Params):=Obj.mk Value.none none (Data.dict ⟨[]⟩ 0) ⟨[]⟩
def o3(P:Params):=Obj.mk (Yn q0) none (Data.dict ⟨[(rr P s0 r4 165 627),(xZ P s2 166),(xZ P s3 167),(dP P s4 Hw 168),(xZ P s5 169),(Ya P Im 170 6),(Ya P HZ 171 4),(rr P HB dg 173 172),(xZ P HM 174),(Ya P wP 193 21),(rr P Ir Hk 197 196),(rr P HN HS 199 198),(Ya P qh 302 94),(Ya P pK 397 178),(Ya P yX 417 189),(Ya P KZ 619 197),(Ya P zN 626 207),(Ya P BC 637 214),(Ya P Bv 643 219),(Ya P Cz 650 226),(Ya P CP 656 231),(Ya P zT 670 238),(Ya P Bx 676 243)]⟩ 23) ⟨[]⟩
def o4(P:Params):=Obj.mk (Yn HI) (some 0) Data.plain ⟨[]⟩
def o5(P:Params):=Obj.mk (Yn HI) (some 3) Data.plain ⟨[]⟩
def o6(P:Params):=Obj.mk (Yn q0) none (Data.dict ⟨[]⟩ 0) ⟨[]⟩
noncomputable abbrev Yl a:=Obj.mk (Value.type a) none (Data.seq ⟨[]⟩ 0) ⟨[]⟩
def o7(P:Params):Obj:=(Yl cn)
noncomputable abbrev jy:=Obj.mk Value.none none (Data.fields ⟨[]⟩) ⟨[]⟩
noncomputable def o8(P:Params):Obj:=jy
noncomputable abbrev Yj a b:=Value.int a b
noncomputable abbrev IN a b c d e f g h i j k l:=Obj.mk (Yn a) none (Data.fields ⟨[(Yb b d),(Yb b e),(Yb c f),(Yj g 0),(Yj 0 0),(Yj 0 0),(Yj 0 0),(Yj 0 0),(Ys h),(Value.bool Bool.false),(Yj i 0),(Ys j),Value.none,Value.none,Value.none,Value.none,(Yj k 0),(Yj g 0),(Yb c l)]⟩) ⟨[]⟩
def o9(P:Params):Obj:=(IN dn Hv dg 176 177 178 1 7 175 8 179 180)
noncomputable abbrev Kr a b c d e:=Obj.mk (Yn a) none Data.plain ⟨[(some (Ys c)),(some (Ys 3)),(some (Ys d)),none,(some (Yb b e)),none,(some (Ys 0))]⟩
def IS(P:Params):Obj:=(Kr B8 Bc 9 3 164)
def JP(P:Params):Obj:=(Yl cn)
noncomputable def NG(P:Params):=Obj.mk Value.none none (Data.fields ⟨[(Yj 1 0),(Yj 0 0),(Ys 20),(Yj 7 0),(Yj 0 0),(Ys 27),(Yj 49 0),(Yj 0 0),(Ys 105),(Yj 84 0),(Yj 0 0),(Ys 188),(Yj 105 0),(Yj 0 0),(Ys 206),(Yj 108 0),(Yj 0 0),(Ys 213),(Yj 115 0),(Yj 0 0),(Ys 218),(Yj 131 0),(Yj 0 0),(Ys 225),(Yj 133 0),(Yj 0 0),(Ys 230),(Yj 144 0),(Yj 0 0),(Ys 237),(Yj 152 0),(Yj 0 0),(Ys 242)]⟩) ⟨[]⟩
def Ke(P:Params):Obj:=(IN dn Hv dg 182 183 184 1 11 181 12 185 186)
def KL(P:Params):Obj:=(Kr B8 Bc 13 3 164)
def KI(P:Params):Obj:=(Yl cn)
noncomputable def JJ(P:Params):Obj:=jy
noncomputable abbrev rK a b c:=Obj.mk (Yn a) none (Data.seq ⟨[(Yb b c)]⟩ 0) ⟨[]⟩
def IZ(P:Params):Obj:=(rK cn Me 190)
def Jb(P:Params):Obj:=(Yl cn)
abbrev Yv a b:=Obj.mk Value.none none (Data.func (FuncData.mk a a (Do (mu b)) (FuncBody.stmts (Iu (mu b))) (Dj (mu b)) 0 [] Value.none Value.none Value.none Value.none none Value.none Value.none 0)) ⟨[]⟩
def Ky(P:Params):Obj:=(Yv wP 0)
noncomputable abbrev GT a b c d e f g h i j k l m o p:=Obj.mk (Yn a) none (Data.fields ⟨[(Yb b d),(Yb b e),(Yb c f),(Yj g 0),(Yj h 0),(Yj 0 0),(Yj 0 0),(Yj 3 0),(Ys i),GF,(Yj 181 0),(Ys j),Value.none,(Ys k),(Ys l),(Ys m),(Yj o 0),(Yj g 0),(Yb c p)]⟩) ⟨[]⟩
def Jr(P:Params):Obj:=(GT dn wP dg 187 188 189 1 1 15 16 17 18 19 191 192)
abbrev CO a b c d e f:=Obj.mk (Yn a) none (Data.func (FuncData.mk b b (Do (mu d)) (FuncBody.stmts (Iu (mu d))) (Dj (mu d)) 3 [] Value.none Value.none Value.none (Yb c e) none (Ys f) Value.none 0)) ⟨[]⟩
def Ki(P:Params):Obj:=(CO dZ wP Bc 0 164 20)
def J3(P:Params):Obj:=(Yl cn)
def Ks(P:Params):=Obj.mk (Yn Aj) none (Data.fields ⟨[(uV Ik),(Yn Io)]⟩) ⟨[]⟩
def Kq(P:Params):=Obj.mk (Yn q0) none (Data.dict ⟨[(rr P zZ eJ 207 194),(rr P Iw qh 209 208),(DictEntry.mk (Yg P pF) (Yb pF 211) (Yj 7 210)),(Ya P mq 222 35),(Ya P zi 230 42),(Ya P mo 237 49),(Ya P xD 245 56),(Ya P xg 252 63),(Ya P xO 262 70),(Ya P yS 269 77),(Ya P xL 279 84),(Ya P xw 288 91),(Ya P Ad 295 92)]⟩ 13) ⟨[]⟩
def Jm(P:Params):Obj:=(Yl cn)
noncomputable def JR(P:Params):=Obj.mk Value.none none (Data.fields ⟨[(Yj 9 0),(Yj 4 0),(Ys 34),(Yj 17 0),(Yj 4 0),(Ys 41),(Yj 21 0),(Yj 4 0),(Ys 48),(Yj 24 0),(Yj 4 0),(Ys 55),(Yj 35 0),(Yj 4 0),(Ys 62),(Yj 38 0),(Yj 4 0),(Ys 69),(Yj 41 0),(Yj 4 0),(Ys 76),(Yj 44 0),(Yj 4 0),(Ys 83),(Yj 47 0),(Yj 4 0),(Ys 90)]⟩) ⟨[]⟩
def Jl(P:Params):Obj:=(IN dn qh dg 202 203 204 7 25 181 26 205 206)
def JF(P:Params):Obj:=(Kr B8 eJ 27 24 194)
def JQ(P:Params):Obj:=(Yl cn)
noncomputable def Je(P:Params):Obj:=jy
def Kl(P:Params):=Obj.mk (Yn cn) none (Data.seq ⟨[(Yb gG 215),(Yb Ou 216),(Yb Nv 217),(Yb NF 218),(Yb IG 219)]⟩ 0) ⟨[]⟩
def Kd(P:Params):Obj:=(Yl cn)
abbrev Yd a b c d e:=Obj.mk Value.none none (Data.func (FuncData.mk a b (Do (kj c d)) (FuncBody.stmts (Iu (kj c d))) (Dj (kj c e)) 0 [] Value.none Value.none Value.none Value.none none Value.none Value.none 0)) ⟨[]⟩
def Ko(P:Params):Obj:=(Yd mq EF 4 0 0)
noncomputable abbrev Y3 a b c d e f g h i j k l m o p q:=Obj.mk (Value.type a) none (Data.fields ⟨[(Value.str b e),(Value.str c f),(Value.str d g),(Value.int h 0),(Value.int i 0),(Value.int 0 0),(Value.int 0 0),(Value.int 3 0),(Value.ref j),GF,(Value.int 181 0),(Value.ref k),Value.none,(Value.ref l),(Value.ref m),(Value.ref o),(Value.int p 0),(Value.int h 0),(Value.str d q)]⟩) ⟨[]⟩
def IW(P:Params):Obj:=(Y3 dn mq EF dg 212 213 214 9 5 29 30 31 32 33 220 221)
abbrev JA a b:=FuncBody.stmts (Iu (kj a b))
abbrev ug a b c d e f g:=Obj.mk (Yn a) none (Data.func (FuncData.mk b c (Do (kj e f)) (JA e f) (Dj (kj e f)) 3 [] Value.none Value.none Value.none (Yb d 194) none (Ys g) Value.none 0)) ⟨[]⟩
def Jy(P:Params):Obj:=(ug dZ mq EF eJ 4 0 34)
def JH(P:Params):Obj:=(Yl cn)
noncomputable def JM(P:Params):Obj:=jy
noncomputable abbrev HE a b c d e:=Obj.mk (Yn a) none (Data.seq ⟨[(Yb b d),(Yb c e)]⟩ 0) ⟨[]⟩
def Ka(P:Params):Obj:=(HE cn gG MC 226 227)
def KG(P:Params):Obj:=(Yl cn)
def Kj(P:Params):Obj:=(Yd zi F6 4 1 1)
def Kx(P:Params):Obj:=(Y3 dn zi F6 dg 223 224 225 17 2 36 37 38 39 40 228 229)
def Kg(P:Params):Obj:=(ug dZ zi F6 eJ 4 1 41)
def IV(P:Params):Obj:=(Yl cn)
noncomputable def I2(P:Params):Obj:=jy
def J2(P:Params):Obj:=(rK cn gG 234)
def Jf(P:Params):Obj:=(Yl cn)
def KC(P:Params):Obj:=(Yd mo D0 4 2 2)
def Km(P:Params):Obj:=(Y3 dn mo D0 dg 231 232 233 21 1 43 44 45 46 47 235 236)
def J1(P:Params):Obj:=(ug dZ mo D0 eJ 4 2 48)
def IY(P:Params):Obj:=(Yl cn)
noncomputable def Jt(P:Params):Obj:=jy
def JZ(P:Params):Obj:=(HE cn gG NZ 241 242)
def IT(P:Params):Obj:=(Yl cn)
def JN(P:Params):Obj:=(Yd xD Fr 4 3 3)
def KA(P:Params):Obj:=(Y3 dn xD Fr dg 238 239 240 24 1 50 51 52 53 54 243 244)
def J9(P:Params):Obj:=(ug dZ xD Fr eJ 4 3 55)
def Jw(P:Params):Obj:=(Yl cn)
noncomputable def Jd(P:Params):Obj:=jy
def Jo(P:Params):Obj:=(rK cn gG 249)
def KM(P:Params):Obj:=(Yl cn)
def JY(P:Params):Obj:=(Yd xg Fm 4 4 4)
def KD(P:Params):Obj:=(Y3 dn xg Fm dg 246 247 248 35 1 57 58 59 60 61 250 251)
def KN(P:Params):Obj:=(ug dZ xg Fm eJ 4 4 62)
def Kp(P:Params):Obj:=(Yl cn)
noncomputable def J5(P:Params):Obj:=jy
def Jk(P:Params):=Obj.mk (Yn cn) none (Data.seq ⟨[(Yb gG 256),(Yb zV 257),(Yb BE 258),(Yb MZ 259)]⟩ 0) ⟨[]⟩
def IR(P:Params):Obj:=(Yl cn)
def IX(P:Params):Obj:=(Yd xO Ei 4 5 5)
def Jc(P:Params):Obj:=(Y3 dn xO Ei dg 253 254 255 38 4 64 65 66 67 68 260 261)
def JT(P:Params):Obj:=(ug dZ xO Ei eJ 4 5 69)
def Kt(P:Params):Obj:=(Yl cn)
noncomputable def JX(P:Params):Obj:=jy
def Jx(P:Params):Obj:=(rK cn gG 266)
def Jq(P:Params):Obj:=(Yl cn)
def IU(P:Params):Obj:=(Yd yS EC 4 6 6)
def IL(P:Params):Obj:=(Y3 dn yS EC dg 263 264 265 41 1 71 72 73 74 75 267 268)
def JG(P:Params):Obj:=(ug dZ yS EC eJ 4 6 76)
def KK(P:Params):Obj:=(Yl cn)
noncomputable def J0(P:Params):Obj:=jy
def Ji(P:Params):=Obj.mk (Yn cn) none (Data.seq ⟨[(Yb gG 273),(Yb zV 274),(Yb BE 275),(Yb IG 276)]⟩ 0) ⟨[]⟩
def I0(P:Params):Obj:=(Yl cn)
def JC(P:Params):Obj:=(Yd xL FM 4 7 7)
def Kf(P:Params):Obj:=(Y3 dn xL FM dg 270 271 272 44 4 78 79 80 81 82 277 278)
def I8(P:Params):Obj:=(ug dZ xL FM eJ 4 7 83)
def JE(P:Params):Obj:=(Yl cn)
noncomputable def Kn(P:Params):Obj:=jy
def Jp(P:Params):=Obj.mk (Yn cn) none (Data.seq ⟨[(Yb gG 283),(Yb zV 284),(Yb BE 285)]⟩ 0) ⟨[]⟩
def JD(P:Params):Obj:=(Yl cn)
def Ku(P:Params):Obj:=(Yd xw Ft 4 8 8)
def JS(P:Params):Obj:=(Y3 dn xw Ft dg 280 281 282 47 3 85 86 87 88 89 286 287)
def Jz(P:Params):Obj:=(ug dZ xw Ft eJ 4 8 90)
def IO(P:Params):=Obj.mk (Yn cn) none (Data.seq ⟨[(Yb Ny 289),(Yb Mv 290),(Yb Ly 291),(Yb LW 292),(Yb M2 293),(Yb MN 294)]⟩ 0) ⟨[]⟩
def Kv(P:Params):=Obj.mk (Yn q0) none (Data.dict ⟨[(rr P zZ eJ 207 194),(DictEntry.mk (Yg P pF) (Yb pF 211) (Yj 7 210)),(Ya P mq 222 35),(Ya P zi 230 42),(Ya P mo 237 49),(Ya P xD 245 56),(Ya P xg 252 63),(Ya P xO 262 70),(Ya P yS 269 77),(Ya P xL 279 84),(Ya P xw 288 91),(Ya P Ad 295 92),(Ya P AH 297 95),(Ya P CF 299 96),(xZ P s2 300)]⟩ 4) ⟨[]⟩
def KF(P:Params):=Obj.mk (Yn Io) none (Data.cls (ClassData.mk qh [(Yn Ja)] [(Ys 94),(Yn Ja)] 93 qh Bool.true [] [] Bool.false none Bool.false)) ⟨[none,none,(some (Yb qh 200)),(some (Yb qh 208)),(some (uV NW)),(some GF)]⟩
def Jh(P:Params):=Obj.mk (Yn CA) none (Data.fields ⟨[(Yb AH 296),(Ys 94),(uV H9),(uV Ho)]⟩) ⟨[]⟩
def Jg(P:Params):=Obj.mk (Yn CA) none (Data.fields ⟨[(Yb CF 298),(Ys 94),(uV Ie),Value.none]⟩) ⟨[]⟩
def Jn(P:Params):=Obj.mk (Yn K0) none (Data.fields ⟨[(Ys 94),(Ys 94),(Ys 94)]⟩) ⟨[]⟩
def Kz(P:Params):=Obj.mk (Yn Aj) none (Data.fields ⟨[(uV IC),(Ys 94)]⟩) ⟨[]⟩
def I5(P:Params):=Obj.mk (Yn cn) none (Data.seq ⟨[(Yn Gi)]⟩ 0) ⟨[]⟩
def AW(P:Params):=Obj.mk (Yn Aj) none (Data.fields ⟨[(uV Ik),(Yn Io)]⟩) ⟨[]⟩
def A3(P:Params):=Obj.mk (Yn q0) none (Data.dict ⟨[(rr P zZ eJ 310 194),(rr P Iw pK 312 311),(DictEntry.mk (Yg P pF) (Yb pF 314) (Yj 49 313)),(Ya P mq 324 115),(Ya P xN 333 122),(Ya P yo 342 130),(Ya P wR 350 138),(Ya P yJ 357 145),(Ya P mo 364 152),(Ya P yU 372 160),(Ya P yL 379 167),(Ya P yO 387 175),(Ya P Ad 389 176),(Ya P Mt 390 102)]⟩ 14) ⟨[]⟩
def Ao(P:Params):=Obj.mk (Yn KU) none (Data.cell (some (Ys 178))) ⟨[]⟩
def A7(P:Params):Obj:=(Yl cn)
noncomputable def Be(P:Params):=Obj.mk Value.none none (Data.fields ⟨[(Yj 51 0),(Yj 4 0),(Ys 114),(Yj 55 0),(Yj 4 0),(Ys 121),(Yj 58 0),(Yj 4 0),(Ys 129),(Yj 61 0),(Yj 4 0),(Ys 137),(Yj 66 0),(Yj 4 0),(Ys 144),(Yj 69 0),(Yj 4 0),(Ys 151),(Yj 72 0),(Yj 4 0),(Ys 159),(Yj 78 0),(Yj 4 0),(Ys 166),(Yj 81 0),(Yj 4 0),(Ys 174)]⟩) ⟨[]⟩
def Ba(P:Params):Obj:=(IN dn pK dg 305 306 307 49 103 181 104 308 309)
def B5(P:Params):Obj:=(Kr B8 eJ 105 101 194)
def BD(P:Params):=Obj.mk (Yn cn) none (Data.seq ⟨[(Yj 0 315)]⟩ 0) ⟨[]⟩
noncomputable abbrev NM a:=Obj.mk (Yn a) none (Data.seq ⟨[(Ys 102)]⟩ 0) ⟨[]⟩
def B2(P:Params):Obj:=(NM cn)
def AY(P:Params):Obj:=(rK cn wg 319)
noncomputable def A9(P:Params):Obj:=jy
def BX(P:Params):Obj:=(HE cn gG K6 320 321)
def Ck(P:Params):Obj:=(Yl cn)
def AL(P:Params):Obj:=(Yd mq ED 5 0 0)
def BB(P:Params):Obj:=(Y3 dn mq ED dg 316 317 318 51 2 109 110 111 112 113 322 323)
def An(P:Params):=Obj.mk (Yn dZ) none (Data.func (FuncData.mk mq ED (Do (kj 5 0)) (JA 5 0) (Dj (kj 5 0)) 3 [(Prod.mk wg 102)] (Ys 107) Value.none Value.none (Yb eJ 194) none (Ys 114) (Ys 108) 0)) ⟨[]⟩
def zF(P:Params):Obj:=(Yl cn)
noncomputable def Cj(P:Params):Obj:=jy
def CW(P:Params):=Obj.mk (Yn cn) none (Data.seq ⟨[(Yb gG 328),(Yb zV 329),(Yb BE 330)]⟩ 0) ⟨[]⟩
def AR(P:Params):Obj:=(Yl cn)
def CR(P:Params):Obj:=(Yd xN EG 5 1 1)
def BR(P:Params):Obj:=(Y3 dn xN EG dg 325 326 327 55 3 116 117 118 119 120 331 332)
def AN(P:Params):Obj:=(ug dZ xN EG eJ 5 1 121)
def Bj(P:Params):=Obj.mk (Yn cn) none (Data.seq ⟨[(Yj 0 334)]⟩ 0) ⟨[]⟩
def BN(P:Params):Obj:=(Yl cn)
noncomputable def BW(P:Params):Obj:=jy
def Ag(P:Params):Obj:=(HE cn gG NR 338 339)
def zK(P:Params):Obj:=(Yl cn)
def Ah(P:Params):Obj:=(Yd yo GD 5 2 2)
def Ar(P:Params):Obj:=(Y3 dn yo GD dg 335 336 337 58 2 124 125 126 127 128 340 341)
abbrev PH a b c d e f g:=Obj.mk (Yn a) none (Data.func (FuncData.mk b c (Do (kj 5 e)) (JA 5 e) (Dj (kj 5 e)) 3 [] (Ys f) Value.none Value.none (Yb d 194) none (Ys g) Value.none 0)) ⟨[]⟩
def CK(P:Params):Obj:=(PH dZ yo GD eJ 2 123 129)
def BA(P:Params):Obj:=(NM cn)
def AV(P:Params):Obj:=(rK cn wg 346)
noncomputable def zP(P:Params):Obj:=jy
def CM(P:Params):Obj:=(rK cn gG 347)
def AU(P:Params):Obj:=(Yl cn)
def CX(P:Params):Obj:=(Yd wR D9 5 3 8)
def Bd(P:Params):Obj:=(Y3 dn wR D9 dg 343 344 345 61 1 132 133 134 135 136 348 349)
abbrev PV a b c d e f g h:=Obj.mk (Yn a) none (Data.func (FuncData.mk b c (Do (kj 5 f)) (JA 5 f) (Dj (kj 5 8)) 3 [(Prod.mk d 102)] Value.none Value.none Value.none (Yb e 194) none (Ys g) (Ys h) 0)) ⟨[]⟩
def Cp(P:Params):Obj:=(PV dZ wR D9 wg eJ 3 137 131)
def BJ(P:Params):Obj:=(Yl cn)
noncomputable def Fv(P:Params):Obj:=jy
def Al(P:Params):Obj:=(rK cn gG 354)
def As(P:Params):Obj:=(Yl cn)
def Ay(P:Params):Obj:=(Yd yJ Ea 5 4 4)
def Ap(P:Params):Obj:=(Y3 dn yJ Ea dg 351 352 353 66 1 139 140 141 142 143 355 356)
def BS(P:Params):Obj:=(ug dZ yJ Ea eJ 5 4 144)
def Cv(P:Params):Obj:=(Yl cn)
noncomputable def F8(P:Params):Obj:=jy
def Ac(P:Params):Obj:=(rK cn gG 361)
def AF(P:Params):Obj:=(Yl cn)
def Ak(P:Params):Obj:=(Yd mo Fc 5 5 5)
def B3(P:Params):Obj:=(Y3 dn mo Fc dg 358 359 360 69 1 146 147 148 149 150 362 363)
def BI(P:Params):Obj:=(ug dZ mo Fc eJ 5 5 151)
def CS(P:Params):=Obj.mk (Yn cn) none (Data.seq ⟨[Value.none]⟩ 0) ⟨[]⟩
def Av(P:Params):Obj:=(Yl cn)
noncomputable def AT(P:Params):Obj:=jy
def A8(P:Params):Obj:=(HE cn gG NJ 368 369)
def AX(P:Params):Obj:=(Yl cn)
def Cu(P:Params):Obj:=(Yd yU F5 5 6 6)
def Cg(P:Params):Obj:=(Y3 dn yU F5 dg 365 366 367 72 2 154 155 156 157 158 370 371)
def Ci(P:Params):Obj:=(PH dZ yU F5 eJ 6 153 159)
def AM(P:Params):Obj:=(Yl cn)
noncomputable def zW(P:Params):Obj:=jy
def Ch(P:Params):Obj:=(rK cn gG 376)
def B1(P:Params):Obj:=(Yl cn)
def BG(P:Params):Obj:=(Yd yL E6 5 7 7)
def BM(P:Params):Obj:=(Y3 dn yL E6 dg 373 374 375 78 1 161 162 163 164 165 377 378)
def zL(P:Params):Obj:=(ug dZ yL E6 eJ 5 7 166)
def Cy(P:Params):Obj:=(NM cn)
def Cb(P:Params):Obj:=(rK cn wg 383)
noncomputable def Cw(P:Params):Obj:=jy
def Az(P:Params):Obj:=(rK cn gG 384)
def Cf(P:Params):Obj:=(Yl cn)
def Ca(P:Params):Obj:=(Yd yO EN 5 8 8)
def Bp(P:Params):Obj:=(Y3 dn yO EN dg 380 381 382 81 1 169 170 171 172 173 385 386)
def CL(P:Params):Obj:=(PV dZ yO EN wg eJ 8 174 168)
def Aw(P:Params):Obj:=(rK cn OS 388)
def AK(P:Params):=Obj.mk (Yn q0) none (Data.dict ⟨[(rr P zZ eJ 310 194),(DictEntry.mk (Yg P pF) (Yb pF 314) (Yj 49 313)),(Ya P mq 324 115),(Ya P xN 333 122),(Ya P yo 342 130),(Ya P wR 350 138),(Ya P yJ 357 145),(Ya P mo 364 152),(Ya P yU 372 160),(Ya P yL 379 167),(Ya P yO 387 175),(Ya P Ad 389 176),(Ya P AH 392 179),(Ya P CF 394 180),(xZ P s2 395)]⟩ 5) ⟨[]⟩
def Af(P:Params):=Obj.mk (Yn Io) none (Data.cls (ClassData.mk pK [(Yn Gi)] b0 177 pK Bool.true [] [] Bool.false none Bool.false)) ⟨[(some (Ys 99)),none,(some (Yb pK 303)),(some (Yb pK 311)),(some (uV Nj)),(some GF)]⟩
def Bo(P:Params):=Obj.mk (Yn CA) none (Data.fields ⟨[(Yb AH 391),(Ys 178),(uV H9),(uV Ho)]⟩) ⟨[]⟩
def Aa(P:Params):=Obj.mk (Yn CA) none (Data.fields ⟨[(Yb CF 393),(Ys 178),(uV Ie),Value.none]⟩) ⟨[]⟩
def zO(P:Params):=Obj.mk (Yn K0) none (Data.fields ⟨[(Ys 178),(Ys 178),(Ys 178)]⟩) ⟨[]⟩
def Bk(P:Params):=Obj.mk (Yn Aj) none (Data.fields ⟨[(uV IC),(Ys 178)]⟩) ⟨[]⟩
def A1(P:Params):Obj:=(Yl cn)
noncomputable def AE(P:Params):Obj:=jy
def Bz(P:Params):=Obj.mk (Yn cn) none (Data.seq ⟨[(Yb LB 403),(Yb NX 404),(Yb Nr 405),(Yb N2 406),(Yb Ld 407),(Yb Oz 408),(Yb Or 409),(Yb Nu 410),(Yb Lt 411),(Yb Mu 412),(Yb OD 413),(Yb Ot 414)]⟩ 0) ⟨[]⟩
def A5(P:Params):Obj:=(Yl cn)
def Br(P:Params):Obj:=(Yv yX 7)
def zI(P:Params):Obj:=(GT dn yX dg 400 401 402 84 3 183 184 185 186 187 415 416)
def A4(P:Params):Obj:=(CO dZ yX OT 7 398 188)
def BZ(P:Params):=Obj.mk (Yn Gi) none (Data.seq ⟨[(Yj 917505 420)]⟩ 0) ⟨[]⟩
def Cn(P:Params):=Obj.mk (Yn Po) none (Data.fields ⟨[(Yj 917536 421),(Yj 917632 422),(Yj 1 423)]⟩) ⟨[]⟩
def zS(P:Params):=Obj.mk (Yn Gi) none (Data.seq ⟨[(Yj 917536 426),(Yj 917537 427),(Yj 917538 428),(Yj 917539 429),(Yj 917540 430),(Yj 917541 431),(Yj 917542 432),(Yj 917543 433),(Yj 917544 434),(Yj 917545 435),(Yj 917546 436),(Yj 917547 437),(Yj 917548 438),(Yj 917549 439),(Yj 917550 440),(Yj 917551 441),(Yj 917552 442),(Yj 917553 443),(Yj 917554 444),(Yj 917555 445),(Yj 917556 446),(Yj 917557 447),(Yj 917558 448),(Yj 917559 449),(Yj 917560 450),(Yj 917561 451),(Yj 917562 452),(Yj 917563 453),(Yj 917564 454),(Yj 917565 455),(Yj 917566 456),(Yj 917567 457),(Yj 917568 458),(Yj 917569 459),(Yj 917570 460),(Yj 917571 461),(Yj 917572 462),(Yj 917573 463),(Yj 917574 464),(Yj 917575 465),(Yj 917576 466),(Yj 917577 467),(Yj 917578 468),(Yj 917579 469),(Yj 917580 470),(Yj 917581 471),(Yj 917582 472),(Yj 917583 473),(Yj 917584 474),(Yj 917585 475),(Yj 917586 476),(Yj 917587 477),(Yj 917588 478),(Yj 917589 479),(Yj 917590 480),(Yj 917591 481),(Yj 917592 482),(Yj 917593 483),(Yj 917594 484),(Yj 917595 485),(Yj 917596 486),(Yj 917597 487),(Yj 917598 488),(Yj 917599 489),(Yj 917600 490),(Yj 917601 491),(Yj 917602 492),(Yj 917603 493),(Yj 917604 494),(Yj 917605 495),(Yj 917606 496),(Yj 917607 497),(Yj 917608 498),(Yj 917609 499),(Yj 917610 500),(Yj 917611 501),(Yj 917612 502),(Yj 917613 503),(Yj 917614 504),(Yj 917615 505),(Yj 917616 506),(Yj 917617 507),(Yj 917618 508),(Yj 917619 509),(Yj 917620 510),(Yj 917621 511),(Yj 917622 512),(Yj 917623 513),(Yj 917624 514),(Yj 917625 515),(Yj 917626 516),(Yj 917627 517),(Yj 917628 518),(Yj 917629 519),(Yj 917630 520),(Yj 917631 521)]⟩ 98) ⟨[]⟩
def A0(P:Params):=Obj.mk (Yn NI) none (Data.fields ⟨[(Yj 917632 0),(Yj 0 0),(Yj 1 0)]⟩) ⟨[]⟩
def CD(P:Params):Obj:=(Yl cn)
noncomputable abbrev PW a b:=Obj.mk (Yn a) none (Data.fields ⟨[(Ys b),Value.none,Value.none,Value.none,(Value.bool Bool.false),Value.none]⟩) ⟨[]⟩
def CI(P:Params):Obj:=(PW Oa 194)
def Bt(P:Params):=Obj.mk (Yn Gi) none (Data.seq ⟨[(Yj 917505 420),(Yj 917536 426),(Yj 917537 427),(Yj 917538 428),(Yj 917539 429),(Yj 917540 430),(Yj 917541 431),(Yj 917542 432),(Yj 917543 433),(Yj 917544 434),(Yj 917545 435),(Yj 917546 436),(Yj 917547 437),(Yj 917548 438),(Yj 917549 439),(Yj 917550 440),(Yj 917551 441),(Yj 917552 442),(Yj 917553 443),(Yj 917554 444),(Yj 917555 445),(Yj 917556 446),(Yj 917557 447),(Yj 917558 448),(Yj 917559 449),(Yj 917560 450),(Yj 917561 451),(Yj 917562 452),(Yj 917563 453),(Yj 917564 454),(Yj 917565 455),(Yj 917566 456),(Yj 917567 457),(Yj 917568 458),(Yj 917569 459),(Yj 917570 460),(Yj 917571 461),(Yj 917572 462),(Yj 917573 463),(Yj 917574 464),(Yj 917575 465),(Yj 917576 466),(Yj 917577 467),(Yj 917578 468),(Yj 917579 469),(Yj 917580 470),(Yj 917581 471),(Yj 917582 472),(Yj 917583 473),(Yj 917584 474),(Yj 917585 475),(Yj 917586 476),(Yj 917587 477),(Yj 917588 478),(Yj 917589 479),(Yj 917590 480),(Yj 917591 481),(Yj 917592 482),(Yj 917593 483),(Yj 917594 484),(Yj 917595 485),(Yj 917596 486),(Yj 917597 487),(Yj 917598 488),(Yj 917599 489),(Yj 917600 490),(Yj 917601 491),(Yj 917602 492),(Yj 917603 493),(Yj 917604 494),(Yj 917605 495),(Yj 917606 496),(Yj 917607 497),(Yj 917608 498),(Yj 917609 499),(Yj 917610 500),(Yj 917611 501),(Yj 917612 502),(Yj 917613 503),(Yj 917614 504),(Yj 917615 505),(Yj 917616 506),(Yj 917617 507),(Yj 917618 508),(Yj 917619 509),(Yj 917620 510),(Yj 917621 511),(Yj 917622 512),(Yj 917623 513),(Yj 917624 514),(Yj 917625 515),(Yj 917626 516),(Yj 917627 517),(Yj 917628 518),(Yj 917629 519),(Yj 917630 520),(Yj 917631 521)]⟩ 0) ⟨[]⟩
noncomputable def sO(P:Params)(m:List (Nat×Nat))(ep mask:Nat)(place:List Nat)(mv:Nat):Obj:=⟨.type Hy,none,.set ⟨m.map fun x=>(Int.ofNat x.1,.int (Int.ofNat x.1) x.2)⟩ ep ⟨mask,⟨place⟩,⟨[]⟩,0,!P.followText "set-order",mv,true⟩,⟨[]⟩⟩
noncomputable def kM(n:Nat):List (Nat×Nat):=(917505,420)::(List.range n).map fun j=>(917536+j,426+j)
noncomputable def Tg(n:Nat):List Nat:=1::(List.range n).map fun j=>32+j
noncomputable def kS(e m v n:Nat)(P:Params):Obj:=sO P (kM n) (n+e) m (Tg n) v
noncomputable abbrev Kh:=(917505,420)
noncomputable abbrev Mj:=(917536,426)
noncomputable abbrev OP:=(917537,427)
noncomputable abbrev LV:=(917538,428)
noncomputable abbrev L5:=(917539,429)
noncomputable abbrev Nz:=(917540,430)
noncomputable abbrev L8:=(917541,431)
noncomputable abbrev OQ:=(917542,432)
noncomputable abbrev MM:=(917543,433)
noncomputable abbrev Pw:=(917544,434)
noncomputable abbrev Pz:=(917545,435)
noncomputable abbrev PA:=(917546,436)
noncomputable abbrev OX:=(917547,437)
noncomputable abbrev Pu:=(917548,438)
noncomputable abbrev Pd:=(917549,439)
noncomputable abbrev O4:=(917550,440)
noncomputable abbrev Pq:=(917551,441)
noncomputable abbrev SD:=(917552,442)
noncomputable abbrev Rj:=(917553,443)
noncomputable abbrev R2:=(917554,444)
noncomputable abbrev Rl:=(917555,445)
noncomputable abbrev Qc:=(917556,446)
noncomputable abbrev Rk:=(917557,447)
noncomputable abbrev RM:=(917558,448)
noncomputable abbrev RS:=(917559,449)
noncomputable abbrev Qw:=(917560,450)
noncomputable abbrev R3:=(917561,451)
noncomputable abbrev Tk:=(917562,452)
noncomputable abbrev SM:=(917563,453)
noncomputable abbrev Ti:=(917564,454)
noncomputable abbrev Rd:=(917565,455)
noncomputable abbrev Ta:=(917566,456)
noncomputable abbrev SS:=(917567,457)
def xR(P:Params):Obj:=sO P [Kh,Mj,OP,LV,L5,Nz,L8,OQ,MM,Pw,Pz,PA,OX,Pu,Pd,O4,Pq,SD,Rj,R2,Rl,Qc,Rk,RM,RS,Qw,R3,Tk,SM,Ti,Rd,Ta,SS,(917568,458),(917569,459),(917570,460),(917571,461),(917572,462),(917573,463),(917574,464),(917575,465),(917576,466),(917577,467),(917578,468),(917579,469),(917580,470),(917581,471),(917582,472),(917583,473),(917584,474),(917585,475),(917586,476),(917587,477),(917588,478),(917589,479),(917590,480),(917591,481),(917592,482),(917593,483),(917594,484),(917595,485),(917596,486),(917597,487),(917598,488),(917599,489),(917600,490),(917601,491),(917602,492),(917603,493),(917604,494),(917605,495),(917606,496),(917607,497),(917608,498),(917609,499),(917610,500),(917611,501),(917612,502),(917613,503),(917614,504),(917615,505),(917616,506),(917617,507),(917618,508),(917619,509),(917620,510),(917621,511),(917622,512),(917623,513),(917624,514),(917625,515),(917626,516),(917627,517),(917628,518),(917629,519),(917630,520),(917631,521)] 100 511 [1,32,33,34,35,36,37,38,39,40,41,42,43,44,45,46,47,48,49,50,51,52,53,54,55,56,57,58,59,60,61,62,63,64,65,66,67,68,69,70,71,72,73,74,75,76,77,78,79,80,81,82,83,84,85,86,87,88,89,90,91,92,93,94,95,96,97,98,99,100,101,102,103,104,105,106,107,108,109,110,111,112,113,114,115,116,117,118,119,120,121,122,123,124,125,126,127] 3
def GC(P:Params):=Obj.mk (Yn cp) none (Data.fields ⟨[Value.none,(Yj 97 0)]⟩) ⟨[]⟩
def Ej(P:Params):Obj:=(Yl cn)
def Er(P:Params):Obj:=(PW Oa 199)
def ES(P:Params):Obj:=(Yl cn)
noncomputable def EJ(P:Params):Obj:=jy
def Gm(P:Params):Obj:=(rK cn LK 623)
def Fq(P:Params):Obj:=(Yl cn)
def Gn(P:Params):Obj:=(Yv zN 10)
def D4(P:Params):Obj:=(GT dn zN dg 620 621 622 105 1 201 202 203 204 205 624 625)
def Ep(P:Params):Obj:=(CO dZ zN II 10 418 206)
def EB(P:Params):Obj:=(Yl cn)
noncomputable def Gh(P:Params):Obj:=jy
def Gp(P:Params):=Obj.mk (Yn cn) none (Data.seq ⟨[(Yb LU 632),(Yb Mb 633),(Yb N5 634)]⟩ 0) ⟨[]⟩
def F3(P:Params):Obj:=(Yl cn)
def FN(P:Params):Obj:=(Yv BC 12)
def Gw(P:Params):Obj:=(GT dn BC dg 629 630 631 108 1 208 209 210 211 212 635 636)
def Ax(P:Params):Obj:=(CO dZ BC r4 12 627 213)
def Ga(P:Params):Obj:=(Yl cn)
noncomputable def E8(P:Params):Obj:=jy
def EQ(P:Params):Obj:=(Yv Bv 13)
noncomputable abbrev MX a b c d e f g h i j k l m:=Obj.mk (Yn a) none (Data.fields ⟨[(Yb b d),(Yb b e),(Yb c f),(Yj g 0),(Yj h 0),(Yj 0 0),(Yj 0 0),(Yj 3 0),(Ys i),GF,(Yj 181 0),(Ys j),Value.none,Value.none,Value.none,(Ys k),(Yj l 0),(Yj g 0),(Yb c m)]⟩) ⟨[]⟩
def Gv(P:Params):Obj:=(MX dn Bv dg 638 639 640 115 2 215 216 217 641 642)
def AD(P:Params):Obj:=(CO dZ Bv r4 13 627 218)
def FS(P:Params):Obj:=(Yl cn)
noncomputable def Fx(P:Params):Obj:=jy
def Go(P:Params):Obj:=(rK cn L3 647)
def DY(P:Params):Obj:=(Yl cn)
def EZ(P:Params):Obj:=(Yv Cz 14)
def EA(P:Params):Obj:=(GT dn Cz dg 644 645 646 131 1 220 221 222 223 224 648 649)
def Gd(P:Params):Obj:=(CO dZ Cz r4 14 627 225)
def Gk(P:Params):Obj:=(Yl cn)
noncomputable def El(P:Params):Obj:=jy
def D2(P:Params):Obj:=(Yv CP 15)
def Fz(P:Params):Obj:=(MX dn CP dg 651 652 653 133 1 227 228 229 654 655)
def AI(P:Params):Obj:=(CO dZ CP r4 15 627 230)
def Ex(P:Params):Obj:=(Yl cn)
noncomputable def Ee(P:Params):Obj:=jy
def EK(P:Params):=Obj.mk (Yn cn) none (Data.seq ⟨[(Yb Nw 660),(Yb ND 661),(Yb NS 662),(Yb Og 663),(Yb Lp 664),(Yb M3 665),(Yb Nq 666),(Yb NE 667)]⟩ 0) ⟨[]⟩
def Fg(P:Params):Obj:=(Yl cn)
def Fw(P:Params):Obj:=(Yv zT 16)
def FY(P:Params):Obj:=(GT dn zT dg 657 658 659 144 2 232 233 234 235 236 668 669)
def Cx(P:Params):Obj:=(CO dZ zT r4 16 627 237)
def Fa(P:Params):Obj:=(Yl cn)
noncomputable def Ez(P:Params):Obj:=jy
def FO(P:Params):Obj:=(Yv Bx 17)
def EM(P:Params):Obj:=(MX dn Bx dg 671 672 673 152 1 239 240 241 674 675)
def A2(P:Params):Obj:=(CO dZ Bx r4 17 627 242)
noncomputable def aQ:Code->Sem Fin:=PySem.W.Fast.tw11892475500146522536 PySem.W.Fast.tw14364793385576792824
theorem sq:denote table=aQ:=by
 rw [table_eq_tree,PySem.W.Fast.te11892475500146522536,PySem.W.Fast.te14364793385576792824];rfl
theorem uM:denote treeTable=aQ:=by
 rw [PySem.W.Fast.te11892475500146522536,PySem.W.Fast.te14364793385576792824];rfl
noncomputable abbrev N(o:Obj)(l r:BT):BT:=.node o l r
noncomputable abbrev L(o:Obj):BT:=.node o .nil .nil
noncomputable def O2(P:Params):BT:=(N (boot_o_0 P) (N (boot_o_1 P) (N (boot_o_3 P) (L (boot_o_7 P)) BT.nil) (N (boot_o_5 P) (L (boot_o_9 P)) BT.nil)) (N (boot_o_2 P) (N (boot_o_4 P) (L (boot_o_8 P)) BT.nil) (N (boot_o_6 P) (L (boot_o_10 P)) BT.nil)))
noncomputable def Kk(P:Params):BT:=(N (o0 P) (N (o1 P) (N (o3 P) (N (o7 P) (N (KI P) (N (Kl P) (N (KN P) (L (zK P)) (L (Cn P))) (N (Jh P) (L (Cg P)) (L (DY P)))) (N (KC P) (N (J0 P) (L (Ay P)) (L (Ep P))) (N (BX P) (L (CL P)) (L (Fa P))))) (N (Ks P) (N (KG P) (N (Kt P) (L (AU P)) (L (Ej P))) (N (A7 P) (L (zL P)) (L (AI P)))) (N (KA P) (N (Jp P) (L (B3 P)) (L (Ga P))) (N (AR P) (L (A1 P)) BT.nil)))) (N (JP P) (N (Ky P) (N (Jy P) (N (IR P) (L (BA P)) (L (CI P))) (N (I5 P) (L (Ch P)) (L (Gk P)))) (N (Jt P) (N (Kf P) (L (F8 P)) (L (F3 P))) (N (An P) (L (Bo P)) (L (A2 P))))) (N (Jl P) (N (IV P) (N (IU P) (L (BJ P)) (L (Gm P))) (N (BD P) (L (Az P)) (L (Fg P)))) (N (Jo P) (N (Jz P) (L (AT P)) (L (AD P))) (N (Bj P) (L (Br P)) BT.nil))))) (N (o5 P) (N (o9 P) (N (IZ P) (N (Ko P) (N (J5 P) (L (Ar P)) (L (A0 P))) (N (Jn P) (L (AM P)) (L (EA P)))) (N (J1 P) (N (I0 P) (L (BS P)) (L (Gh P))) (N (AL P) (L (AK P)) (L (FO P))))) (N (Jm P) (N (Kx P) (N (Jx P) (L (Bd P)) (L (ES P))) (N (Ba P) (L (Cb P)) (L (Ee P)))) (N (Jw P) (N (Ku P) (L (CS P)) (L (EQ P))) (N (BR P) (L (Bz P)) BT.nil)))) (N (Ke P) (N (Ki P) (N (JM P) (N (Jc P) (L (zP P)) (L (xR P))) (N (A3 P) (L (BG P)) (L (D2 P)))) (N (IT P) (N (JE P) (L (AF P)) (L (Gw P))) (N (Cj P) (L (zO P)) BT.nil))) (N (JQ P) (N (J2 P) (N (JG P) (L (Al P)) (L (Gn P))) (N (AY P) (L (Ca P)) (L (FY P)))) (N (JY P) (N (Kv P) (L (AX P)) (L (Fx P))) (N (BW P) (L (A4 P)) BT.nil)))))) (N (o2 P) (N (o4 P) (N (o8 P) (N (JJ P) (N (Kd P) (N (Kp P) (L (Ah P)) (L (zS P))) (N (Jg P) (L (Ci P)) (L (EZ P)))) (N (Km P) (N (Ji P) (L (Ap P)) (L (EB P))) (N (Ck P) (L (Aw P)) (L (Ez P))))) (N (Kq P) (N (Kj P) (N (JX P) (L (CX P)) (L (Er P))) (N (Be P) (L (Cy P)) (L (Ex P)))) (N (J9 P) (N (JD P) (L (BI P)) (L (E8 P))) (N (CR P) (L (AE P)) BT.nil)))) (N (NG P) (N (Jr P) (N (JH P) (N (IX P) (L (AV P)) (L (Bt P))) (N (AW P) (L (B1 P)) (L (El P)))) (N (JZ P) (N (I8 P) (L (Ac P)) (L (FN P))) (N (zF P) (L (Aa P)) BT.nil))) (N (JF P) (N (I2 P) (N (IL P) (L (Fv P)) (L (Fq P))) (N (B2 P) (L (Cf P)) (L (Fw P)))) (N (KM P) (N (IO P) (L (A8 P)) (L (FS P))) (N (BN P) (L (zI P)) BT.nil))))) (N (o6 P) (N (IS P) (N (Jb P) (N (IW P) (N (Jk P) (L (CK P)) (L (CD P))) (N (Kz P) (L (zW P)) (L (Gd P)))) (N (IY P) (N (JC P) (L (Cv P)) (L (Gp P))) (N (BB P) (L (Af P)) (L (EM P))))) (N (JR P) (N (Kg P) (N (Jq P) (L (Cp P)) (L (EJ P))) (N (B5 P) (L (Cw P)) (L (EK P)))) (N (Jd P) (N (JS P) (L (Av P)) (L (Gv P))) (N (AN P) (L (A5 P)) BT.nil)))) (N (KL P) (N (J3 P) (N (Ka P) (N (JT P) (L (CM P)) (L (GC P))) (N (Ao P) (L (BM P)) (L (Fz P)))) (N (JN P) (N (Kn P) (L (Ak P)) (L (Ax P))) (N (CW P) (L (Bk P)) BT.nil))) (N (Je P) (N (Jf P) (N (KK P) (L (As P)) (L (D4 P))) (N (A9 P) (L (Bp P)) (L (Cx P)))) (N (KD P) (N (KF P) (L (Cu P)) (L (Go P))) (N (Ag P) (L (BZ P)) BT.nil)))))))
noncomputable def Hr(P:Params):List Obj:=[o0 P,o1 P,o2 P,o3 P,o4 P,o5 P,o6 P,o7 P,o8 P,o9 P,IS P,JP P,NG P,Ke P,KL P,KI P,JJ P,IZ P,Jb P,Ky P,Jr P,Ki P,J3 P,Ks P,Kq P,Jm P,JR P,Jl P,JF P,JQ P,Je P,Kl P,Kd P,Ko P,IW P,Jy P,JH P,JM P,Ka P,KG P,Kj P,Kx P,Kg P,IV P,I2 P,J2 P,Jf P,KC P,Km P,J1 P,IY P,Jt P,JZ P,IT P,JN P,KA P,J9 P,Jw P,Jd P,Jo P,KM P,JY P,KD P,KN P,Kp P,J5 P,Jk P,IR P,IX P,Jc P,JT P,Kt P,JX P,Jx P,Jq P,IU P,IL P,JG P,KK P,J0 P,Ji P,I0 P,JC P,Kf P,I8 P,JE P,Kn P,Jp P,JD P,Ku P,JS P,Jz P,IO P,Kv P,KF P,Jh P,Jg P,Jn P,Kz P,I5 P,AW P,A3 P,Ao P,A7 P,Be P,Ba P,B5 P,BD P,B2 P,AY P,A9 P,BX P,Ck P,AL P,BB P,An P,zF P,Cj P,CW P,AR P,CR P,BR P,AN P,Bj P,BN P,BW P,Ag P,zK P,Ah P,Ar P,CK P,BA P,AV P,zP P,CM P,AU P,CX P,Bd P,Cp P,BJ P,Fv P,Al P,As P,Ay P,Ap P,BS P,Cv P,F8 P,Ac P,AF P,Ak P,B3 P,BI P,CS P,Av P,AT P,A8 P,AX P,Cu P,Cg P,Ci P,AM P,zW P,Ch P,B1 P,BG P,BM P,zL P,Cy P,Cb P,Cw P,Az P,Cf P,Ca P,Bp P,CL P,Aw P,AK P,Af P,Bo P,Aa P,zO P,Bk P,A1 P,AE P,Bz P,A5 P,Br P,zI P,A4 P,BZ P,Cn P,zS P,A0 P,CD P,CI P,Bt P,xR P,GC P,Ej P,Er P,ES P,EJ P,Gm P,Fq P,Gn P,D4 P,Ep P,EB P,Gh P,Gp P,F3 P,FN P,Gw P,Ax P,Ga P,E8 P,EQ P,Gv P,AD P,FS P,Fx P,Go P,DY P,EZ P,EA P,Gd P,Gk P,El P,D2 P,Fz P,AI P,Ex P,Ee P,EK P,Fg P,Fw P,FY P,Cx P,Fa P,Ez P,FO P,EM P,A2 P]
noncomputable def dD(P:Params):Heap:=⟨⟨Hr P⟩,{}⟩
theorem MT(P:Params):absHeap (O2 P) 11 {}=boot_heap P:=by kernel_rfl
theorem OO(P:Params):absHeap (Kk P) 244 {}=dD P:=by kernel_rfl
noncomputable def pd(w:World)(ann:Option Value):Nat->SharedT->Thread->Option SharedT
 |0,_,_=>none
 |n+1,s,t=>match through t with
  |true=>some s
  |false=>match PySem.W.Fast.tw6613529449190102663 11 ann t with
   |false=>none
   |true=>match PySem.W.Fast.tw10156331382660048174 aQ pw w s t with
    |some (s',t')=>pd w ann n s' t'
    |none=>none
theorem mH(w:World)(ann:Option Value):∀(n:Nat) (s:SharedT) (t:Thread) (s':SharedT),pd w ann n s t=some s'->topRun treeTable pw w 11 ann n s.abs t=some s'.abs
 |0,_,_,_,h=>by cases h
 |n+1,s,t,s',h=>by
  unfold pd at h
  unfold topRun
  cases ht:through t with
  |true=>rw [ht] at h;cases h;rfl
  |false=>
   rw [ht] at h
   rw [<-PySem.W.Fast.te6613529449190102663,<-PySem.W.Fast.te10156331382660048174,<-uM] at h
   dsimp only at h⊢
   cases hk:stepOk 11 ann t with
   |false=>rw [hk] at h;cases h
   |true=>
    rw [hk] at h
    dsimp only at h⊢
    cases hs:stepT (denote treeTable) pw w s t with
    |none=>rw [hs] at h;cases h
    |some r=>
     obtain⟨s₁,t₁⟩:=r
     rw [hs] at h
     rw [stepT_spec hs]
     exact mH w ann n s₁ t₁ s' h
theorem H8(w:World):((boot_heap w.params).isNs mainGlobals&&(#[]:Array GenState).size==0,(boot_heap w.params).objs.size,(boot_heap w.params).nsMap mainGlobals "__annotations__")=(true,11,some (.ref 6)):=by kernel_rfl
noncomputable def MI(P:Params):Obj:=(Obj.mk (Yn q0) none (Data.dict ⟨[(rr P s0 II 165 418),(xZ P s2 166),(xZ P s3 167),(dP P s4 Hw 168),(xZ P s5 169),(Ya P Im 170 6),(Ya P HZ 171 4),(rr P HB dg 173 172),(xZ P HM 174),(Ya P wP 193 21),(rr P Ir Hk 197 196),(rr P HN HS 199 198),(Ya P qh 302 94),(Ya P pK 397 178),(Ya P yX 417 189)]⟩ 15) ⟨[]⟩)
noncomputable def Iz(P:Params):Obj:=(Obj.mk Value.none none (Data.fields ⟨[(Yj 1 0),(Yj 0 0),(Ys 20),(Yj 7 0),(Yj 0 0),(Ys 27),(Yj 49 0),(Yj 0 0),(Ys 105),(Yj 84 0),(Yj 0 0),(Ys 188)]⟩) ⟨[]⟩)
noncomputable abbrev fw a b:=Obj.mk (Yn a) none (Data.fields ⟨[(Ys 196),(Yj b 0)]⟩) ⟨[]⟩
noncomputable def yH(P:Params):Obj:=(fw cp 1)
noncomputable def EE(P:Params)(a b:Obj):BT:=(N (o0 P) (N (o1 P) (N (MI P) (N (o7 P) (N (KI P) (N (Kl P) (N (KN P) (L (zK P)) (L (Cn P))) (N (Jh P) (L (Cg P)) BT.nil)) (N (KC P) (N (J0 P) (L (Ay P)) BT.nil) (N (BX P) (L (CL P)) BT.nil))) (N (Ks P) (N (KG P) (N (Kt P) (L (AU P)) BT.nil) (N (A7 P) (L (zL P)) BT.nil)) (N (KA P) (N (Jp P) (L (B3 P)) BT.nil) (N (AR P) (L (A1 P)) BT.nil)))) (N (JP P) (N (Ky P) (N (Jy P) (N (IR P) (L (BA P)) (L (CI P))) (N (I5 P) (L (Ch P)) BT.nil)) (N (Jt P) (N (Kf P) (L (F8 P)) BT.nil) (N (An P) (L (Bo P)) BT.nil))) (N (Jl P) (N (IV P) (N (IU P) (L (BJ P)) BT.nil) (N (BD P) (L (Az P)) BT.nil)) (N (Jo P) (N (Jz P) (L (AT P)) BT.nil) (N (Bj P) (L (Br P)) BT.nil))))) (N (o5 P) (N (o9 P) (N (IZ P) (N (Ko P) (N (J5 P) (L (Ar P)) (L (A0 P))) (N (Jn P) (L (AM P)) BT.nil)) (N (J1 P) (N (I0 P) (L (BS P)) BT.nil) (N (AL P) (L (AK P)) BT.nil))) (N (Jm P) (N (Kx P) (N (Jx P) (L (Bd P)) BT.nil) (N (Ba P) (L (Cb P)) BT.nil)) (N (Jw P) (N (Ku P) (L (CS P)) BT.nil) (N (BR P) (L (Bz P)) BT.nil)))) (N (Ke P) (N (Ki P) (N (JM P) (N (Jc P) (L (zP P)) (L a)) (N (A3 P) (L (BG P)) BT.nil)) (N (IT P) (N (JE P) (L (AF P)) BT.nil) (N (Cj P) (L (zO P)) BT.nil))) (N (JQ P) (N (J2 P) (N (JG P) (L (Al P)) BT.nil) (N (AY P) (L (Ca P)) BT.nil)) (N (JY P) (N (Kv P) (L (AX P)) BT.nil) (N (BW P) (L (A4 P)) BT.nil)))))) (N (o2 P) (N (o4 P) (N (o8 P) (N (JJ P) (N (Kd P) (N (Kp P) (L (Ah P)) (L (zS P))) (N (Jg P) (L (Ci P)) BT.nil)) (N (Km P) (N (Ji P) (L (Ap P)) BT.nil) (N (Ck P) (L (Aw P)) BT.nil))) (N (Kq P) (N (Kj P) (N (JX P) (L (CX P)) BT.nil) (N (Be P) (L (Cy P)) BT.nil)) (N (J9 P) (N (JD P) (L (BI P)) BT.nil) (N (CR P) (L (AE P)) BT.nil)))) (N (Iz P) (N (Jr P) (N (JH P) (N (IX P) (L (AV P)) (L (Bt P))) (N (AW P) (L (B1 P)) BT.nil)) (N (JZ P) (N (I8 P) (L (Ac P)) BT.nil) (N (zF P) (L (Aa P)) BT.nil))) (N (JF P) (N (I2 P) (N (IL P) (L (Fv P)) BT.nil) (N (B2 P) (L (Cf P)) BT.nil)) (N (KM P) (N (IO P) (L (A8 P)) BT.nil) (N (BN P) (L (zI P)) BT.nil))))) (N (o6 P) (N (IS P) (N (Jb P) (N (IW P) (N (Jk P) (L (CK P)) (L (CD P))) (N (Kz P) (L (zW P)) BT.nil)) (N (IY P) (N (JC P) (L (Cv P)) BT.nil) (N (BB P) (L (Af P)) BT.nil))) (N (JR P) (N (Kg P) (N (Jq P) (L (Cp P)) BT.nil) (N (B5 P) (L (Cw P)) BT.nil)) (N (Jd P) (N (JS P) (L (Av P)) BT.nil) (N (AN P) (L (A5 P)) BT.nil)))) (N (KL P) (N (J3 P) (N (Ka P) (N (JT P) (L (CM P)) (L b)) (N (Ao P) (L (BM P)) BT.nil)) (N (JN P) (N (Kn P) (L (Ak P)) BT.nil) (N (CW P) (L (Bk P)) BT.nil))) (N (Je P) (N (Jf P) (N (KK P) (L (As P)) BT.nil) (N (A9 P) (L (Bp P)) BT.nil)) (N (KD P) (N (KF P) (L (Cu P)) BT.nil) (N (Ag P) (L (BZ P)) BT.nil)))))))
noncomputable def yz(P:Params):Obj:=(fw cp 9)
noncomputable def zj(P:Params):Obj:=(fw cp 17)
noncomputable def tD(P:Params):Obj:=(fw cp 97)
noncomputable def xF(P:Params):Obj:=sO P [Kh] 1 7 [1] 0
noncomputable def xq(P:Params):Obj:=sO P [Mj,Kh,LV,L5,OP,Nz,L8,OQ,MM] 10 31 [0,1,2,3,4,5,6,7,8] 1
noncomputable def xE(P:Params):Obj:=sO P [Mj,Kh,LV,L5,OP,Nz,L8,OQ,MM,Pw,Pz,PA,OX,Pu,Pd,O4,Pq] 18 31 [0,1,2,3,4,5,6,7,8,9,10,11,12,13,14,15,16] 1
noncomputable abbrev wS(b:Bool)(w:World):World:=w.withFollow "special-get-raises" b
noncomputable def dQ(w:World)(ann:Option Value):Nat->SharedT->Thread->Option (SharedT×Thread)
 |0,s,t=>some (s,t)
 |n+1,s,t=>match through t with
  |true=>none
  |false=>match PySem.W.Fast.tw6613529449190102663 11 ann t with
   |false=>none
   |true=>match PySem.W.Fast.tw10156331382660048174 aQ pw w s t with
    |some (s',t')=>dQ w ann n s' t'
    |none=>none
theorem bz(w:World)(ann:Option Value):∀(n:Nat) (m:Nat) (s s':SharedT) (t t':Thread) (r:SharedT),dQ w ann n s t=some (s',t')->pd w ann m s' t'=some r->pd w ann (n+m) s t=some r
 |0,m,s,s',t,t',r,h,k=>by cases h;rw [zero_add];exact k
 |n+1,m,s,s',t,t',r,h,k=>by
  rw [show n+1+m=n+m+1 by lia]
  unfold dQ at h
  unfold pd
  cases ht:through t with
  |true=>rw [ht] at h;cases h
  |false=>
   rw [ht] at h
   dsimp only at h⊢
   split at h
   ·cases h
   ·rename_i e
    try rw [e]
    try dsimp only
    split at h
    ·rename_i e'
     try rw [e']
     exact bz w ann n m _ _ _ _ r h k
    ·cases h
noncomputable def Dg:Option (SharedT×Thread)->List Frame
 |some (_,t)=>t.stack
 |none=>[]
noncomputable abbrev cS:Code:=.builtin "set.update.loop" ⟨[.ref 197,.ref 198],[]⟩
noncomputable abbrev pS:Pos:=⟨104,9,104,52⟩
noncomputable abbrev S0(w:World)(os:OsState):SharedT:=⟨O2 w.params,11,{},⟨[]⟩,boot_drawn,boot_toks,os⟩
noncomputable abbrev SC(w:World)(a b:Obj)(k:Nat)(os:OsState):SharedT:=⟨EE w.params a b,199,{},⟨[]⟩,{},k,os⟩
noncomputable abbrev an:Option Value:=some (.ref 6)
noncomputable def HC(w:World)(os:OsState):List Frame:=Dg (dQ w an 2915 (S0 w os) (topStub pw))
noncomputable def Nh:Int->Nat->Bool
 |.ofNat a,n=>Nat.beq a n
 |_,_=>false
noncomputable def NV:Int×Value->Nat×Nat->Bool
 |(h,v),(n,t)=>match v with
  |.int i u=>Nh h n&&(Nh i n&&Nat.beq u t)
  |_=>false
noncomputable def IJ{α β:Type}(f:α->β->Bool):List α->List β->Bool
 |[],[]=>true
 |[],_::_=>false
 |_::_,[]=>false
 |a::l,b::m=>f a b&&IJ f l m
noncomputable def H5{α:Type}:List α->Bool
 |[]=>true
 |_=>false
noncomputable def sT(m:List (Nat×Nat))(ep mask:Nat)(place:List Nat)(mv:Nat)(o:Obj):Bool:=match o with
 |⟨_,_,.set es n t,_⟩=>IJ NV es.toList m&&(Nat.beq n ep&&(Nat.beq t.mask mask&&(IJ Nat.beq t.place.toList place&&(H5 t.dummies.toList&&(Nat.beq t.finger 0&&(Nat.beq t.moves mv&&t.plain))))))
 |_=>false
noncomputable def xx(o:Obj):Bool:=match o with
 |⟨_,_,.set _ _ t,_⟩=>t.led
 |_=>false
theorem yu{i:Int}{n:Nat}(h:Nh i n=true):i=Int.ofNat n:=by
 cases i with
 |ofNat a=>exact congrArg Int.ofNat (eq_of_beq_eq_true h)
 |negSucc a=>cases h
theorem DX{x:Int×Value}{y:Nat×Nat}(h:NV x y=true):x=(Int.ofNat y.1,.int (Int.ofNat y.1) y.2):=by
 obtain⟨a,v⟩:=x
 obtain⟨n,t⟩:=y
 cases v<;>simp only [NV] at h<;>try (cases h;done)
 simp only [Bool.and_eq_true] at h
 obtain⟨h1,h2,h3⟩:=h
 rw [yu h1,yu h2,eq_of_beq_eq_true h3]
theorem on{α β:Type}{f:α->β->Bool}{g:β->α}(hf:∀a b,f a b=true->a=g b):∀{l:List α} {m:List β},IJ f l m=true->l=m.map g
 |[],[],_=>rfl
 |a::l,b::m,h=>by
  have h:(f a b&&IJ f l m)=true:=h
  have h:=Bool.and_eq_true_iff.mp h
  rw [hf _ _ h.1,on hf h.2];rfl
 |[],_::_,h=>by cases h
 |_::_,[],h=>by cases h
theorem pb{P:Params}{m:List (Nat×Nat)}{ep mask:Nat}{place:List Nat}{mv:Nat}{o:Obj}(h:sT m ep mask place mv o=true)(hc:o.cls=.type Hy)(hd:o.dict=none)(hs:o.slots=⟨[]⟩)(hl:xx o= !P.followText "set-order"):o=sO P m ep mask place mv:=by
 obtain⟨c,d,dt,sl⟩:=o
 dsimp only at hc hd hs
 subst hc hd hs
 cases dt<;>simp only [sT] at h<;>try (cases h;done)
 rename_i es n t
 simp only [Bool.and_eq_true] at h
 refine gQ fun Q zQ=>?_
 obtain⟨h1,h2,h3,h4,h5,h6,h7,h8⟩:=h
 obtain⟨mask',place',dummies',finger',led',moves',plain'⟩:=t
 refine zQ ?_
 obtain⟨es⟩:=es
 obtain⟨pl⟩:=place'
 obtain⟨du⟩:=dummies'
 have e1:es=_:=on (g:=fun x=>(Int.ofNat x.1,.int (Int.ofNat x.1) x.2)) (fun a b=>DX) h1
 have e4:pl=place.map id:=on (fun a b q=>eq_of_beq_eq_true q) h4
 have e5:du=[]:=by cases du with|nil=>rfl|cons _ _=>cases h5
 have e2:=eq_of_beq_eq_true h2
 have e3:=eq_of_beq_eq_true h3
 have e6:=eq_of_beq_eq_true h6
 have e7:=eq_of_beq_eq_true h7
 dsimp only at e3 e6 e7 h8
 have hl:led'=_:=hl
 rw [List.map_id] at e4
 subst e1 e2 e3 e4 e5 e6 e7 h8 hl
 rfl
abbrev i8:=Option Value
noncomputable def HQ(m:List (Nat×Nat))(ep mask:Nat)(place:List Nat)(mv:Nat)(x:SharedT×Thread):BT×Option (Value×Option Addr×Array i8×Bool×Bool)×(Nat×Life×Array GenState×Drawn×Nat×OsState)×(Sem Fin×Code×Pos)×Bool:=
 (x.1.tree.set 197 (fun _=>default),(x.1.tree.get 197).map (fun o=>(o.cls,o.dict,o.slots,sT m ep mask place mv o,xx o)),(x.1.n,x.1.life,x.1.gens,x.1.drawn,x.1.toks,x.1.os),(x.2.cur,x.2.code,x.2.pos),x.2.stack.isEmpty)
theorem gy:∀{T:BT} {i:Nat} {o:Obj},T.get i=some o->T.set i (fun _=>o)=T
 |.nil,_,_,h=>by cases h
 |.node v l r,i,o,h=>by
  rw [BT.get_node] at h
  rw [BT.set_node]
  by_cases h0:i=0
  ·rw [if_pos h0] at h⊢;cases h;rfl
  ·rw [if_neg h0] at h⊢
   by_cases p:i % 2=1
   ·rw [if_pos p] at h⊢;rw [gy h]
   ·rw [if_neg p] at h⊢;rw [gy h]
theorem gu(f g:Obj->Obj):∀(T:BT) (i:Nat),(T.set i f).set i g=T.set i (fun o=>g (f o))
 |.nil,_=>rfl
 |.node v l r,i=>by
  rw [BT.set_node,BT.set_node]
  by_cases h0:i=0
  ·rw [if_pos h0,if_pos h0,BT.set_node,if_pos h0]
  ·rw [if_neg h0,if_neg h0]
   by_cases p:i % 2=1
   ·rw [if_pos p,if_pos p,BT.set_node,if_neg h0,if_pos p,gu]
   ·rw [if_neg p,if_neg p,BT.set_node,if_neg h0,if_neg p,gu]
theorem sJ(P:Params)(o b:Obj):(EE P default b).set 197 (fun _=>o)=EE P o b:=by kernel_rfl
theorem zH{w:World}{m:List (Nat×Nat)}{ep mask:Nat}{place:List Nat}{mv:Nat}{b:Obj}{k:Nat}{os:OsState}{cur:Sem Fin}{c:Code}{p:Pos}{r:Option (SharedT×Thread)}
  (h:r.map (HQ m ep mask place mv)=some (EE w.params default b,some (.type Hy,none,⟨[]⟩,true,!w.params.followText "set-order"),(199,{},⟨[]⟩,{},k,os),(cur,c,p),false)):
  ∃f stk,Dg r=f::stk/\r=some (SC w (sO w.params m ep mask place mv) b k os,⟨cur,c,p,f::stk⟩):=by
 refine gQ fun Q zQ=>?_
 obtain⟨⟨⟨T,n,life,gens,drawn,toks,os'⟩,⟨cur',c',p',stack⟩⟩,rfl,e⟩:=Option.map_eq_some_iff.mp h
 simp only [HQ,Prod.mk.injEq] at e
 obtain⟨e1,e2,⟨rfl,rfl,rfl,rfl,rfl,rfl⟩,⟨rfl,rfl,rfl⟩,e3⟩:=e
 obtain⟨o,ho,e2⟩:=Option.map_eq_some_iff.mp e2
 simp only [Prod.mk.injEq] at e2
 obtain⟨c1,c2,c3,c4,c5⟩:=e2
 refine zQ ?_
 have eo:=pb (P:=w.params) c4 c1 c2 c3 c5
 subst eo
 have eT:T=EE w.params (sO w.params m ep mask place mv) b:=by
  rw [<-sJ,<-e1,gu,gy ho]
 subst eT
 cases stack with
 |nil=>cases e3
 |cons f stk=>exact⟨f,stk,rfl,rfl⟩
noncomputable def IK(m:List (Nat×Nat))(ep mask:Nat)(place:List Nat)(mv:Nat)(x:SharedT×Thread):BT×Option (Value×Option Addr×Array i8×Bool×Bool)×(Nat×Life×Array GenState×Drawn×Nat×OsState)×Thread:=
 (x.1.tree.set 197 (fun _=>default),(x.1.tree.get 197).map (fun o=>(o.cls,o.dict,o.slots,sT m ep mask place mv o,xx o)),(x.1.n,x.1.life,x.1.gens,x.1.drawn,x.1.toks,x.1.os),x.2)
theorem bL{w:World}{m:List (Nat×Nat)}{ep mask:Nat}{place:List Nat}{mv:Nat}{b:Obj}{k:Nat}{os:OsState}{t:Thread}{r:Option (SharedT×Thread)}
  (h:r.map (IK m ep mask place mv)=some (EE w.params default b,some (.type Hy,none,⟨[]⟩,true,!w.params.followText "set-order"),(199,{},⟨[]⟩,{},k,os),t)):
  r=some (SC w (sO w.params m ep mask place mv) b k os,t):=by
 refine gQ fun Q zQ=>?_
 obtain⟨⟨⟨T,n,life,gens,drawn,toks,os'⟩,t'⟩,rfl,e⟩:=Option.map_eq_some_iff.mp h
 simp only [IK,Prod.mk.injEq] at e
 obtain⟨e1,e2,⟨rfl,rfl,rfl,rfl,rfl,rfl⟩,rfl⟩:=e
 obtain⟨o,ho,e2⟩:=Option.map_eq_some_iff.mp e2
 simp only [Prod.mk.injEq] at e2
 obtain⟨c1,c2,c3,c4,c5⟩:=e2
 refine zQ ?_
 have eo:=pb (P:=w.params) c4 c1 c2 c3 c5
 subst eo
 have eT:T=EE w.params (sO w.params m ep mask place mv) b:=by
  rw [<-sJ,<-e1,gu,gy ho]
 subst eT
 rfl
section
variable(b:Bool)(w₀ w:World)(hw:w=wS b w₀)(os:OsState)
include b w₀ w hw os
theorem NO:∃f stk,HC w os=f::stk/\dQ w an 2915 (S0 w os) (topStub pw)=some (SC w (xF w.params) (yH w.params) 523 os,⟨aQ cS,cS,pS,f::stk⟩):=by
 subst hw
 refine zH ?_
 cases b
 ·kernel_rfl
 ·kernel_rfl
section
variable(f:Frame)(stk:List Frame)
include f stk
theorem HU:dQ w an 162 (SC w (xF w.params) (yH w.params) 523 os) ⟨aQ cS,cS,pS,f::stk⟩=some (SC w (xq w.params) (yz w.params) 531 os,⟨aQ cS,cS,pS,f::stk⟩):=by
 subst hw
 refine bL ?_
 cases b
 ·kernel_rfl
 ·kernel_rfl
theorem IB:dQ w an 160 (SC w (xq w.params) (yz w.params) 531 os) ⟨aQ cS,cS,pS,f::stk⟩=some (SC w (xE w.params) (zj w.params) 539 os,⟨aQ cS,cS,pS,f::stk⟩):=by
 subst hw
 refine bL ?_
 cases b
 ·kernel_rfl
 ·kernel_rfl
theorem Id:dQ w an 162 (SC w (xE w.params) (zj w.params) 539 os) ⟨aQ cS,cS,pS,f::stk⟩=some (SC w (kS 3 127 2 24 w.params) (fw cp 25) 547 os,⟨aQ cS,cS,pS,f::stk⟩):=by
 subst hw
 refine bL ?_
 cases b
 ·kernel_rfl
 ·kernel_rfl
theorem F0:dQ w an 80 (SC w (kS 3 127 2 24 w.params) (fw cp 25) 547 os) ⟨aQ cS,cS,pS,f::stk⟩=some (SC w (kS 3 127 2 28 w.params) (fw cp 29) 551 os,⟨aQ cS,cS,pS,f::stk⟩):=by
 subst hw
 refine bL ?_
 cases b
 ·kernel_rfl
 ·kernel_rfl
theorem Eg:dQ w an 80 (SC w (kS 3 127 2 28 w.params) (fw cp 29) 551 os) ⟨aQ cS,cS,pS,f::stk⟩=some (SC w (kS 3 127 2 32 w.params) (fw cp 33) 555 os,⟨aQ cS,cS,pS,f::stk⟩):=by
 subst hw
 refine bL ?_
 cases b
 ·kernel_rfl
 ·kernel_rfl
theorem Gf:dQ w an 80 (SC w (kS 3 127 2 32 w.params) (fw cp 33) 555 os) ⟨aQ cS,cS,pS,f::stk⟩=some (SC w (kS 3 127 2 36 w.params) (fw cp 37) 559 os,⟨aQ cS,cS,pS,f::stk⟩):=by
 subst hw
 refine bL ?_
 cases b
 ·kernel_rfl
 ·kernel_rfl
theorem Fu:dQ w an 80 (SC w (kS 3 127 2 36 w.params) (fw cp 37) 559 os) ⟨aQ cS,cS,pS,f::stk⟩=some (SC w (kS 3 127 2 40 w.params) (fw cp 41) 563 os,⟨aQ cS,cS,pS,f::stk⟩):=by
 subst hw
 refine bL ?_
 cases b
 ·kernel_rfl
 ·kernel_rfl
theorem EU:dQ w an 80 (SC w (kS 3 127 2 40 w.params) (fw cp 41) 563 os) ⟨aQ cS,cS,pS,f::stk⟩=some (SC w (kS 3 127 2 44 w.params) (fw cp 45) 567 os,⟨aQ cS,cS,pS,f::stk⟩):=by
 subst hw
 refine bL ?_
 cases b
 ·kernel_rfl
 ·kernel_rfl
theorem Gu:dQ w an 80 (SC w (kS 3 127 2 44 w.params) (fw cp 45) 567 os) ⟨aQ cS,cS,pS,f::stk⟩=some (SC w (kS 3 127 2 48 w.params) (fw cp 49) 571 os,⟨aQ cS,cS,pS,f::stk⟩):=by
 subst hw
 refine bL ?_
 cases b
 ·kernel_rfl
 ·kernel_rfl
theorem GA:dQ w an 80 (SC w (kS 3 127 2 48 w.params) (fw cp 49) 571 os) ⟨aQ cS,cS,pS,f::stk⟩=some (SC w (kS 3 127 2 52 w.params) (fw cp 53) 575 os,⟨aQ cS,cS,pS,f::stk⟩):=by
 subst hw
 refine bL ?_
 cases b
 ·kernel_rfl
 ·kernel_rfl
theorem Gx:dQ w an 80 (SC w (kS 3 127 2 52 w.params) (fw cp 53) 575 os) ⟨aQ cS,cS,pS,f::stk⟩=some (SC w (kS 3 127 2 56 w.params) (fw cp 57) 579 os,⟨aQ cS,cS,pS,f::stk⟩):=by
 subst hw
 refine bL ?_
 cases b
 ·kernel_rfl
 ·kernel_rfl
theorem D1:dQ w an 80 (SC w (kS 3 127 2 56 w.params) (fw cp 57) 579 os) ⟨aQ cS,cS,pS,f::stk⟩=some (SC w (kS 3 127 2 60 w.params) (fw cp 61) 583 os,⟨aQ cS,cS,pS,f::stk⟩):=by
 subst hw
 refine bL ?_
 cases b
 ·kernel_rfl
 ·kernel_rfl
theorem GI:dQ w an 80 (SC w (kS 3 127 2 60 w.params) (fw cp 61) 583 os) ⟨aQ cS,cS,pS,f::stk⟩=some (SC w (kS 3 127 2 64 w.params) (fw cp 65) 587 os,⟨aQ cS,cS,pS,f::stk⟩):=by
 subst hw
 refine bL ?_
 cases b
 ·kernel_rfl
 ·kernel_rfl
theorem Ff:dQ w an 80 (SC w (kS 3 127 2 64 w.params) (fw cp 65) 587 os) ⟨aQ cS,cS,pS,f::stk⟩=some (SC w (kS 3 127 2 68 w.params) (fw cp 69) 591 os,⟨aQ cS,cS,pS,f::stk⟩):=by
 subst hw
 refine bL ?_
 cases b
 ·kernel_rfl
 ·kernel_rfl
theorem Ek:dQ w an 80 (SC w (kS 3 127 2 68 w.params) (fw cp 69) 591 os) ⟨aQ cS,cS,pS,f::stk⟩=some (SC w (kS 3 127 2 72 w.params) (fw cp 73) 595 os,⟨aQ cS,cS,pS,f::stk⟩):=by
 subst hw
 refine bL ?_
 cases b
 ·kernel_rfl
 ·kernel_rfl
theorem zU(hb:b=true):dQ w an 82 (SC w (kS 3 127 2 72 w.params) (fw cp 73) 595 os) ⟨aQ cS,cS,pS,f::stk⟩=some (SC w (kS 4 511 3 76 w.params) (fw cp 77) 599 os,⟨aQ cS,cS,pS,f::stk⟩):=by
 subst hw
 refine bL ?_
 subst hb
 kernel_rfl
theorem Cc(hb:b=false):dQ w an 82 (SC w (kS 3 127 2 72 w.params) (fw cp 73) 595 os) ⟨aQ cS,cS,pS,f::stk⟩=some (SC w (kS 4 511 3 76 w.params) (fw cp 77) 599 os,⟨aQ cS,cS,pS,f::stk⟩):=by
 subst hw
 refine bL ?_
 subst hb
 kernel_rfl
theorem EV:dQ w an 82 (SC w (kS 3 127 2 72 w.params) (fw cp 73) 595 os) ⟨aQ cS,cS,pS,f::stk⟩=some (SC w (kS 4 511 3 76 w.params) (fw cp 77) 599 os,⟨aQ cS,cS,pS,f::stk⟩):=by
 cases b
 ·exact Cc false w₀ w hw os f stk rfl
 ·exact zU true w₀ w hw os f stk rfl
theorem FL:dQ w an 80 (SC w (kS 4 511 3 76 w.params) (fw cp 77) 599 os) ⟨aQ cS,cS,pS,f::stk⟩=some (SC w (kS 4 511 3 80 w.params) (fw cp 81) 603 os,⟨aQ cS,cS,pS,f::stk⟩):=by
 subst hw
 refine bL ?_
 cases b
 ·kernel_rfl
 ·kernel_rfl
theorem GB:dQ w an 80 (SC w (kS 4 511 3 80 w.params) (fw cp 81) 603 os) ⟨aQ cS,cS,pS,f::stk⟩=some (SC w (kS 4 511 3 84 w.params) (fw cp 85) 607 os,⟨aQ cS,cS,pS,f::stk⟩):=by
 subst hw
 refine bL ?_
 cases b
 ·kernel_rfl
 ·kernel_rfl
theorem EX:dQ w an 80 (SC w (kS 4 511 3 84 w.params) (fw cp 85) 607 os) ⟨aQ cS,cS,pS,f::stk⟩=some (SC w (kS 4 511 3 88 w.params) (fw cp 89) 611 os,⟨aQ cS,cS,pS,f::stk⟩):=by
 subst hw
 refine bL ?_
 cases b
 ·kernel_rfl
 ·kernel_rfl
theorem FI:dQ w an 80 (SC w (kS 4 511 3 88 w.params) (fw cp 89) 611 os) ⟨aQ cS,cS,pS,f::stk⟩=some (SC w (kS 4 511 3 92 w.params) (fw cp 93) 615 os,⟨aQ cS,cS,pS,f::stk⟩):=by
 subst hw
 refine bL ?_
 cases b
 ·kernel_rfl
 ·kernel_rfl
theorem EW:dQ w an 80 (SC w (kS 4 511 3 92 w.params) (fw cp 93) 615 os) ⟨aQ cS,cS,pS,f::stk⟩=some (SC w (xR w.params) (tD w.params) 619 os,⟨aQ cS,cS,pS,f::stk⟩):=by
 subst hw
 refine bL ?_
 cases b
 ·kernel_rfl
 ·kernel_rfl
end
theorem Mo:pd w an 240 (SC w (xR w.params) (tD w.params) 619 os) ⟨aQ cS,cS,pS,HC w os⟩=some ⟨Kk w.params,244,{},⟨[]⟩,{},677,os⟩:=by
 subst hw
 cases b
 ·kernel_rfl
 ·kernel_rfl
theorem Lx:pd w an (2915+(162+(160+(162+(80+(80+(80+(80+(80+(80+(80+(80+(80+(80+(80+(80+(82+(80+(80+(80+(80+(80+(240))))))))))))))))))))))) (S0 w os) (topStub pw)=some ⟨Kk w.params,244,{},⟨[]⟩,{},677,os⟩:=by
 obtain⟨f,stk,e,h⟩:=NO b w₀ w hw os
 have c:=Mo b w₀ w hw os
 rw [e] at c
 refine bz _ _ _ _ _ _ _ _ _ h ?_
 refine bz _ _ _ _ _ _ _ _ _ (HU b w₀ w hw os f stk) ?_
 refine bz _ _ _ _ _ _ _ _ _ (IB b w₀ w hw os f stk) ?_
 refine bz _ _ _ _ _ _ _ _ _ (Id b w₀ w hw os f stk) ?_
 refine bz _ _ _ _ _ _ _ _ _ (F0 b w₀ w hw os f stk) ?_
 refine bz _ _ _ _ _ _ _ _ _ (Eg b w₀ w hw os f stk) ?_
 refine bz _ _ _ _ _ _ _ _ _ (Gf b w₀ w hw os f stk) ?_
 refine bz _ _ _ _ _ _ _ _ _ (Fu b w₀ w hw os f stk) ?_
 refine bz _ _ _ _ _ _ _ _ _ (EU b w₀ w hw os f stk) ?_
 refine bz _ _ _ _ _ _ _ _ _ (Gu b w₀ w hw os f stk) ?_
 refine bz _ _ _ _ _ _ _ _ _ (GA b w₀ w hw os f stk) ?_
 refine bz _ _ _ _ _ _ _ _ _ (Gx b w₀ w hw os f stk) ?_
 refine bz _ _ _ _ _ _ _ _ _ (D1 b w₀ w hw os f stk) ?_
 refine bz _ _ _ _ _ _ _ _ _ (GI b w₀ w hw os f stk) ?_
 refine bz _ _ _ _ _ _ _ _ _ (Ff b w₀ w hw os f stk) ?_
 refine bz _ _ _ _ _ _ _ _ _ (Ek b w₀ w hw os f stk) ?_
 refine bz _ _ _ _ _ _ _ _ _ (EV b w₀ w hw os f stk) ?_
 refine bz _ _ _ _ _ _ _ _ _ (FL b w₀ w hw os f stk) ?_
 refine bz _ _ _ _ _ _ _ _ _ (GB b w₀ w hw os f stk) ?_
 refine bz _ _ _ _ _ _ _ _ _ (EX b w₀ w hw os f stk) ?_
 refine bz _ _ _ _ _ _ _ _ _ (FI b w₀ w hw os f stk) ?_
 refine bz _ _ _ _ _ _ _ _ _ (EW b w₀ w hw os f stk) ?_
 exact c
end
noncomputable abbrev qv:Program:=view pw [17]
noncomputable def lo:List Str:=["_wall","NL","EMPTYSTRING","_ValueFormatter","_Accumulator","rgb_to_hsv","c9_set","in_table_c9","_law_lines","_law_points","_law_hue","_law_steps","_law_none_below"]
noncomputable abbrev Q7(w:World)(os:OsState):Shared:=⟨dD w.params, #[],{},677,os⟩
theorem HA(w:World):staticsOk (importedModules pw.main.body) (boot_heap w.params) (dD w.params)=true:=by kernel_rfl
theorem HD(w:World):namesBound pw (dD w.params)=true:=by kernel_rfl
theorem Hs(w:World):laidKept (boot_heap w.params) (dD w.params)=true:=by kernel_rfl
theorem H0(w:World)(os:OsState):openSeen qv lo (importedModules pw.main.body) (fun _=>true) true (Q7 w os)=openGood qv lo:=by kernel_rfl
section
open PyProof.Rows PySem.Calls PySem.Spec
theorem HY(w:World)(os:OsState):topRun treeTable pw w 11 (some (.ref 6)) (2915+(162+(160+(162+(80+(80+(80+(80+(80+(80+(80+(80+(80+(80+(80+(80+(82+(80+(80+(80+(80+(80+240)))))))))))))))))))))) ⟨boot_heap w.params, #[],boot_drawn,boot_toks,os⟩ (topStub pw)=some ⟨dD w.params, #[],{},677,os⟩:=by
 have h:=mH _ _ _ _ _ _ (Lx (w.params.followText "special-get-raises") w w (World.withFollow_self w "special-get-raises").symm os)
 have e0:SharedT.abs (S0 w os)=⟨boot_heap w.params, #[],boot_drawn,boot_toks,os⟩:=by
  unfold SharedT.abs;rw [MT]
 have e1:SharedT.abs ⟨Kk w.params,244,{},⟨[]⟩,{},677,os⟩=⟨dD w.params, #[],{},677,os⟩:=by
  unfold SharedT.abs;rw [OO]
 rw [e0,e1] at h
 exact h
theorem re:opening pw=plainProg pw.main.scope.names:=by rfl
theorem left:LeftO pw qv lo (fun _=>true) (fun s=>(s.heap,s.toks)) (fun w=>(dD w.params,677)) 6000:=
 LeftO.of_pieces (boot_open re (by rfl) (fun s=>by rfl)) H8 HY (by rfl) fun w=>by
  funext os
  rw [HA,HD,Hs,H0]
  rfl
end
section
structure St where
 L:List Nat
 m0:Nat
 n:Nat
 k:Nat
 T:BT
 tb:Nat
 ti:Nat
 gb:Nat
 gl:List GenState
 fz:List (Nat×Obj)
noncomputable def bm:List Nat->Nat->Nat->Nat
 |[],n,i=>n+i
 |a::_,_,0=>a
 |_::L,n,i+1=>bm L n i
inductive Ev where
 |fin (e:End)
 |again (c:Code)
abbrev jj:=Ev->List Nat->St->Prop
abbrev wM:=Ctx->Pos->Sem Fin->List Frame->List Nat->St->jj->Prop
abbrev bM:=Ctx->Pos->Code->St->(Result->St->Prop)->Prop
abbrev bF:=Ctx->Code->St->Prop×Sem Fin
structure XV where
 den:Code->Sem Fin
 prog:Program
 w:World
 kt:KT
 mm:Nat
 ro:Nat
 sm:Nat->bM
 rw:Nat->Value
 al:Nat->bF
 ob:Nat->Obj
 fz:List (Nat×Obj)
def fJ(n:Nat):Prop:=n=n+1
theorem bn{n:Nat}(h:fJ n):False:=by unfold fJ at h;lia
def JV(ih:wM)(Γ:Ctx)(p:Pos)(h:Option Value)(g:Bool)(l:List Value)(k:Result->Sem Fin)(K:jj):jj:=fun e hs st=>match e with
 |.again _=>fJ 2
 |.fin e=>match e with
  |.ret r=>ih Γ p (k r) [] hs st K
  |.susp v g₀ l₀ k₀ c₀ p₀ fs₀=>K (.fin (.susp v g₀ l₀ k₀ c₀ p₀ (fs₀++[.ret k h g l Γ.code p []]))) hs st
def PO(ih:wM)(Γ:Ctx)(p:Pos)(v:Value)(k:Result->Sem Fin)(K:jj):jj:=fun e hs st=>match e with
 |.again _=>fJ 2
 |.fin e=>match e with
  |.ret r=>r=.ok (.ret v)/\ih Γ p (k (.ok (.ret v))) [] hs st K
  |.susp .. =>fJ 21
def Qx(ih:wM)(Γ:Ctx)(p:Pos)(k:Result->Sem Fin)(K:jj):jj:=fun e hs st=>match e with
 |.again _=>fJ 2
 |.fin e=>match e with
  |.ret r=>ih Γ p (k r) [] hs st K
  |.susp .. =>fJ 23
def Od(K:jj):jj:=fun e hs st=>match e with
 |.again _=>fJ 2
 |.fin e=>K (.fin e) hs st
def PR(ih:wM)(Γ:Ctx)(f:Frame)(fs:List Frame)(K:jj):jj:=fun e hs st=>match e with
 |.again _=>fJ 2
 |.fin e=>match e with
  |.ret r=>match f with
   |.ret k _ _ _ c₁ p₁ _=>ih (Γ.goto c₁) p₁ (k r) fs hs st (Od K)
   |.gen .. =>fJ 1
  |.susp v g₀ l₀ k₀ c₀ p₀ fs₀=>match splitAtGen (f::fs) with
   |none=>K (.fin (.susp v g₀ l₀ k₀ c₀ p₀ (fs₀++f::fs))) hs st
   |some _=>fJ 3
def I9(ih:wM)(Γ:Ctx)(p:Pos)(g j:Nat)(k:GenResult->Sem Fin)(K:jj):jj:=fun e hs st=>match e with
 |.again _=>fJ 2
 |.fin e=>match e.quiet with
  |true=>match hs with
   |[]=>fJ 5
   |_::hs=>g=Nat.add st.gb j/\ih Γ p (k e.result) [] hs {st with gl:=st.gl.set j e.genState} K
  |false=>fJ 4
def lV(hs:List Nat)(F:Nat->List Nat->Prop):Prop:=match hs with
 |[]=>fJ 5
 |h::hs=>F h hs
def zM(hs:List Nat)(F:Nat->List Nat->Prop):Prop:=lV hs fun h hs=>F (h-500) hs
def JI(V:XV)(a:Addr)(st:St)(h:Nat)(hs:List Nat)(F:Obj->List Nat->Prop):Prop:=match h with
 |0=>match V.kt.get a with
  |some o=>F o hs
  |none=>fJ 8
 |i+1=>match Nat.ble 5000 i with
  |false=>match st.T.get i with
   |some o=>a=bm st.L st.n i/\F o hs
   |none=>fJ 9
  |true=>lV hs fun h hs=>match h with
   |0=>fJ 8
   |j+1=>match st.T.get j with
    |some o=>a=bm st.L st.n j/\o=V.ob (i-5000)/\F (V.ob (i-5000)) hs
    |none=>fJ 9
def Ma(K:jj):jj:=fun e hs st=>match e with
 |.again _=>fJ 2
 |.fin e=>match e with
  |.ret r=>K (.fin (.ret r)) hs st
  |.susp .. =>fJ 22
def Mg(V:XV)(ih:wM)(Γ:Ctx)(p:Pos)(c':Code)(hs:List Nat)(st:St)(K:jj):Prop:=match hs with
 |[]=>ih (Γ.goto c') p (V.den c') [] hs st K
 |h::hs'=>match Nat.ble 3000 h with
  |false=>ih (Γ.goto c') p (V.den c') [] hs st K
  |true=>match Nat.beq h 3000 with
   |true=>K (.again c') hs' st
   |false=>match Nat.ble 4000 h&&Nat.blt h 5000 with
    |true=>(V.al (h-4000) (Γ.goto c') c' st).1/\ih (Γ.goto c') p (V.al (h-4000) (Γ.goto c') c' st).2 [] hs' st (Ma K)
    |false=>match Nat.beq h 3001 with
     |true=>ih (Γ.goto c') p (V.den c') [] hs' st K
     |false=>match Nat.ble 7000 h with
      |true=>V.sm (h-7000) (Γ.goto c') p c' st fun r st=>K (.fin (.ret r)) hs' st
      |false=>ih (Γ.goto c') p (V.den c') [] hs st K
def Nd(V:XV)(ih:wM)(Γ:Ctx)(p:Pos)(c:Code)(h:Option Value)(g:Bool)(l:List Value)(k:Result->Sem Fin)(hs:List Nat)(st:St)(K:jj):Prop:=match hs with
 |[]=>ih (Γ.enter c h p) p (V.den c) [] hs st (JV ih Γ p h g l k K)
 |x::hs'=>match Nat.ble 1000 x&&Nat.blt x 3000 with
  |false=>match Nat.ble 6000 x&&Nat.blt x 7000 with
   |true=>(V.al (x-6000) (Γ.enter c h p) c st).1/\ih (Γ.enter c h p) p (V.al (x-6000) (Γ.enter c h p) c st).2 [] hs' st (Qx ih Γ p k K)
   |false=>match Nat.beq x 3002 with
    |true=>ih (Γ.enter c h p) p (V.den c) [] hs' st (JV ih Γ p h g l k K)
    |false=>ih (Γ.enter c h p) p (V.den c) [] hs st (JV ih Γ p h g l k K)
  |true=>match Nat.ble 2000 x with
   |false=>V.sm (x-1000) (Γ.enter c h p) p c st fun r st=>ih Γ p (k r) [] hs' st K
   |true=>ih (Γ.enter c h p) p (V.den c) [] hs' st (PO ih Γ p (V.rw (x-2000)) k K)
def gA(V:XV)(ih:wM)(Γ:Ctx)(p:Pos)(t:Sem Fin)(hs:List Nat)(st:St)(K:jj):Prop:=match t with
 |.pure fin=>match fin with
  |.done f=>K (.fin (.ret (.ok f))) hs st
  |.again c'=>match c'.quiet with
   |false=>fJ 6
   |true=>Mg V ih Γ p c' hs st K
 |.raise e=>K (.fin (.ret (.error e))) hs st
 |.rule _ k=>ih Γ p (k ()) [] hs st K
 |.at p' k=>ih Γ p' (k ()) [] hs st K
 |.point _ k=>ih Γ p (k ()) [] hs st K
 |.ask k=>ih Γ p (k ⟨V.prog,V.w.params⟩) [] hs st K
 |.load a _ k=>lV hs fun h hs=>JI V a st h hs fun o hs=>ih Γ p (k o) [] hs st K
 |.loadIfAlive a k=>lV hs fun h hs=>JI V a st h hs fun o hs=>ih Γ p (k (some o)) [] hs st K
 |.alloc o k=>match o.isFreed with
  |true=>fJ 10
  |false=>match((st.T.ins (Nat.add st.m0 st.k) o).get (Nat.add st.m0 st.k)).isSome with
   |true=>ih Γ p (k (Nat.add st.n st.k)) [] hs {st with k:=Nat.succ st.k,T:=st.T.ins (Nat.add st.m0 st.k) o} K
   |false=>fJ 11
 |.update a _ f k=>lV hs fun h hs=>match h with
  |0=>fJ 12
  |i+1=>match st.T.get i with
   |some o=>match(f o).isFreed with
    |true=>fJ 13
    |false=>match Nat.blt i V.mm||Nat.ble V.ro i with
     |true=>a=bm st.L st.n i/\ih Γ p (k ()) [] hs {st with T:=st.T.set i f} K
     |false=>fJ 14
   |none=>fJ 9
 |.fresh k=>ih Γ p (k (Nat.add st.tb st.ti)) [] hs {st with ti:=Nat.succ st.ti} K
 |.handled own k=>ih Γ p (k (match own with|true=>Γ.own|false=>Γ.handled)) [] hs st K
 |.stack k=>ih Γ p (k ((Γ.code,p)::Γ.below)) [] hs st K
 |.call c h g l k=>Nd V ih Γ p c h g l k hs st K
 |.newGen c' k=>ih Γ p (k (Nat.add st.gb st.gl.length)) [] hs {st with gl:=st.gl++[.fresh c']} K
 |.genState g k=>zM hs fun j hs=>match st.gl[j]? with
  |some x=>g=Nat.add st.gb j/\ih Γ p (k x.seen) [] hs st K
  |none=>fJ 16
 |.resume g r _ k=>zM hs fun j hs=>match st.gl[j]? with
  |some x=>g=Nat.add st.gb j/\(match x with
   |.fresh c₀=>match r with
    |.send v=>match v with
     |.none=>ih (Γ.wake c₀ p) p (V.den c₀) [] hs {st with gl:=st.gl.set j .running} (I9 ih Γ p g j k K)
     |_=>fJ 18
    |.throw _=>fJ 18
   |.suspended k₀ _ c₀ p₀ fs₀ _=>ih (Γ.wake c₀ p) p₀ (k₀ r) fs₀ hs {st with gl:=st.gl.set j .running} (I9 ih Γ p g j k K)
   |.running=>fJ 19
   |.finished=>ih Γ p (k .finished) [] hs st K)
  |none=>fJ 16
 |.yield v g l k=>K (.fin (.susp v g l k Γ.code p [])) hs st
 |.thread k=>ih Γ p (k 0) [] hs st K
 |.unsupported _=>fJ 30
 |.finish _=>fJ 31
 |.register .. =>fJ 32
 |.choose .. =>fJ 33
 |.os .. =>fJ 34
 |.fork .. =>fJ 35
 |.await .. =>fJ 36
def Df(V:XV)(ih:wM):wM:=fun Γ p t fs hs st K=>match fs with
 |[]=>gA V ih Γ p t hs st K
 |f::fs=>ih (Γ.over (f::fs)) p t [] hs st (PR ih Γ f fs K)
def cm(V:XV):Nat->wM
 |0=>fun _ _ _ _ _ _ _=>fJ 0
 |n+1=>Df V (cm V n)
structure f6(V:XV)(h0:Heap)(d:Drawn)(os:OsState)(st:St)(s:Shared):Prop where
 len:st.L.length=st.m0
 size:s.heap.objs.size=st.n+st.k
 own:∀i o,st.T.get i=some o->i<st.m0+st.k/\s.heap.get? (bm st.L st.n i)=some o
 low:∀a∈st.L,a<st.n
 inj:∀i j,i<st.m0+st.k->j<st.m0+st.k->bm st.L st.n i=bm st.L st.n j->i=j
 kt:∀a o,V.kt.get a=some o->s.heap.get? a=some o
 off:∀i,i<st.m0+st.k->V.kt.get (bm st.L st.n i)=none
 toks:s.toks=st.tb+st.ti
 gsize:s.gens.size=st.gb+st.gl.length
 gnew:∀j x,st.gl[j]? =some x->s.gens[st.gb+j]? =some x
 gold:∀j x,j<st.gb->s.gens[j]? =some x->x=.finished
 mro:V.mm<=V.ro/\V.ro<=st.m0
 new:∀i,V.ro<=i->i<st.m0+st.k->h0.objs.size<=bm st.L st.n i
 keep:∀b o,h0.get? b=some o->(∀i,i<V.mm->bm st.L st.n i≠b)->s.heap.get? b=some o
 drawn:s.drawn=d
 os:s.os=os
 h0n:h0.objs.size<=st.n
 fz:∀x∈V.fz,h0.get? x.1=some x.2/\∀i,i<V.mm->bm st.L st.n i≠x.1
 dz:∀x∈st.fz,s.heap.get? x.1=some x.2/\(∀i,i<st.m0+st.k->bm st.L st.n i≠x.1)/\h0.objs.size<=x.1
theorem rZ:∀{L:List Nat} {n i:Nat},i<L.length->bm L n i∈L
 |_::_,_,0,_=>mem_cons_self ..
 |_::L,n,i+1,h=>mem_cons_of_mem _ (rZ (by simpa using h))
theorem lD:∀{L:List Nat} {n i:Nat},L.length<=i->bm L n i=n+(i-L.length)
 |[],n,i,_=>by simp [bm]
 |_::L,n,0,h=>by simp at h
 |_::L,n,i+1,h=>by
  have:L.length<=i:=by simpa using h
  show bm L n i=_
  rw [lD this];simp
def dA(M:Model)(Γ:Ctx)(p:Pos)(t:Sem Fin)(fs:List Frame)(s:Shared)(ev:Ev)(s':Shared):Prop:=match ev with
 |.fin e=>Runs M Γ p t fs s e s'
 |.again c=>fs=[]/\c.quiet=true/\∃p',∀e s'',Runs M (Γ.goto c) p' (M.den c) [] s' e s''->Runs M Γ p t [] s e s''
def bX(V:XV)(M:Model)(S:bM):Prop:=∀h0 d os Γ p c st K s,S Γ p c st K->Γ.code=c->f6 V h0 d os st s->∃r st' s',Runs M Γ p (M.den c) [] s (.ret r) s'/\f6 V h0 d os st' s'/\K r st'
def bE(V:XV)(M:Model)(A:bF):Prop:=∀h0 d os Γ c st s p r s',(A Γ c st).1->Γ.code=c->f6 V h0 d os st s->Runs M Γ p (A Γ c st).2 [] s (.ret r) s'->Runs M Γ p (M.den c) [] s (.ret r) s'
structure XV.Ok(V:XV)(M:Model):Prop where
 den:V.den=M.den
 prog:V.prog=M.prog
 w:V.w=M.w
 sm:∀i,bX V M (V.sm i)
 al:∀i,bE V M (V.al i)
section
variable{V:XV}{h0:Heap}{d:Drawn}{os:OsState}{st:St}{s:Shared}
section
variable(R:f6 V h0 d os st s)
include R
theorem f6.toks':f6 V h0 d os {st with ti:=Nat.succ st.ti} {s with toks:=s.toks+1}:=
 ⟨R.len,R.size,R.own,R.low,R.inj,R.kt,R.off,by show s.toks+1=st.tb+(st.ti+1);rw [R.toks];lia,R.gsize,R.gnew,R.gold,R.mro,R.new,R.keep,R.drawn,R.os,R.h0n,R.fz,R.dz⟩
theorem Iy{a:Addr}{o:Obj}(e:V.kt.get a=some o):a<st.n+st.k:=R.size▸Heap.lt_size (R.kt a o e)
theorem f6.alloc{o:Obj}(hf:o.isFreed=false)(hg:((st.T.ins (st.m0+st.k) o).get (st.m0+st.k)).isSome=true):
  f6 V h0 d os {st with k:=Nat.succ st.k,T:=st.T.ins (st.m0+st.k) o} {s with heap:=s.heap.push o}:=by
 have hadr:bm st.L st.n (st.m0+st.k)=st.n+st.k:=by rw [lD (by rw [R.len];lia),R.len];congr 1;lia
 refine⟨R.len,by show(s.heap.push o).objs.size=_;rw [Heap.size_push,R.size];rfl,?_,R.low,?_,fun a o' e=>Heap.get?_push_of_some _ (R.kt a o' e),?_,R.toks,R.gsize,R.gnew,R.gold,R.mro,?_,fun b o' e q=>Heap.get?_push_of_some _ (R.keep b o' e q),R.drawn,R.os,R.h0n,R.fz,fun x hx=>⟨Heap.get?_push_of_some _ (R.dz x hx).1,fun i hi=>?_,(R.dz x hx).2.2⟩⟩
 ·intro i o' e
  have e':(st.T.ins (st.m0+st.k) o).get i=some o':=e
  rw [BT.get_ins o st.T _ hg] at e'
  by_cases hi:i=st.m0+st.k
  ·subst hi
   rw [if_pos rfl] at e'
   cases e'
   refine⟨by show st.m0+st.k<st.m0+(st.k+1);lia,?_⟩
   show(s.heap.push o).get? (bm st.L st.n (st.m0+st.k))=some o
   rw [hadr,<-R.size]
   exact Heap.get?_push_size _ hf
  ·rw [if_neg hi] at e'
   have z:=R.own i o' e'
   exact⟨by show i<st.m0+(st.k+1);lia,Heap.get?_push_of_some _ z.2⟩
 ·intro i j hi hj e
  have hi':i<st.m0+(st.k+1):=hi
  have hj':j<st.m0+(st.k+1):=hj
  have e':bm st.L st.n i=bm st.L st.n j:=e
  have key:∀x,x<st.m0+st.k->bm st.L st.n x≠st.n+st.k:=by
   intro x hx
   by_cases hl:x<st.L.length
   ·have:=R.low _ (rZ (n:=st.n) hl);lia
   ·rw [lD (by lia)];rw [R.len] at hl⊢;lia
  by_cases h1:i<st.m0+st.k
  ·by_cases h2:j<st.m0+st.k
   ·exact R.inj i j h1 h2 e'
   ·have:j=st.m0+st.k:=by lia
    subst this
    rw [hadr] at e'
    exact absurd e' (key i h1)
  ·have:i=st.m0+st.k:=by lia
   subst this
   by_cases h2:j<st.m0+st.k
   ·rw [hadr] at e'
    exact absurd e'.symm (key j h2)
   ·lia
 ·intro i hi
  have hi':i<st.m0+(st.k+1):=hi
  by_cases h1:i<st.m0+st.k
  ·exact R.off i h1
  ·have:i=st.m0+st.k:=by lia
   subst this
   show V.kt.get (bm st.L st.n (st.m0+st.k))=none
   rw [hadr]
   cases q:V.kt.get (st.n+st.k) with
   |none=>rfl
   |some o'=>exact absurd (Iy R q) (Nat.lt_irrefl _)
 ·intro i h1 hi
  have hi':i<st.m0+(st.k+1):=hi
  by_cases h2:i<st.m0+st.k
  ·exact R.new i h1 h2
  ·have:i=st.m0+st.k:=by lia
   subst this
   show h0.objs.size<=bm st.L st.n (st.m0+st.k)
   rw [hadr]
   exact Nat.le_trans R.h0n (le_add_right ..)
 ·have hi':i<st.m0+(st.k+1):=hi
  by_cases h1:i<st.m0+st.k
  ·exact(R.dz x hx).2.1 i h1
  ·have:i=st.m0+st.k:=by lia
   subst this
   show bm st.L st.n (st.m0+st.k)≠x.1
   rw [hadr]
   have:=Heap.lt_size (R.dz x hx).1
   rw [R.size] at this
   exact fun q=>Nat.lt_irrefl _ (q▸this)
theorem f6.update{i:Nat}{f:Obj->Obj}{o:Obj}(e:st.T.get i=some o)(hf:(f o).isFreed=false)(hi:(Nat.blt i V.mm||Nat.ble V.ro i)=true):
  f6 V h0 d os {st with T:=st.T.set i f} {s with heap:=s.heap.update (bm st.L st.n i) f}:=by
 have z:=R.own _ _ e
 have hs:Heap.SameBut (bm st.L st.n i) s.heap (s.heap.update (bm st.L st.n i) f):=Heap.SameBut.update ..
 refine⟨R.len,by show(s.heap.update _ f).objs.size=_;rw [hs.1,R.size],?_,R.low,R.inj,?_,R.off,R.toks,R.gsize,R.gnew,R.gold,R.mro,R.new,?_,R.drawn,R.os,R.h0n,R.fz,fun x hx=>⟨(hs.2 x.1 fun q=>(R.dz x hx).2.1 i z.1 q.symm).trans (R.dz x hx).1,(R.dz x hx).2⟩⟩
 ·intro j o' e'
  have e':(st.T.set i f).get j=some o':=e'
  rw [BT.get_set] at e'
  by_cases hj:j=i
  ·subst hj
   rw [if_pos rfl,e] at e'
   cases e'
   refine⟨z.1,?_⟩
   show(s.heap.update (bm st.L st.n j) f).get? (bm st.L st.n j)=_
   first|exact Heap.get?_update_self f z.2 hf|exact Heap.get?_update_self _ z.2 hf
  ·rw [if_neg hj] at e'
   have y:=R.own j o' e'
   exact⟨y.1,(hs.2 _ fun q=>hj (R.inj _ _ y.1 z.1 q)).trans y.2⟩
 ·intro a o' e'
  refine(hs.2 a fun q=>?_).trans (R.kt a o' e')
  have:=R.off i z.1
  rw [<-q,e'] at this
  cases this
 ·intro b o' e' q
  refine(hs.2 b fun w=>?_).trans (R.keep b o' e' q)
  rw [Bool.or_eq_true] at hi
  rcases hi with hi|hi
  ·exact q i (le_of_ble_eq_true hi) w.symm
  ·have h1:=R.new i (le_of_ble_eq_true hi) z.1
   have h2:b<h0.objs.size:=Heap.lt_size e'
   rw [w] at h2
   exact absurd h2 (Nat.not_lt.mpr h1)
theorem f6.newGen(c:Code):f6 V h0 d os {st with gl:=st.gl++[.fresh c]} {s with gens:=s.gens.push (.fresh c)}:=by
 refine⟨R.len,R.size,R.own,R.low,R.inj,R.kt,R.off,R.toks,?_,?_,?_,R.mro,R.new,R.keep,R.drawn,R.os,R.h0n,R.fz,R.dz⟩
 ·show(s.gens.push _).size=st.gb+(st.gl++[_]).length
  rw [Array.size_push,R.gsize,List.length_append];simp;lia
 ·intro j x e
  have e:(st.gl++[.fresh c])[j]? =some x:=e
  show(s.gens.push (.fresh c))[st.gb+j]? =some x
  rw [getElem?_push,R.gsize]
  by_cases hj:j<st.gl.length
  ·rw [getElem?_append_left hj] at e
   rw [if_neg (by lia)]
   exact R.gnew j x e
  ·rw [getElem?_append_right (by lia)] at e
   have:j=st.gl.length:=by
    have:=(List.getElem?_eq_some_iff.mp e).1
    simp at this;lia
   subst this
   simp at e
   rw [if_pos rfl,e]
 ·intro j x h e
  have e:(s.gens.push (.fresh c))[j]? =some x:=e
  have h:j<st.gb:=h
  rw [getElem?_push,R.gsize,if_neg (by lia)] at e
  exact R.gold j x h e
theorem f6.setGen{j:Nat}(x:GenState):f6 V h0 d os {st with gl:=st.gl.set j x} (s.setGen (st.gb+j) x):=by
 refine⟨R.len,R.size,R.own,R.low,R.inj,R.kt,R.off,R.toks,?_,?_,?_,R.mro,R.new,R.keep,R.drawn,R.os,R.h0n,R.fz,R.dz⟩
 ·show(s.gens.setIfInBounds _ _).size=st.gb+(st.gl.set j x).length
  rw [Array.size_setIfInBounds,R.gsize,List.length_set]
 ·intro i y e
  have e:(st.gl.set j x)[i]? =some y:=e
  show(s.gens.setIfInBounds (st.gb+j) x)[st.gb+i]? =some y
  rw [getElem?_setIfInBounds]
  by_cases hij:j=i
  ·subst hij
   have hl:j<st.gl.length:=by
    have:=(List.getElem?_eq_some_iff.mp e).1
    simpa using this
   rw [List.getElem?_set_self hl] at e
   rw [if_pos rfl,if_pos (by rw [R.gsize];lia)];exact e
  ·rw [List.getElem?_set_ne hij] at e
   rw [if_neg (by lia)]
   exact R.gnew i y e
 ·intro i y h e
  have e:(s.gens.setIfInBounds (st.gb+j) x)[i]? =some y:=e
  have h:i<st.gb:=h
  rw [getElem?_setIfInBounds,if_neg (by lia)] at e
  exact R.gold i y h e
theorem f6.gen{j:Nat}{x:GenState}(e:st.gl[j]? =some x):s.gens[st.gb+j]? =some x:=R.gnew j x e
theorem pZ{a:Addr}{h:Nat}{hs:List Nat}{F:Obj->List Nat->Prop}(H:JI V a st h hs F):∃o hs',s.heap.get? a=some o/\F o hs':=by
 unfold JI at H
 split at H
 ·split at H
  ·rename_i o e;exact⟨o,hs,R.kt _ _ e,H⟩
  ·exact(bn H).elim
 ·split at H
  ·split at H
   ·rename_i o e;obtain⟨rfl,H⟩:=H;exact⟨o,hs,(R.own _ _ e).2,H⟩
   ·exact(bn H).elim
  ·unfold lV at H
   split at H
   ·exact(bn H).elim
   ·split at H
    ·exact(bn H).elim
    ·split at H
     ·rename_i o e;obtain⟨rfl,rfl,H⟩:=H;exact⟨_,_,(R.own _ _ e).2,H⟩
     ·exact(bn H).elim
end
def jR(V:XV)(M:Model)(h0:Heap)(d:Drawn)(os:OsState)(Γ:Ctx)(p:Pos)(t:Sem Fin)(fs:List Frame)(s:Shared)(K:jj):Prop:=
 ∃ev hs st s',dA M Γ p t fs s ev s'/\f6 V h0 d os st s'/\K ev hs st
theorem jR.step{V:XV}{M:Model}{h0:Heap}{d:Drawn}{os:OsState}{Γ:Ctx}{p p':Pos}{t t':Sem Fin}{s s₁:Shared}{K:jj}(G:jR V M h0 d os Γ p' t' [] s₁ K)
  (h:∀e s',Runs M Γ p' t' [] s₁ e s'->Runs M Γ p t [] s e s'):jR V M h0 d os Γ p t [] s K:=by
 refine gQ fun Q zQ=>?_
 obtain⟨ev,hs,st,s',r,R,k⟩:=G
 refine zQ ?_
 refine⟨ev,hs,st,s',?_,R,k⟩
 cases ev with
 |fin e=>exact h e s' r
 |again c=>
  obtain⟨a,b,q,f⟩:=r
  exact⟨a,b,q,fun e s'' x=>h e s'' (f e s'' x)⟩
end
section
variable{V:XV}{M:Model}(O:V.Ok M){h0:Heap}{d:Drawn}{os:OsState}(ih:wM)
 (IH:∀Γ p t fs hs st K s,ih Γ p t fs hs st K->f6 V h0 d os st s->jR V M h0 d os Γ p t fs s K)
include O IH
theorem iZ{Γ:Ctx}{p:Pos}{c:Code}{h:Option Value}{g:Bool}{l:List Value}{k:Result->Sem Fin}{hs:List Nat}{st:St}{K:jj}{s:Shared}
  (H:ih (Γ.enter c h p) p (M.den c) [] hs st (JV ih Γ p h g l k K)) (R:f6 V h0 d os st s):jR V M h0 d os Γ p (.call c h g l k) [] s K:=by
 refine gQ fun Q zQ=>?_
 obtain⟨ev,hs₁,st₁,s₁,r,R₁,k₁⟩:=IH _ _ _ _ _ _ _ s H R
 refine zQ ?_
 cases ev with
 |again=>exact(bn k₁).elim
 |fin e=>
  cases e with
  |ret x=>exact(IH _ _ _ _ _ _ _ s₁ k₁ R₁).step (fun e s' y=>Runs.call r y)
  |susp v g₀ l₀ k₀ c₀ p₀ fs₀=>exact⟨.fin _,_,_,_,Runs.callSusp r,R₁,k₁⟩
theorem pO{Γ:Ctx}{p:Pos}{c:Code}{h:Option Value}{g:Bool}{l:List Value}{k:Result->Sem Fin}{hs:List Nat}{st:St}{K:jj}{s:Shared}{v:Value}
  (H:ih (Γ.enter c h p) p (M.den c) [] hs st (PO ih Γ p v k K)) (R:f6 V h0 d os st s):jR V M h0 d os Γ p (.call c h g l k) [] s K:=by
 refine gQ fun Q zQ=>?_
 obtain⟨ev,hs₁,st₁,s₁,r,R₁,k₁⟩:=IH _ _ _ _ _ _ _ s H R
 refine zQ ?_
 cases ev with
 |again=>exact(bn k₁).elim
 |fin e=>
  cases e with
  |ret x=>
   obtain⟨rfl,k₁⟩:=k₁
   exact(IH _ _ _ _ _ _ _ s₁ k₁ R₁).step (fun e s' y=>Runs.call r y)
  |susp v g₀ l₀ k₀ c₀ p₀ fs₀=>exact(bn k₁).elim
theorem mR{Γ:Ctx}{p:Pos}{c₀:Code}{p₀:Pos}{t₀:Sem Fin}{fs₀:List Frame}{j:Nat}{g:Nat}{r:Resume}{l:List Value}{k:GenResult->Sem Fin}{hs:List Nat}{st:St}{K:jj}{s:Shared}
  (H:ih (Γ.wake c₀ p) p₀ t₀ fs₀ hs {st with gl:=st.gl.set j .running} (I9 ih Γ p g j k K)) (R:f6 V h0 d os st s) (hg:g=st.gb+j)
  (F:∀e₁ s₁ e s',Runs M (Γ.wake c₀ p) p₀ t₀ fs₀ (s.setGen g .running) e₁ s₁->e₁.quiet=true->Runs M Γ p (k e₁.result) [] (s₁.setGen g e₁.genState) e s'->Runs M Γ p (.resume g r l k) [] s e s'):
  jR V M h0 d os Γ p (.resume g r l k) [] s K:=by
 have R':=R.setGen (j:=j) .running
 rw [<-hg] at R'
 refine gQ fun Q zQ=>?_
 obtain⟨ev,hs₁,st₁,s₁,r₁,R₁,k₁⟩:=IH _ _ _ _ _ _ _ _ H R'
 refine zQ ?_
 cases ev with
 |again=>exact(bn k₁).elim
 |fin e=>
  simp only [I9] at k₁
  cases q:e.quiet with
  |false=>rw [q] at k₁;exact(bn k₁).elim
  |true=>
   rw [q] at k₁
   dsimp only at k₁
   split at k₁
   ·exact(bn k₁).elim
   obtain⟨hg₁,k₁⟩:=k₁
   have R₂:=R₁.setGen (j:=j) e.genState
   have hg₁:g=st₁.gb+j:=hg₁
   rw [<-hg₁] at R₂
   exact(IH _ _ _ _ _ _ _ _ k₁ R₂).step (fun e' s' y=>F e s₁ e' s' r₁ q y)
theorem qu{Γ:Ctx}{p:Pos}{c':Code}{hs:List Nat}{st:St}{K:jj}{s:Shared}(q:c'.quiet=true)(H:Mg V ih Γ p c' hs st K)(R:f6 V h0 d os st s):jR V M h0 d os Γ p (.pure (.again c')) [] s K:=by
 have go:∀hs,ih (Γ.goto c') p (V.den c') [] hs st K->jR V M h0 d os Γ p (.pure (.again c')) [] s K:=by
  intro hs H
  rw [O.den] at H
  obtain⟨ev,hs₁,st₁,s₁,r,R₁,k₁⟩:=IH _ _ _ _ _ _ _ s H R
  refine⟨ev,hs₁,st₁,s₁,?_,R₁,k₁⟩
  cases ev with
  |fin e=>exact Runs.again q r
  |again c=>
   obtain⟨a,b,p',f⟩:=r
   exact⟨rfl,b,p',fun e s'' x=>Runs.again q (f e s'' x)⟩
 unfold Mg at H
 split at H
 ·exact go _ H
 ·split at H
  ·exact go _ H
  ·split at H
   ·exact⟨.again c',_,st,s,⟨rfl,q,p,fun e s'' x=>Runs.again q x⟩,R,H⟩
   ·split at H
    ·obtain⟨hc,H⟩:=H
     obtain⟨ev,hs₁,st₁,s₁,r,R₁,k₁⟩:=IH _ _ _ _ _ _ _ s H R
     cases ev with
     |again c=>exact(bn k₁).elim
     |fin e=>
      cases e with
      |ret x=>refine⟨_,hs₁,st₁,s₁,?_,R₁,k₁⟩;exact Runs.again q (O.al _ h0 d os (Γ.goto c') c' st s p _ _ hc rfl R r)
      |susp=>exact(bn k₁).elim
    ·split at H
     ·exact go _ H
     ·split at H
      ·obtain⟨r,st',s',y,R',k'⟩:=O.sm _ h0 d os _ p c' st _ s H rfl R
       exact⟨.fin (.ret r),_,st',s',Runs.again q y,R',k'⟩
      ·exact go _ H
theorem yT{Γ:Ctx}{p:Pos}{c:Code}{h:Option Value}{g:Bool}{l:List Value}{k:Result->Sem Fin}{hs:List Nat}{st:St}{K:jj}{s:Shared}
  (H:Nd V ih Γ p c h g l k hs st K) (R:f6 V h0 d os st s):jR V M h0 d os Γ p (.call c h g l k) [] s K:=by
 unfold Nd at H
 rw [O.den] at H
 split at H
 ·exact iZ O ih IH H R
 ·split at H
  ·split at H
   ·obtain⟨hc,H⟩:=H
    obtain⟨ev,hs₁,st₁,s₁,r,R₁,k₁⟩:=IH _ _ _ _ _ _ _ s H R
    cases ev with
    |again=>exact(bn k₁).elim
    |fin e=>
     cases e with
     |ret x=>exact(IH _ _ _ _ _ _ _ s₁ k₁ R₁).step (fun e s' y=>Runs.call (O.al _ h0 d os (Γ.enter c h p) c st s p _ _ hc rfl R r) y)
     |susp v g₀ l₀ k₀ c₀ p₀ fs₀=>exact(bn k₁).elim
   ·split at H
    ·exact iZ O ih IH H R
    ·exact iZ O ih IH H R
  ·split at H
   ·obtain⟨r,st',s',y,R',k'⟩:=O.sm _ h0 d os _ p c st _ s H rfl R
    exact(IH _ _ _ _ _ _ _ s' k' R').step (fun e s'' x=>Runs.call y x)
   ·exact pO O ih IH H R
theorem rv{Γ:Ctx}{p:Pos}{t:Sem Fin}{hs:List Nat}{st:St}{K:jj}{s:Shared}(H:gA V ih Γ p t hs st K)(R:f6 V h0 d os st s):jR V M h0 d os Γ p t [] s K:=by
 cases t with
 |pure fin=>
  cases fin with
  |done f=>exact⟨.fin (.ret (.ok f)),_,st,s,Runs.done,R,H⟩
  |again c'=>
   simp only [gA] at H
   cases q:c'.quiet with
   |false=>rw [q] at H;exact(bn H).elim
   |true=>rw [q] at H;exact qu O ih IH q H R
 |raise e=>exact⟨.fin (.ret (.error e)),_,st,s,Runs.raise,R,H⟩
 |rule tag k=>exact(IH _ _ _ _ _ _ _ s H R).step (fun e s' y=>.rule y)
 |«at» p' k=>exact(IH _ _ _ _ _ _ _ s H R).step (fun e s' y=>.at y)
 |point l k=>exact(IH _ _ _ _ _ _ _ s H R).step (fun e s' y=>.point y)
 |ask k=>
  simp only [gA] at H
  rw [O.prog,O.w] at H
  exact(IH _ _ _ _ _ _ _ s H R).step (fun e s' y=>.ask y)
 |load a q k=>
  simp only [gA] at H
  unfold lV at H
  split at H
  ·exact(bn H).elim
  ·obtain⟨o,hs',ho,H⟩:=pZ R H
   exact(IH _ _ _ _ _ _ _ s H R).step (fun e s' y=>.load ho y)
 |loadIfAlive a k=>
  simp only [gA] at H
  unfold lV at H
  split at H
  ·exact(bn H).elim
  ·obtain⟨o,hs',ho,H⟩:=pZ R H
   exact(IH _ _ _ _ _ _ _ s H R).step (fun e s' y=>.loadIfAlive (by rw [ho];exact y))
 |alloc o k=>
  simp only [gA] at H
  split at H
  ·exact(bn H).elim
  ·rename_i hf
   split at H
   ·rename_i hg
    have R':=R.alloc hf hg
    have ea:s.heap.objs.size=Nat.add st.n st.k:=R.size
    rw [<-ea] at H
    exact(IH _ _ _ _ _ _ _ _ H R').step (fun e s' y=>.alloc y)
   ·exact(bn H).elim
 |update a q f k=>
  simp only [gA] at H
  unfold lV at H
  split at H
  ·exact(bn H).elim
  ·split at H
   ·exact(bn H).elim
   ·split at H
    ·rename_i o e
     split at H
     ·exact(bn H).elim
     ·rename_i hf
      split at H
      ·rename_i hi
       obtain⟨rfl,H⟩:=H
       have R':=R.update e hf hi
       exact(IH _ _ _ _ _ _ _ _ H R').step (fun e' s' y=>.update (by rw [(R.own _ _ e).2];rfl) y)
      ·exact(bn H).elim
    ·exact(bn H).elim
 |fresh k=>
  have e:s.toks=Nat.add st.tb st.ti:=R.toks
  simp only [gA] at H
  rw [<-e] at H
  exact(IH _ _ _ _ _ _ _ _ H R.toks').step (fun e s' y=>.fresh y)
 |handled own k=>
  refine(IH _ _ _ _ _ _ _ s H R).step (fun e s' y=>.handled ?_)
  cases own<;>exact y
 |stack k=>exact(IH _ _ _ _ _ _ _ s H R).step (fun e s' y=>.stack y)
 |call c h g l k=>exact yT O ih IH H R
 |newGen c' k=>
  have e:s.gens.size=Nat.add st.gb st.gl.length:=R.gsize
  simp only [gA] at H
  rw [<-e] at H
  exact(IH _ _ _ _ _ _ _ _ H (R.newGen c')).step (fun e s' y=>.newGen y)
 |genState g k=>
  simp only [gA] at H
  unfold zM lV at H
  split at H
  ·exact(bn H).elim
  ·rename_i hd tl
   revert H
   generalize hd-500=j
   intro H
   split at H
   ·rename_i x e
    obtain⟨rfl,H⟩:=H
    exact(IH _ _ _ _ _ _ _ s H R).step (fun e' s' y=>.genState (R.gen e) y)
   ·exact(bn H).elim
 |resume g r l k=>
  simp only [gA] at H
  unfold zM lV at H
  split at H
  ·exact(bn H).elim
  ·rename_i hd tl
   revert H
   generalize hd-500=j
   intro H
   split at H
   ·rename_i x e
    obtain⟨hg,H⟩:=H
    have hg:g=st.gb+_:=hg
    have eg:=R.gen e
    rw [<-hg] at eg
    split at H
    ·split at H
     ·split at H
      ·rw [O.den] at H
       exact mR O ih IH H R hg (fun e₁ s₁ e s' y q z=>.resumeFresh eg y q z)
      ·exact(bn H).elim
     ·exact(bn H).elim
    ·exact mR O ih IH H R hg (fun e₁ s₁ e s' y q z=>.resumeSuspended eg y q z)
    ·exact(bn H).elim
    ·exact(IH _ _ _ _ _ _ _ s H R).step (fun e s' y=>.resumeFinished eg y)
   ·exact(bn H).elim
 |«yield» v g l k=>exact⟨.fin _,_,st,s,Runs.yield,R,H⟩
 |thread k=>exact(IH _ _ _ _ _ _ _ s H R).step (fun e s' y=>.thread y)
 |unsupported=>exact(bn H).elim
 |finish=>exact(bn H).elim
 |register=>exact(bn H).elim
 |choose=>exact(bn H).elim
 |os=>exact(bn H).elim
 |fork=>exact(bn H).elim
 |await=>exact(bn H).elim
theorem qj(Γ:Ctx)(p:Pos)(t:Sem Fin)(fs:List Frame)(hs:List Nat)(st:St)(K:jj)(s:Shared)(H:Df V ih Γ p t fs hs st K)(R:f6 V h0 d os st s):jR V M h0 d os Γ p t fs s K:=by
 cases fs with
 |nil=>exact rv O ih IH H R
 |cons f fs=>
  obtain⟨ev,hs₁,st₁,s₁,r,R₁,k₁⟩:=IH _ _ _ _ _ _ _ s H R
  cases ev with
  |again=>exact(bn k₁).elim
  |fin e=>
   cases e with
   |ret x=>
    cases f with
    |gen=>exact(bn k₁).elim
    |ret k h g l c₁ p₁ kp=>
     obtain⟨ev,hs₂,st₂,s₂,r₂,R₂,k₂⟩:=IH _ _ _ _ _ _ _ s₁ k₁ R₁
     cases ev with
     |fin e=>exact⟨.fin e,_,_,_,Runs.segRet r r₂,R₂,k₂⟩
     |again c=>exact(bn k₂).elim
   |susp v g₀ l₀ k₀ c₀ p₀ fs₀=>
    simp only [PR] at k₁
    split at k₁
    ·rename_i hn
     exact⟨.fin _,_,_,_,Runs.segSuspOut hn r,R₁,k₁⟩
    ·exact(bn k₁).elim
end
theorem ik{V:XV}{M:Model}(O:V.Ok M){h0:Heap}{d:Drawn}{os:OsState}:∀N Γ p t fs hs st K s,cm V N Γ p t fs hs st K->f6 V h0 d os st s->jR V M h0 d os Γ p t fs s K
 |0,_,_,_,_,_,_,_,_,H,_=>(bn H).elim
 |N+1,Γ,p,t,fs,hs,st,K,s,H,R=>qj O (cm V N) (ik O N) Γ p t fs hs st K s H R
end
noncomputable def eG(P:Params):KT:=(KT.node (some (o0 P)) (KT.node (some (o1 P)) (KT.node (some (o3 P)) (KT.node (some (o7 P)) (KT.node (some (KI P)) (KT.node (some (Kl P)) (KT.node (some (KN P)) (KT.node (some (zK P)) .nil .nil) (KT.node (some (Cn P)) .nil .nil)) (KT.node (some (Jh P)) (KT.node (some (Cg P)) .nil .nil) (KT.node (some (DY P)) .nil .nil))) (KT.node (some (KC P)) (KT.node (some (J0 P)) (KT.node (some (Ay P)) .nil .nil) (KT.node (some (Ep P)) .nil .nil)) (KT.node (some (BX P)) (KT.node (some (CL P)) .nil .nil) (KT.node (some (Fa P)) .nil .nil)))) (KT.node (some (Ks P)) (KT.node (some (KG P)) (KT.node (some (Kt P)) (KT.node (some (AU P)) .nil .nil) (KT.node (some (Ej P)) .nil .nil)) (KT.node (some (A7 P)) (KT.node (some (zL P)) .nil .nil) (KT.node (some (AI P)) .nil .nil))) (KT.node (some (KA P)) (KT.node (some (Jp P)) (KT.node (some (B3 P)) .nil .nil) (KT.node (some (Ga P)) .nil .nil)) (KT.node (some (AR P)) (KT.node (some (A1 P)) .nil .nil) KT.nil)))) (KT.node (some (JP P)) (KT.node (some (Ky P)) (KT.node (some (Jy P)) (KT.node (some (IR P)) (KT.node (some (BA P)) .nil .nil) (KT.node (some (CI P)) .nil .nil)) (KT.node (some (I5 P)) (KT.node (some (Ch P)) .nil .nil) (KT.node (some (Gk P)) .nil .nil))) (KT.node (some (Jt P)) (KT.node (some (Kf P)) (KT.node none .nil .nil) (KT.node (some (F3 P)) .nil .nil)) (KT.node (some (An P)) (KT.node (some (Bo P)) .nil .nil) (KT.node (some (A2 P)) .nil .nil)))) (KT.node (some (Jl P)) (KT.node (some (IV P)) (KT.node (some (IU P)) (KT.node (some (BJ P)) .nil .nil) (KT.node (some (Gm P)) .nil .nil)) (KT.node (some (BD P)) (KT.node (some (Az P)) .nil .nil) (KT.node (some (Fg P)) .nil .nil))) (KT.node (some (Jo P)) (KT.node (some (Jz P)) (KT.node (some (AT P)) .nil .nil) (KT.node (some (AD P)) .nil .nil)) (KT.node (some (Bj P)) (KT.node (some (Br P)) .nil .nil) KT.nil))))) (KT.node (some (o5 P)) (KT.node (some (o9 P)) (KT.node (some (IZ P)) (KT.node (some (Ko P)) (KT.node (some (J5 P)) (KT.node (some (Ar P)) .nil .nil) (KT.node (some (A0 P)) .nil .nil)) (KT.node (some (Jn P)) (KT.node (some (AM P)) .nil .nil) (KT.node (some (EA P)) .nil .nil))) (KT.node (some (J1 P)) (KT.node (some (I0 P)) (KT.node (some (BS P)) .nil .nil) (KT.node (some (Gh P)) .nil .nil)) (KT.node (some (AL P)) (KT.node (some (AK P)) .nil .nil) (KT.node (some (FO P)) .nil .nil)))) (KT.node (some (Jm P)) (KT.node (some (Kx P)) (KT.node (some (Jx P)) (KT.node (some (Bd P)) .nil .nil) (KT.node (some (ES P)) .nil .nil)) (KT.node (some (Ba P)) (KT.node (some (Cb P)) .nil .nil) (KT.node (some (Ee P)) .nil .nil))) (KT.node (some (Jw P)) (KT.node (some (Ku P)) (KT.node (some (CS P)) .nil .nil) (KT.node (some (EQ P)) .nil .nil)) (KT.node (some (BR P)) (KT.node (some (Bz P)) .nil .nil) KT.nil)))) (KT.node (some (Ke P)) (KT.node (some (Ki P)) (KT.node (some (JM P)) (KT.node (some (Jc P)) (KT.node (some (zP P)) .nil .nil) (KT.node (some (xR P)) .nil .nil)) (KT.node (some (A3 P)) (KT.node (some (BG P)) .nil .nil) (KT.node (some (D2 P)) .nil .nil))) (KT.node (some (IT P)) (KT.node (some (JE P)) (KT.node (some (AF P)) .nil .nil) (KT.node (some (Gw P)) .nil .nil)) (KT.node (some (Cj P)) (KT.node (some (zO P)) .nil .nil) KT.nil))) (KT.node (some (JQ P)) (KT.node (some (J2 P)) (KT.node (some (JG P)) (KT.node (some (Al P)) .nil .nil) (KT.node (some (Gn P)) .nil .nil)) (KT.node (some (AY P)) (KT.node (some (Ca P)) .nil .nil) (KT.node (some (FY P)) .nil .nil))) (KT.node (some (JY P)) (KT.node (some (Kv P)) (KT.node (some (AX P)) .nil .nil) (KT.node (some (Fx P)) .nil .nil)) (KT.node (some (BW P)) (KT.node (some (A4 P)) .nil .nil) KT.nil)))))) (KT.node (some (o2 P)) (KT.node (some (o4 P)) (KT.node (some (o8 P)) (KT.node (some (JJ P)) (KT.node (some (Kd P)) (KT.node (some (Kp P)) (KT.node (some (Ah P)) .nil .nil) (KT.node (some (zS P)) .nil .nil)) (KT.node (some (Jg P)) (KT.node (some (Ci P)) .nil .nil) (KT.node (some (EZ P)) .nil .nil))) (KT.node (some (Km P)) (KT.node (some (Ji P)) (KT.node (some (Ap P)) .nil .nil) (KT.node (some (EB P)) .nil .nil)) (KT.node (some (Ck P)) (KT.node (some (Aw P)) .nil .nil) (KT.node (some (Ez P)) .nil .nil)))) (KT.node (some (Kq P)) (KT.node (some (Kj P)) (KT.node (some (JX P)) (KT.node (some (CX P)) .nil .nil) (KT.node (some (Er P)) .nil .nil)) (KT.node (some (Be P)) (KT.node (some (Cy P)) .nil .nil) (KT.node (some (Ex P)) .nil .nil))) (KT.node (some (J9 P)) (KT.node (some (JD P)) (KT.node (some (BI P)) .nil .nil) (KT.node (some (E8 P)) .nil .nil)) (KT.node (some (CR P)) (KT.node (some (AE P)) .nil .nil) KT.nil)))) (KT.node (some (NG P)) (KT.node (some (Jr P)) (KT.node (some (JH P)) (KT.node (some (IX P)) (KT.node (some (AV P)) .nil .nil) (KT.node (some (Bt P)) .nil .nil)) (KT.node (some (AW P)) (KT.node (some (B1 P)) .nil .nil) (KT.node (some (El P)) .nil .nil))) (KT.node (some (JZ P)) (KT.node (some (I8 P)) (KT.node (some (Ac P)) .nil .nil) (KT.node (some (FN P)) .nil .nil)) (KT.node (some (zF P)) (KT.node (some (Aa P)) .nil .nil) KT.nil))) (KT.node (some (JF P)) (KT.node (some (I2 P)) (KT.node (some (IL P)) (KT.node none .nil .nil) (KT.node (some (Fq P)) .nil .nil)) (KT.node (some (B2 P)) (KT.node (some (Cf P)) .nil .nil) (KT.node (some (Fw P)) .nil .nil))) (KT.node (some (KM P)) (KT.node (some (IO P)) (KT.node (some (A8 P)) .nil .nil) (KT.node (some (FS P)) .nil .nil)) (KT.node (some (BN P)) (KT.node (some (zI P)) .nil .nil) KT.nil))))) (KT.node (some (o6 P)) (KT.node (some (IS P)) (KT.node (some (Jb P)) (KT.node (some (IW P)) (KT.node (some (Jk P)) (KT.node (some (CK P)) .nil .nil) (KT.node (some (CD P)) .nil .nil)) (KT.node (some (Kz P)) (KT.node (some (zW P)) .nil .nil) (KT.node (some (Gd P)) .nil .nil))) (KT.node (some (IY P)) (KT.node (some (JC P)) (KT.node (some (Cv P)) .nil .nil) (KT.node (some (Gp P)) .nil .nil)) (KT.node (some (BB P)) (KT.node (some (Af P)) .nil .nil) (KT.node (some (EM P)) .nil .nil)))) (KT.node (some (JR P)) (KT.node (some (Kg P)) (KT.node (some (Jq P)) (KT.node (some (Cp P)) .nil .nil) (KT.node (some (EJ P)) .nil .nil)) (KT.node (some (B5 P)) (KT.node (some (Cw P)) .nil .nil) (KT.node (some (EK P)) .nil .nil))) (KT.node (some (Jd P)) (KT.node (some (JS P)) (KT.node (some (Av P)) .nil .nil) (KT.node (some (Gv P)) .nil .nil)) (KT.node (some (AN P)) (KT.node (some (A5 P)) .nil .nil) KT.nil)))) (KT.node (some (KL P)) (KT.node (some (J3 P)) (KT.node (some (Ka P)) (KT.node (some (JT P)) (KT.node (some (CM P)) .nil .nil) (KT.node (some (GC P)) .nil .nil)) (KT.node (some (Ao P)) (KT.node (some (BM P)) .nil .nil) (KT.node (some (Fz P)) .nil .nil))) (KT.node (some (JN P)) (KT.node (some (Kn P)) (KT.node (some (Ak P)) .nil .nil) (KT.node (some (Ax P)) .nil .nil)) (KT.node (some (CW P)) (KT.node (some (Bk P)) .nil .nil) KT.nil))) (KT.node (some (Je P)) (KT.node (some (Jf P)) (KT.node (some (KK P)) (KT.node (some (As P)) .nil .nil) (KT.node (some (D4 P)) .nil .nil)) (KT.node (some (A9 P)) (KT.node (some (Bp P)) .nil .nil) (KT.node (some (Cx P)) .nil .nil))) (KT.node (some (KD P)) (KT.node (some (KF P)) (KT.node (some (Cu P)) .nil .nil) (KT.node (some (Go P)) .nil .nil)) (KT.node (some (Ag P)) (KT.node (some (BZ P)) .nil .nil) KT.nil)))))))
noncomputable def PZ:Option Obj->Nat
 |some _=>1
 |none=>0
noncomputable def Py:Nat->Nat
 |0=>0
 |n+1=>2*(n+1)+1
noncomputable def gz:KT->Nat
 |.nil=>0
 |.node v l r=>Nat.max (PZ v) (Nat.max (2*gz l) (Py (gz r)))
theorem jO:∀(t:KT) (i:Nat) (o:Obj),t.get i=some o->i<gz t
 |.nil,_,_,e=>by cases e
 |.node v l r,i,o,e=>by
  rw [KT.get_node] at e
  have h1:PZ v<=gz (.node v l r):=Nat.le_max_left ..
  have h2:2*gz l<=gz (.node v l r):=Nat.le_trans (Nat.le_max_left ..) (Nat.le_max_right ..)
  have h3:Py (gz r)<=gz (.node v l r):=Nat.le_trans (Nat.le_max_right ..) (Nat.le_max_right ..)
  by_cases h0:i=0
  ·rw [if_pos h0] at e
   subst e
   have:1<=gz (.node (some o) l r):=h1
   lia
  ·rw [if_neg h0] at e
   by_cases p:i % 2=1
   ·rw [if_pos p] at e
    have:=jO l _ _ e
    lia
   ·rw [if_neg p] at e
    have z:=jO r _ _ e
    revert h3
    cases q:gz r with
    |zero=>lia
    |succ n=>intro h3;have:2*(n+1)+1<=gz (.node v l r):=h3;lia
theorem AQ(P:Params):gz (eG P)=244:=by kernel_rfl
noncomputable def IA(h:Heap):Nat->Nat->Nat->KT
 |0,_,_=>.nil
 |n+1,s,b=>match h.get? b with
  |none=>.nil
  |some o=>.node (if(b==140||b==147)=true then none else some o) (IA h n (2*s) (s+b)) (IA h n (2*s) (2*s+b))
theorem sk(h:Heap):∀n s b,KT.Holds h s b (IA h n s b)
 |0,_,_=>trivial
 |n+1,s,b=>by
  unfold IA
  split
  ·trivial
  ·rename_i o e
   refine⟨fun x hx=>?_,sk h n _ _,sk h n _ _⟩
   split at hx
   ·cases hx
   ·exact e.trans hx
theorem uS(P:Params):KT.Holds (dD P) 1 0 (eG P):=by
 have e:IA (dD P) 9 1 0=eG P:=by kernel_rfl
 exact e▸sk _ _ _ _
theorem so{P:Params}{a:Nat}{o:Obj}(e:(eG P).get a=some o):a<244/\a≠140/\a≠147/\(dD P).get? a=some o:=by
 have h:=jO _ _ _ e
 rw [AQ] at h
 have g:=(uS P).get e
 rw [Nat.one_mul,Nat.add_zero] at g
 refine⟨h,?_,?_,g⟩
 ·rintro rfl;cases(show(none:Option Obj)=some o from e)
 ·rintro rfl;cases(show(none:Option Obj)=some o from e)
noncomputable def xb:Nat->List Obj->BT->BT
 |_,[],t=>t
 |k,o::l,t=>xb (k+1) l (t.ins k o)
noncomputable def Hx(l:List Obj):BT:=xb 0 l .nil
theorem kR(o:Obj):∀(t:BT) (k:Nat),(∀i,(t.get i).isSome=true↔i<k)->((t.ins k o).get k).isSome=true
 |.nil,k,h=>by
  have:k=0:=by
   cases k with
   |zero=>rfl
   |succ k=>have:=(h 0).mpr (by lia);simp [BT.get] at this
  subst this;rfl
 |.node v l r,k,h=>by
  have h0:0<k:=(h 0).mp rfl
  rw [BT.ins_node,if_neg (by lia)]
  by_cases p:k % 2=1
  ·rw [if_pos p,BT.get_node,if_neg (by lia),if_pos p]
   refine kR o l (k/2) fun i=>?_
   have z:=h (2*i+1)
   rw [BT.get_node,if_neg (by lia),if_pos (by lia),show(2*i+1)/2=i by lia] at z
   rw [z];lia
  ·rw [if_neg p,BT.get_node,if_neg (by lia),if_neg p]
   refine kR o r (k/2-1) fun i=>?_
   have z:=h (2*i+2)
   rw [BT.get_node,if_neg (by lia),if_neg (by lia),show(2*i+2)/2-1=i by lia] at z
   rw [z];lia
theorem mJ:∀(l:List Obj) (k:Nat) (t:BT),(∀i,(t.get i).isSome=true↔i<k)->∀i o,(xb k l t).get i=some o->(i<k/\t.get i=some o)\/(k<=i/\l[i-k]? =some o)
 |[],k,t,h,i,o,e=>.inl ⟨(h i).mp (by rw [show t.get i=some o from e];rfl),e⟩
 |x::l,k,t,h,i,o,e=>by
  have hi:=kR x t k h
  have h':∀i,((t.ins k x).get i).isSome=true↔i<k+1:=by
   intro i
   rw [BT.get_ins x t k hi]
   by_cases q:i=k
   ·subst q;simp
   ·rw [if_neg q,h i];omega
  rcases mJ l (k+1) (t.ins k x) h' i o e with⟨a,b⟩|⟨a,b⟩
  ·rw [BT.get_ins x t k hi] at b
   by_cases q:i=k
   ·subst q
    rw [if_pos rfl] at b
    exact .inr ⟨Nat.le_refl _,by rw [Nat.sub_self];exact b⟩
   ·rw [if_neg q] at b
    exact .inl ⟨by omega,b⟩
  ·refine .inr ⟨by omega,?_⟩
   rw [show i-k=(i-(k+1))+1 by omega]
   exact b
theorem xv{l:List Obj}{i:Nat}{o:Obj}(e:(Hx l).get i=some o):l[i]? =some o:=by
 rcases mJ l 0 .nil (fun i=>by simp [BT.get]) i o e with⟨a,_⟩|⟨_,b⟩
 ·lia
 ·exact b
noncomputable abbrev W2(w:World)(b1 b2:Bool):World:=(w.withFollow "special-get-raises" b1).withFollow "comprehension-iter-twice" b2
structure WW where
 w:World
 b1:Bool
 b2:Bool
noncomputable abbrev Vw(W:WW):World:=W2 W.w W.b1 W.b2
noncomputable abbrev pW(W:WW):Params:=(Vw W).params
abbrev dh:=Nat×Obj
abbrev ae:=List dh
def cI:ae->Heap->Prop
 |[],_=>True
 |x::E,h=>h.get? x.1=some x.2/\cI E h
theorem cI.get:∀{E:ae} {h:Heap},cI E h->∀{i:Nat} {x:Nat×Obj},E[i]? =some x->h.get? x.1=some x.2
 |[],_,_,i,_,e=>by simp at e
 |y::E,h,H,0,x,e=>by simp at e;subst e;exact H.1
 |y::E,h,H,i+1,x,e=>cI.get H.2 (i:=i) (by simpa using e)
structure cN(P:Params)(s:Shared):Prop where
 base:∀a o,(eG P).get a=some o->s.heap.get? a=some o
 gens:∀(j:Nat) (x:GenState),s.gens[j]? =some x->x=.finished
 size:245<=s.heap.objs.size
 toks:677<=s.toks
noncomputable abbrev qU(E:ae)(n tb gb:Nat):St:=⟨E.map (·.1),E.length,n,0,Hx (E.map (·.2)),tb,0,gb,[],[]⟩
def F1(a:Nat):Prop:=244<=a\/a=140\/a=147
theorem jg{P:Params}{a:Nat}(h:F1 a):(eG P).get a=none:=by
 cases q:(eG P).get a with
 |none=>rfl
 |some o=>
  have z:=so q
  rcases h with h|h|h<;>lia
theorem gZ:∀{E:ae} {n i:Nat} {x:Nat×Obj},E[i]? =some x->bm (E.map (·.1)) n i=x.1
 |[],_,i,_,e=>by simp at e
 |y::E,n,0,x,e=>by simp at e;subst e;rfl
 |y::E,n,i+1,x,e=>gZ (E:=E) (n:=n) (i:=i) (by simpa using e)
theorem xX{V:XV}{P:Params}{E:ae}{n tb gb:Nat}{s:Shared}(hk:V.kt=eG P)(hm:V.mm=E.length)(hr:V.ro=E.length)(hR:cN P s)(hH:cI E s.heap)(nd:(E.map (·.1)).Nodup)
  (lo:∀a∈E.map (·.1),(eG P).get a=none) (hn:s.heap.objs.size=n) (ht:s.toks=tb) (hg:s.gens.size=gb) (hf:∀x∈V.fz,s.heap.get? x.1=some x.2/\x.1∉E.map (·.1)):f6 V s.heap s.drawn s.os (qU E n tb gb) s:=by
 have low:∀a∈E.map (·.1),a<n:=by
  intro a ha
  obtain⟨x,hx,rfl⟩:=List.mem_map.mp ha
  obtain⟨i,hi⟩:=List.mem_iff_getElem?.mp hx
  rw [<-hn];exact Heap.lt_size (hH.get hi)
 have aa:∀i,i<E.length->∃x,E[i]? =some x:=fun i hi=>⟨_,List.getElem?_eq_getElem hi⟩
 refine⟨by simp,by simpa using hn,?_,low,?_,fun a o e=>hR.base a o (by rw [hk] at e;exact e),?_,by simpa using ht,by simpa using hg,by intro j x e;simp at e,?_,?_,?_,fun b o e _=>e,rfl,rfl,?_,?_,fun x hx=>nomatch hx⟩
 ·intro i o e
  have z:=xv e
  rw [getElem?_map] at z
  obtain⟨x,hx,rfl⟩:=Option.map_eq_some_iff.mp z
  have hi:=(List.getElem?_eq_some_iff.mp hx).1
  refine⟨by simpa using hi,?_⟩
  show s.heap.get? (bm (E.map (·.1)) n i)=_
  rw [gZ hx];exact hH.get hx
 ·intro i j hi hj e
  obtain⟨x,hx⟩:=aa i (by simpa using hi)
  obtain⟨y,hy⟩:=aa j (by simpa using hj)
  have e:bm (E.map (·.1)) n i=bm (E.map (·.1)) n j:=e
  rw [gZ hx,gZ hy] at e
  have hx':(E.map (·.1))[i]? =some x.1:=by rw [getElem?_map,hx];rfl
  have hy':(E.map (·.1))[j]? =some x.1:=by rw [getElem?_map,hy,e];rfl
  exact(getElem?_inj (by simpa using hi) nd).mp (hx'.trans hy'.symm)
 ·intro i hi
  obtain⟨x,hx⟩:=aa i (by simpa using hi)
  show V.kt.get (bm (E.map (·.1)) n i)=none
  rw [gZ hx,hk]
  exact lo x.1 (List.mem_map.mpr ⟨x,mem_of_getElem? hx,rfl⟩)
 ·intro j x _ e;exact hR.gens j x e
 ·rw [hm,hr];exact⟨Nat.le_refl _,Nat.le_refl _⟩
 ·intro i h1 hi
  rw [hr] at h1
  simp at hi;lia
 ·rw [<-hn];exact Nat.le_refl _
 ·intro x hx
  refine⟨(hf x hx).1,fun i hi q=>(hf x hx).2 ?_⟩
  rw [hm] at hi
  obtain⟨y,hy⟩:=aa i hi
  have q:bm (E.map (·.1)) n i=x.1:=q
  rw [gZ hy] at q
  exact List.mem_map.mpr ⟨y,mem_of_getElem? hy,q⟩
def ad(L:List Nat)(n gb:Nat):List Nat->Prop->Prop
 |[],R=>R
 |h::hs,R=>match h with
  |0=>ad L n gb hs R
  |i+1=>match Nat.ble 500 (i+1) with
   |true=>Nat.add gb (i+1-500)=Nat.add gb (i+1-500)/\ad L n gb hs R
   |false=>bm L n i=bm L n i/\ad L n gb hs R
theorem ag{L:List Nat}{n gb:Nat}{R:Prop}(r:R):∀hs,ad L n gb hs R
 |[]=>r
 |0::hs=>ag r hs
 |(i+1)::hs=>by
  show(match Nat.ble 500 (i+1) with|true=>_/\ad L n gb hs R|false=>_/\ad L n gb hs R)
  split
  ·exact⟨rfl,ag r hs⟩
  ·exact⟨rfl,ag r hs⟩
noncomputable def l9:GenState->Bool
 |.finished=>true
 |_=>false
section
structure PK where
 ld:Env->Str->Sem Value
 ity:Value->Sem Bool
 cl:Value->List Value->Sem Value
 fd:Value->Sem FuncData
 fld:Value->Nat->Sem Value
 sup:Env->Pos->Expr->Str->Pos->Pos->List Expr->List Keyword->Value->Sem Value
 ex:List Stmt->Env->Sem Flow
 lv:Env->Value->Sem Unit
 dv:Expr->Pos->Value->Sem Flow
 sw:Expr->Option Expr->Nat->Env->Sem Bool
 ia:Env->Bool
noncomputable def C2:PK:=⟨loadName,isType,fun f l=>call f l,funcData,field,fun env p1 o name apos pos args kws ov=>methodCall o name apos pos env ov (args.length+kws.length) (backTo pos (starEach args env)) (backToKw pos (keywordEach kws env)),
 execs,leaving,dropValue,swapsWith,interactive⟩
noncomputable def MO:PK:=⟨Fast.tw8468629109055619292,Fast.tw10380811246957099773,fun f l=>Fast.tw11478286150595567475 f l,Fast.tw16755525298939948312,Fast.tw6609576154772507232,
 fun env p1 o name apos pos args kws ov=>Fast.tw13401596951702201221 o name apos pos env ov (args.length+kws.length) (Fast.tw4897270859577272712 pos (Fast.tw13897175071876407860 args env)) (Fast.tw621762911399731506 pos (Fast.tw11621922129505618389 kws env)),
 Fast.tw12563942051412417395,Fast.tw9442747609961115081,Fast.tw12372662630863984472,Fast.tw17223243974762974889,Fast.tw15112477048112897374⟩
theorem Il:MO=C2:=by
 unfold MO C2
 simp only [<-Fast.te8468629109055619292,<-Fast.te10380811246957099773,<-Fast.te11478286150595567475,<-Fast.te16755525298939948312,<-Fast.te6609576154772507232,<-Fast.te13401596951702201221,<-Fast.te4897270859577272712,<-Fast.te13897175071876407860,
  <-Fast.te621762911399731506,<-Fast.te11621922129505618389,<-Fast.te12563942051412417395,<-Fast.te9442747609961115081,<-Fast.te12372662630863984472,<-Fast.te17223243974762974889,<-Fast.te15112477048112897374]
section
variable(k:PK)
noncomputable def DV(env:Env)(p1:Pos)(x:Str):Sem Value:=do
 rule "super.attribute-form"
 standAt p1
 let g<-k.ld env "super"
 let cls<-k.ld env "__class__"
 let self<-k.ld env x
 let t<-k.ity cls
 if g==.type "super"&&t then k.cl g [cls,self] else unsupported ""
noncomputable def tQ(env:Env)(p1:Pos)(x:Str)(pr:Program)(file:Value):Sem Value:=match file with
 |.str file _=>if pr.main.file==file&& !(pr.main.scope.names.lookup ("super":Str)).isSome then DV k env p1 x else unsupported ""
 |_=>unsupported ""
noncomputable def nG(env:Env)(p1:Pos):Sem Value:=match env.func,env.code with
 |some f,.ref cc=>do
  let fd<-k.fd (.ref f)
  match(fd.params.posonlyargs++fd.params.args).head? with
  |none=>unsupported ""
  |some ar=>do
   let a<-ask
   let file<-k.fld (.ref cc) 2
   tQ k env p1 ar.arg a.program file
 |_,_=>unsupported ""
noncomputable def tW(env:Env)(p1:Pos)(o:Expr)(name:Str)(apos pos:Pos)(args:List Expr)(kws:List Keyword):Sem Value:=do
 let ov<-nG k env p1
 standAt apos.atName
 k.sup env p1 o name apos pos args kws ov
noncomputable def xJ{α:Type}(e:Expr)(d:α)(f:Expr->List Expr->List Keyword->Pos->α):α:=match e with|.Call g a k p=>f g a k p|_=>d
theorem qx{α:Type}{P:α->Prop}{e:Expr}{d:α}{f:Expr->List Expr->List Keyword->Pos->α}(hd:P d)(h:∀g a k p,e=.Call g a k p->P (f g a k p)):P (xJ e d f):=by
 cases e<;>first|exact hd|exact h _ _ _ _ rfl
noncomputable def DR{α:Type}(e:Expr)(d:α)(f:Expr->Str->Pos->α):α:=match e with|.Attribute g n p=>f g n p|_=>d
theorem yN{α:Type}{P:α->Prop}{e:Expr}{d:α}{f:Expr->Str->Pos->α}(hd:P d)(h:∀g n p,e=.Attribute g n p->P (f g n p)):P (DR e d f):=by
 cases e<;>first|exact hd|exact h _ _ _ rfl
noncomputable def DH{α:Type}(e:Expr)(d:α)(f:Str->Pos->α):α:=match e with|.Name n p=>f n p|_=>d
theorem xS{α:Type}{P:α->Prop}{e:Expr}{d:α}{f:Str->Pos->α}(hd:P d)(h:∀n p,e=.Name n p->P (f n p)):P (DH e d f):=by
 cases e<;>first|exact hd|exact h _ _ rfl
noncomputable def wE{α β:Type}(l:List β)(d x:α):α:=match l with|[]=>x|_=>d
theorem Dz{α β:Type}{P:α->Prop}{l:List β}{d x:α}(hd:P d)(h:l=[]->P x):P (wE l d x):=by
 cases l with
 |nil=>exact h rfl
 |cons=>exact hd
noncomputable def GK{α:Type}(e:Expr)(d:α)(f:Str->Pos->Pos->Str->Pos->List Expr->List Keyword->Pos->α):α:=
 xJ e d fun g as ks pos=>DR g d fun h name apos=>xJ h d fun n al kl p1=>DH n d fun id p0=>wE al d (wE kl d (f id p0 p1 name apos as ks pos))
theorem BQ{α:Type}{P:α->Prop}{e:Expr}{d:α}{f:Str->Pos->Pos->Str->Pos->List Expr->List Keyword->Pos->α}(hd:P d)(h:∀id p0 p1 name apos as ks pos,e=.Call (.Attribute (.Call (.Name id p0) [] [] p1) name apos) as ks pos->P (f id p0 p1 name apos as ks pos)):P (GK e d f):=
 qx hd fun _ as ks pos e1=>yN hd fun _ name apos e2=>qx hd fun _ _ _ p1 e3=>xS hd fun id p0 e4=>Dz hd fun e5=>Dz hd fun e6=>h id p0 p1 name apos as ks pos (by rw [e1,e2,e3,e4,e5,e6])
noncomputable def OY{α:Type}(s:Stmt)(d:α)(f g:Expr->Pos->α):α:=match s with|.Return (some e) p=>f e p|.Expr e p=>g e p|_=>d
theorem Es{α:Type}{P:α->Prop}{s:Stmt}{d:α}{f g:Expr->Pos->α}(hd:P d)(h:∀e p,s=.Return (some e) p->P (f e p))(k:∀e p,s=.Expr e p->P (g e p)):P (OY s d f g):=by
 cases s<;>first|exact hd|exact k _ _ rfl|(rename_i v p;cases v<;>first|exact hd|exact h _ _ rfl)
noncomputable def oi(st:Stmt)(env:Env):Option (Sem Flow):=OY st none
 (fun e rpos=>GK e none fun id p0 p1 name apos args kws pos=>bif id==("super":Str)&& !(name==("__class__":Str)) then
   some (do standAt rpos;return .ret (<-tW k env p1 (.Call (.Name id p0) [] [] p1) name apos pos args kws)) else none)
 fun e epos=>GK e none fun id p0 p1 name apos args kws pos=>bif id==("super":Str)&& !(name==("__class__":Str)) then
   some (do
    standAt epos
    if k.ia env then unsupported ""
    else if<-k.sw e none epos.line env then unsupported ""
    else k.dv e epos (<-tW k env p1 (.Call (.Name id p0) [] [] p1) name apos pos args kws)) else none
noncomputable def kW:List Stmt->Env->Sem Flow
 |[],_=>pure .next
 |s::rest,env=>do
  match<-(oi k s env).getD (k.ex [s] env) with
  |.next=>kW rest env
  |f=>pure f
noncomputable def sH(body:List Stmt)(env:Env):Sem Fin:=do
 point
 match<-(kW k body env).onRaise (k.lv env) with
 |.ret v=>ret v
 |_=>ret .none
end
abbrev Le{α:Type}(M:Model)(Γ:Ctx)(t t':Sem α):Prop:=∀(Q:α->Pos->Shared->Prop) (E:Value->Pos->Shared->Prop) p s,Sem.wp M Γ t' Q E p s->Sem.wp M Γ t Q E p s
theorem Le.bind{α β:Type}{M:Model}{Γ:Ctx}{t t':Sem α}{f f':α->Sem β}(h:Le M Γ t t')(k:∀a,Le M Γ (f a) (f' a)):Le M Γ (t>>=f) (t'>>=f'):=by
 intro Q E p s H
 rw [Sem.wp_bind'] at H⊢
 exact h _ _ _ _ (Sem.wp_mono M Γ t' (fun a p s x=>k a _ _ _ _ x) (fun _ _ _ x=>x) p s H)
theorem Le.rfl'{α:Type}{M:Model}{Γ:Ctx}(t:Sem α):Le M Γ t t:=fun _ _ _ _ h=>h
theorem Le.onRaise{α:Type}{M:Model}{Γ:Ctx}{t t':Sem α}{f:Value->Sem Unit}(h:Le M Γ t t'):Le M Γ (t.onRaise f) (t'.onRaise f):=by
 intro Q E p s H
 rw [Sem.wp_onRaise] at H⊢
 exact h _ _ _ _ H
theorem Cq{M:Model}{body:List Stmt}{env:Env}{h ow:Option Value}{bl:List (Code×Pos)}{pa:Option Value}:Le M ⟨.func body env,h,ow,bl,pa⟩ comprehensionsAround (pure []):=by
 intro Q E p s H
 unfold comprehensionsAround callersCodes
 simp only [Sem.wp_bind',bind_assoc]
 show Sem.wp M _ (if(some env.frame !=some env.frame)=true then _ else _) _ _ _ _
 rw [if_neg (by simp)]
 exact H
abbrev nW:=Code×Pos
theorem ln{M:Model}{body:List Stmt}{env:Env}{hd ow:Option Value}{bl:List nW}{pa:Option Value}{p0 p1:Pos}{attr:Str}{whole:Sem Value}
  (hks:env.kindOf "super"=some .globalImplicit) (hkc:env.kindOf "__class__"=some .free) (hat:(attr==("__class__":Str))=false):
  Le M ⟨.func body env,hd,ow,bl,pa⟩ (attributeBase (.Call (.Name "super" p0) [] [] p1) attr env whole) (nG C2 env p1):=by
 intro Q E p s H
 unfold nG at H
 split at H
 ·rename_i f cc hfu hco
  unfold attributeBase
  simp only [bne_self_eq_false,hat,hks,hkc,hfu,hco,Bool.or_self,Bool.false_eq_true,if_false,Option.isSome_some,if_true,pure_bind]
  refine Le.bind (Le.rfl' _) (fun fd=>?_) Q E p s H
  cases(fd.params.posonlyargs++fd.params.args).head? with
  |none=>exact fun _ _ _ _ h=>h.elim
  |some ar=>
   refine Le.bind (Le.rfl' _) (fun a=>?_)
   refine Le.bind (Le.rfl' _) (fun file=>?_)
   unfold tQ
   cases file with
   |str file tk=>
    dsimp only
    by_cases c:(a.program.main.file==file&& !(a.program.main.scope.names.lookup ("super":Str)).isSome)=true
    ·rw [if_pos c]
     obtain⟨c1,c2⟩:=Bool.and_eq_true_iff.mp c
     have c2:(List.lookup (Str.ofString "super") a.program.main.scope.names).isSome=false:=by
      simpa using c2
     simp only [c1,c2,if_true,Bool.false_eq_true,if_false]
     unfold DV
     refine Le.bind (Le.rfl' _) (fun _=>Le.bind (Le.rfl' _) (fun _=>Le.bind (Le.rfl' _) (fun g=>Le.bind (Le.rfl' _) (fun cls=>?_))))
     refine fun Q E p s H=>?_
     rw [Sem.wp_bind']
     refine Cq _ _ _ _ ?_
     show Sem.wp M _ (loadName env ar.arg>>=_) _ _ _ _
     refine Le.bind (Le.rfl' _) (fun self=>Le.bind (Le.rfl' _) (fun t=>?_)) Q E p s H
     by_cases q:(g==.type "super"&&t)=true
     ·rw [if_pos q,if_pos q];exact Le.rfl' _
     ·rw [if_neg q,if_neg q];exact fun _ _ _ _ (h:False)=>h.elim
    ·rw [if_neg c];exact fun _ _ _ _ h=>h.elim
   |_=>exact fun _ _ _ _ (h:False)=>h.elim
 ·exact H.elim
theorem HP{α:Type}{a b:Bool}{x y:α}{P:Prop}(e:(bif a&& !b then some x else none)=some y)(h:a=true->b=false->x=y->P):P:=by
 cases a<;>cases b<;>first|cases e;done|exact h rfl rfl (Option.some.inj e)
theorem rb{M:Model}{body:List Stmt}{env:Env}{hd ow:Option Value}{bl:List nW}{pa:Option Value}{st:Stmt}{t:Sem Flow}
  (hks:env.kindOf "super"=some .globalImplicit) (hkc:env.kindOf "__class__"=some .free) (e:oi C2 st env=some t):Le M ⟨.func body env,hd,ow,bl,pa⟩ (exec st env) t:=by
 revert e
 refine Es (P:=fun y=>y=some t->_) (fun e=>nomatch e) (fun x rpos hs=>?_) (fun x rpos hs=>?_)<;>subst hs<;>refine BQ (P:=fun y=>y=some t->_) (fun e=>nomatch e) fun id p0 p1 name apos args kws pos hx e=>HP e fun c1 c2 et=>?_
 ·have c1:=eq_of_beq c1
  subst c1 et hx
  show Le _ _ (do standAt rpos;return Flow.ret (<-(do let ov<-attributeBase (.Call (.Name "super" p0) [] [] p1) name env (eval (.Call (.Name "super" p0) [] [] p1) env);standAt apos.atName;C2.sup env p1 (.Call (.Name "super" p0) [] [] p1) name apos pos args kws ov))) _
  refine Le.bind (Le.rfl' _) fun _=>Le.bind ?_ fun _=>Le.rfl' _
  exact Le.bind (ln hks hkc c2) fun _=>Le.rfl' _
 ·have c1:=eq_of_beq c1
  subst c1 et hx
  show Le _ _ (do
   standAt rpos
   if interactive env then printExpr (eval (.Call (.Attribute (.Call (.Name "super" p0) [] [] p1) name apos) args kws pos) env)
   else if<-swapsWith (.Call (.Attribute (.Call (.Name "super" p0) [] [] p1) name apos) args kws pos) none rpos.line env then do evalThenUse (.Call (.Attribute (.Call (.Name "super" p0) [] [] p1) name apos) args kws pos) env fun _=>point;pure .next
   else do dropValue (.Call (.Attribute (.Call (.Name "super" p0) [] [] p1) name apos) args kws pos) rpos (<-eval (.Call (.Attribute (.Call (.Name "super" p0) [] [] p1) name apos) args kws pos) env)) _
  refine Le.bind (Le.rfl' _) fun _=>?_
  show Le _ _ _ (if interactive env then _ else _)
  by_cases hi:interactive env=true
  ·rw [if_pos hi,if_pos hi];exact fun _ _ _ _ (h:False)=>h.elim
  ·rw [if_neg hi,if_neg hi]
   refine Le.bind (Le.rfl' _) fun b=>?_
   cases b with
   |true=>exact fun _ _ _ _ (h:False)=>h.elim
   |false=>
    show Le _ _ (_>>=_) (_>>=_)
    refine Le.bind ?_ fun _=>Le.rfl' _
    exact Le.bind (ln hks hkc c2) fun _=>Le.rfl' _
theorem gR{M:Model}{body:List Stmt}{env:Env}{hd ow:Option Value}{bl:List nW}{pa:Option Value}
  (hks:env.kindOf "super"=some .globalImplicit) (hkc:env.kindOf "__class__"=some .free):∀l,Le M ⟨.func body env,hd,ow,bl,pa⟩ (execs l env) (kW C2 l env)
 |[]=>Le.rfl' _
 |s::rest=>by
  show Le _ _ (exec s env>>=_) (_>>=_)
  cases e:oi C2 s env with
  |some t=>
   refine Le.bind (rb hks hkc e) fun f=>?_
   cases f with
   |next=>exact gR hks hkc rest
   |_=>exact Le.rfl' _
  |none=>
   show Le _ _ _ (execs [s] env>>=_)
   intro Q E p s' H
   rw [Sem.wp_bind'] at H⊢
   have H:Sem.wp M _ (exec s env>>=_) _ _ _ _:=H
   rw [Sem.wp_bind'] at H
   refine Sem.wp_mono M _ _ (fun f p₁ s₁ h₁=>?_) (fun _ _ _ h=>h) _ _ H
   cases f with
   |next=>exact gR hks hkc rest _ _ _ _ h₁
   |_=>exact h₁
theorem rd{M:Model}{body:List Stmt}{env:Env}{hd ow:Option Value}{bl:List (Code×Pos)}{pa:Option Value}
  (hks:env.kindOf "super"=some .globalImplicit) (hkc:env.kindOf "__class__"=some .free):Le M ⟨.func body env,hd,ow,bl,pa⟩ (denote table (.func body env)) (sH C2 body env):=by
 show Le _ _ (do point;match<-(execs body env).onRaise (leaving env) with|.ret v=>ret v|_=>ret .none) _
 refine Le.bind (Le.rfl' _) fun _=>Le.bind (Le.onRaise (gR hks hkc body)) fun _=>Le.rfl' _
noncomputable def ec:bF:=fun _ c _=>match c with
 |.func body env=>(env.kindOf "super"=some .globalImplicit/\env.kindOf "__class__"=some .free,sH MO body env)
 |_=>(False,unsupported "")
theorem cG{V:XV}{pr:Program}{w:World}:bE V (model pr w) ec:=by
 intro h0 d os Γ c st s p r s' hc hΓ R H
 unfold ec at hc H
 split at hc
 ·rename_i body env
  obtain⟨h1,h2⟩:=hc
  rw [Il] at H
  dsimp only at H
  obtain⟨c',hd,ow,bl,pa⟩:=Γ
  have hΓ:c'=.func body env:=hΓ
  subst hΓ
  have z:=(Sem.wp_iff_runs (model pr w) _ _ (fun r' s''=>r'=r/\s''=s') p s).mpr ⟨r,s',H,rfl,rfl⟩
  obtain⟨r',s'',y,rfl,rfl⟩:=(Sem.wp_iff_runs (model pr w) _ _ (fun r' s''=>r'=r/\s''=s') p s).mp (rd h1 h2 _ _ _ _ z)
  exact y
 ·exact hc.elim
end
noncomputable def rV(Γ:Ctx):Around:={handled:=Γ.handled,depth:=frameCount Γ.below+Γ.code.weight,frames:=none,guards:=none,units:=unitsOf Γ.below}
theorem nq(Γ:Ctx)(hu:Γ.code.cUnits=1):Γ.In (rV Γ).in1:=
 ⟨rfl,Nat.le_refl _,(fun l h=>by cases h),(fun g h=>by cases h),by show Γ.code.cUnits+unitsOf Γ.below<=unitsOf Γ.below+1;lia⟩
theorem kV(Γ:Ctx)(c:Code):(Γ.goto c).Below (rV Γ):=
 ⟨rfl,le_add_right ..,(fun l h=>by cases h),(fun g h=>by cases h),Nat.le_refl _⟩
theorem bv{pr:Program}{w:World}{t:Sem Fin}{S:Spec}(g:Meets t S){Γ:Ctx}(hu:Γ.code.cUnits=1){p:Pos}{s s':Shared}{r:Result}
  (hS:S (rV Γ) (fun r' s''=>r'=r/\s''=s') s):Runs (model pr w) Γ p t [] s (.ret r) s':=by
 have h:=g pr w (rV Γ) _ s hS Γ p (nq Γ hu)
 have z:Sem.wp (model pr w) Γ t (Sem.finPost (model pr w) Γ fun r' s''=>r'=r/\s''=s') (fun e _ s''=>.error e=r/\s''=s') p s:=by
  refine Sem.wp_mono _ _ _ (fun fin p' s₁ h'=>?_) (fun _ _ _ h'=>h') p s h
  cases fin with
  |done f=>exact h'
  |again c'=>exact⟨h'.1,h'.2 (Γ.goto c') p' rfl (kV Γ c')⟩
 obtain⟨r',s'',y,rfl,rfl⟩:=(Sem.wp_iff_runs _ _ _ _ _ _).mp z
 exact y
theorem bg{pr:Program}{w:World}{id:String}{args:Args}{b:Builtin}(hb:entryFor table id=some b):(model pr w).den (.builtin id args)=b args:=by
 show(match entryFor table id with|some b=>b args|none=>_)=_
 rw [hb]
theorem fV{M:Model}{Γ:Ctx}{p:Pos}{v:Value}{s s':Shared}{r:Result}(h:Runs M Γ p (ret v) [] s (.ret r) s'):r=.ok (.ret v)/\s'=s:=by
 have z:=(Sem.wp_iff_runs M Γ _ (fun r' s''=>r'=r/\s''=s') p s).mpr ⟨r,s',h,rfl,rfl⟩
 exact⟨z.1.symm,z.2.symm⟩
noncomputable def ja{α:Type}:Option α->Bool
 |some _=>true
 |none=>false
noncomputable def pR:List Nat->List Nat->Bool
 |[],[]=>true
 |[],_::_=>false
 |_::_,[]=>false
 |a::l,b::l'=>Nat.beq a b&&pR l l'
theorem qw:∀{l l':List Nat},pR l l'=decide (l=l')
 |[],[]=>(decide_eq_true rfl).symm
 |[],_::_=>(decide_eq_false nofun).symm
 |_::_,[]=>(decide_eq_false nofun).symm
 |a::l,b::l'=>by
  show(Nat.beq a b&&pR l l')=_
  rw [qw,BT.beq_eq];simp
noncomputable def Eb(a b:Str):Bool:=pR a.1.toList b.1.toList
noncomputable abbrev nO:Prop×Sem Fin:=(False,unsupported "")
def AS(M:Model)(Γ:Ctx)(c:Code)(p:Pos)(s:Shared)(r:Result)(s':Shared)(x:Prop×Sem Fin):Prop:=x.1->Runs M Γ p x.2 [] s (.ret r) s'->Runs M Γ p (M.den c) [] s (.ret r) s'
theorem fZ{M:Model}{Γ:Ctx}{c:Code}{p:Pos}{s:Shared}{r:Result}{s':Shared}:AS M Γ c p s r s' nO:=fun h _=>h.elim
theorem dT{V:XV}{M:Model}{A:bF}(h:∀{h0 d os Γ c st s p r s'},Γ.code=c->f6 V h0 d os st s->AS M Γ c p s r s' (A Γ c st)):bE V M A:=fun _ _ _ _ _ _ _ _ _ _ hc g R H=>h g R hc H
noncomputable def wO{α β:Type}(o:Option β)(d:α)(f:β->α):α:=match o with|some b=>f b|none=>d
theorem fL{α β:Type}{P:α->Prop}{o:Option β}{d:α}{f:β->α}(hd:P d)(h:∀b,P (f b)):P (wO o d f):=by
 cases o with
 |none=>exact hd
 |some b=>exact h b
noncomputable def wA{α:Type}(o:Option Obj)(d:α)(f:Value->Option Addr->Array Value->Nat->Array (Option Value)->α):α:=match o with|some ⟨a,b,.seq l n,s⟩=>f a b l n s|_=>d
theorem eZ{α:Type}{P:α->Prop}{o:Option Obj}{d:α}{f:Value->Option Addr->Array Value->Nat->Array (Option Value)->α}(hd:P d)(h:∀a b l n s,o=some ⟨a,b,.seq l n,s⟩->P (f a b l n s)):P (wA o d f):=by
 rcases o with _|⟨a,b,x,s⟩
 ·exact hd
 ·cases x<;>first|exact hd|exact h _ _ _ _ _ rfl
noncomputable def wF{α:Type}(o:Option Obj)(d:α)(f:List Value->α):α:=match o with|some ⟨_,_,.fields ⟨l⟩,_⟩=>f l|_=>d
theorem yQ{α:Type}{P:α->Prop}{o:Option Obj}{d:α}{f:List Value->α}(hd:P d)(h:∀l a b s,o=some ⟨a,b,.fields ⟨l⟩,s⟩->P (f l)):P (wF o d f):=by
 rcases o with _|⟨a,b,x,s⟩
 ·exact hd
 ·cases x<;>first|exact hd|exact h _ _ _ _ rfl
noncomputable def w2{α:Type}(l:List Value)(d:α)(f:Value->Value->α):α:=match l with|[a,b]=>f a b|_=>d
theorem qM{α:Type}{P:α->Prop}{l:List Value}{d:α}{f:Value->Value->α}(hd:P d)(h:∀a b,l=[a,b]->P (f a b)):P (w2 l d f):=by
 rcases l with _|⟨a,_|⟨b,_|_⟩⟩<;>first|exact hd|exact h _ _ rfl
noncomputable def w3{α:Type}(l:List Value)(d:α)(f:Value->Value->Value->α):α:=match l with|[a,b,c]=>f a b c|_=>d
theorem C4{α:Type}{P:α->Prop}{l:List Value}{d:α}{f:Value->Value->Value->α}(hd:P d)(h:∀a b c,l=[a,b,c]->P (f a b c)):P (w3 l d f):=by
 rcases l with _|⟨a,_|⟨b,_|⟨c,_|_⟩⟩⟩<;>first|exact hd|exact h _ _ _ rfl
noncomputable def wi{α:Type}(v:Value)(d:α)(f:Int->α):α:=match v with|.int a _=>f a|_=>d
theorem jW{α:Type}{P:α->Prop}{v:Value}{d:α}{f:Int->α}(hd:P d)(h:∀a t,v=.int a t->P (f a)):P (wi v d f):=by
 cases v<;>first|exact hd|exact h _ _ rfl
noncomputable def ws{α:Type}(v:Value)(d:α)(f:Str->α):α:=match v with|.str a _=>f a|_=>d
theorem tN{α:Type}{P:α->Prop}{v:Value}{d:α}{f:Str->α}(hd:P d)(h:∀a t,v=.str a t->P (f a)):P (ws v d f):=by
 cases v<;>first|exact hd|exact h _ _ rfl
noncomputable def wr{α:Type}(v:Value)(d:α)(f:Addr->α):α:=match v with|.ref a=>f a|_=>d
theorem HF{α:Type}{P:α->Prop}{v:Value}{d:α}{f:Addr->α}(hd:P d)(h:∀a,v=.ref a->P (f a)):P (wr v d f):=by
 cases v<;>first|exact hd|exact h _ rfl
noncomputable def Ox{α:Type}(o:Option Obj)(d:α)(f:Value->Value->Value->Value->α):α:=match o with|some ⟨a,_,.fields ⟨l⟩,_⟩=>w3 l d (f a)|_=>d
theorem ya{α:Type}{P:α->Prop}{o:Option Obj}{d:α}{f:Value->Value->Value->Value->α}(hd:P d)(h:∀a x y z b s,o=some ⟨a,b,.fields ⟨[x,y,z]⟩,s⟩->P (f a x y z)):P (Ox o d f):=by
 rcases o with _|⟨a,b,x,s⟩
 ·exact hd
 ·cases x<;>first|exact hd|exact C4 hd fun x y z e=>h a x y z b s (by rw [<-e])
noncomputable def Lq{α:Type}(o:Option Obj)(d:α)(f:UInt64->Tok->α):α:=match o with|some ⟨_,_,.cell (some (.float a t)),_⟩=>f a t|_=>d
theorem Eu{α:Type}{P:α->Prop}{o:Option Obj}{d:α}{f:UInt64->Tok->α}(hd:P d)(h:∀a t,P (f a t)):P (Lq o d f):=by
 unfold Lq
 split
 ·exact h _ _
 ·exact hd
noncomputable def Mr{α:Type}(o:Option Obj)(d:α)(f:Value->Str->Str->α):α:=wA o d fun a _ l _ _=>w2 l.toList d fun x y=>ws x d fun u=>ws y d fun v=>f a u v
theorem yy{α:Type}{P:α->Prop}{o:Option Obj}{d:α}{f:Value->Str->Str->α}(hd:P d)(h:∀a b u t v r n s,o=some ⟨a,b,.seq ⟨[.str u t,.str v r]⟩ n,s⟩->P (f a u v)):P (Mr o d f):=
 eZ hd fun a b l n s e=>qM hd fun _ _ e1=>tN hd fun u t e2=>tN hd fun v r e3=>h a b u t v r n s (by
  rw [e,<-e2,<-e3,<-e1])
noncomputable def Nx{α:Type}(o:Option Obj)(d:α)(f:Value->Int->Int->α):α:=wA o d fun a _ l _ _=>w2 l.toList d fun x y=>wi x d fun u=>wi y d fun v=>f a u v
theorem xY{α:Type}{P:α->Prop}{o:Option Obj}{d:α}{f:Value->Int->Int->α}(hd:P d)(h:∀a b u t v r n s,o=some ⟨a,b,.seq ⟨[.int u t,.int v r]⟩ n,s⟩->P (f a u v)):P (Nx o d f):=
 eZ hd fun a b l n s e=>qM hd fun _ _ e1=>jW hd fun u t e2=>jW hd fun v r e3=>h a b u t v r n s (by
  rw [e,<-e2,<-e3,<-e1])
noncomputable def No{α:Type}(o:Option Obj)(d:α)(f:Addr->Int->α):α:=wF o d fun l=>w2 l d fun x y=>wr x d fun u=>wi y d fun v=>f u v
theorem zq{α:Type}{P:α->Prop}{o:Option Obj}{d:α}{f:Addr->Int->α}(hd:P d)(h:∀a b u v r s,o=some ⟨a,b,.fields ⟨[.ref u,.int v r]⟩,s⟩->P (f u v)):P (No o d f):=
 yQ hd fun _ a b s e=>qM hd fun _ _ e1=>HF hd fun u e2=>jW hd fun v r e3=>h a b u v r s (by
  rw [e,e1,e2,e3])
noncomputable def BH(c:Code):Option (Int×Tok):=match c with|.builtin _ ⟨[_,.int k t],_⟩=>some (k,t)|_=>none
noncomputable def DL(c:Code):Option (Int×Tok×Value):=match c with|.builtin _ ⟨[_,.int k t,v],_⟩=>some (k,t,v)|_=>none
noncomputable def N0(c:Code):Option Value:=match c with|.builtin _ ⟨[_,v],_⟩=>some v|_=>none
noncomputable def BP(c:Code):Option (Str×Tok):=match c with|.builtin _ ⟨.str x t::_,_⟩=>some (x,t)|_=>none
noncomputable def Ix(c:Code):Option (Str×Tok):=match c with|.builtin _ ⟨[_,.str x t],_⟩=>some (x,t)|_=>none
noncomputable def fY(i j:Nat):bF:=fun Γ c st=>Mr (st.T.get i) nO fun cl a b=>Mr (st.T.get j) nO fun cl' a' b'=>
  (c=.builtin "tuple.__ne__" ⟨[.ref (bm st.L st.n i),.ref (bm st.L st.n j)],[]⟩/\cl=.type "tuple"/\cl'=.type "tuple",ret (.bool (!(Eb a a'&&Eb b b'))))
theorem tC(a b:Str):Eb a b=(a==b):=by
 obtain⟨⟨l⟩⟩:=a
 obtain⟨⟨l'⟩⟩:=b
 show pR l l'=_
 rw [qw]
 by_cases h:l=l'
 ·subst h;simp
 ·rw [decide_eq_false h]
  symm
  rw [beq_eq_false_iff_ne]
  intro q
  exact h (by injection q with q;injection q)
theorem jh{V:XV}{h0 d os st s}(R:f6 V h0 d os st s){i:Nat}{o:Obj}(e:st.T.get i=some o):s.heap.get? (bm st.L st.n i)=some o:=(R.own _ _ e).2
theorem ez{V:XV}{pr:Program}{w:World}{i j:Nat}:bE V (model pr w) (fY i j):=by
 refine dT fun hΓ R=>yy fZ fun cl dd a t b u n sl e1=>yy fZ fun cl' dd' a' t' b' u' n' sl' e2=>?_
 rintro⟨rfl,rfl,rfl⟩ H
 obtain⟨rfl,rfl⟩:=fV H
 rw [bg PySem.F.entry_tuple_ne]
 refine bv (PySem.SeqAt.tuple_neAt _ _ _ _ _ _ _ _ _ _ (fun k=>if k=0 then a==a' else b==b')) (by rw [hΓ];rfl) ⟨jh R e1,jh R e2,fun k h1 h2=>?_,?_,rfl⟩
 ·rcases k with _|_|k
  ·exact(PyProof.Rows.eqGives_str a a' t t').at _ _
  ·exact(PyProof.Rows.eqGives_str b b' u u').at _ _
  ·exact absurd (Nat.lt_of_succ_lt_succ (Nat.lt_of_succ_lt_succ h1)) (Nat.not_lt_zero _)
 ·rw [tC,tC]
  simp [range_succ]
structure PL where
 pi:Value->Sem Value
 lh:Value->Sem Bool
 tc:Value->Sem Unit
noncomputable def Lj:PL:=⟨pyIter,Builtin.List.listLengthHint,Builtin.List.listTouch⟩
noncomputable def Mh:PL:=⟨Fast.tw8711993805878244202,Fast.tw15112759502256325868,Fast.tw922294955767894045⟩
theorem IF:Mh=Lj:=by
 unfold Mh Lj
 simp only [<-Fast.te8711993805878244202,<-Fast.te15112759502256325868,<-Fast.te922294955767894045]
noncomputable def pc(k:PL)(self it:Value):Sem Fin:=do
 let iter<-k.pi it
 let room<-holding [iter] (k.lh it)
 match room with
 |true=>do
  rule "list.extend.makes-room"
  k.tc self
  again (.builtin "list.extend.loop" ⟨[self,iter,self],[]⟩)
 |false=>unsupported ""
theorem oQ:(Value.type "generator"==Value.type "list")=false:=by decide+kernel
theorem mt:(Value.type "generator"==Value.type "tuple")=false:=by decide+kernel
theorem BU{M:Model}{Γ:Ctx}{a b:Addr}{o:Obj}{s:Shared}(hab:a≠b)(hb:s.heap.get? b=some o)(hc:o.cls=.type "generator"){Q E p}(H:Sem.wp M Γ (pc Lj (.ref a) (.ref b)) Q E p s):
  Sem.wp M Γ (Builtin.«list.__iadd__» ⟨[.ref a,.ref b],[]⟩) Q E p s:=by
 show Sem.wp M Γ (Builtin.List.listExtendWith (.ref a) (.ref b) (.ref a)) Q E p s
 unfold Builtin.List.listExtendWith
 have hs:Builtin.List.listSameRef (.ref a) (.ref b)=false:=by
  show(a==b)=false
  simpa using hab
 simp only [Sem.wp_bind',typeOf,hs,Bool.false_or]
 rw [Sem.wp_loadPart_of M Γ _ p s _ hb]
 show Sem.wp M Γ (if(o.cls==.type "list"||o.cls==.type "tuple")=true then _ else _) _ _ _ _
 rw [hc,oQ,mt]
 simp only [Bool.or_self,Bool.false_eq_true,if_false]
 refine Le.bind (Le.rfl' _) (fun iter=>Le.bind (Le.rfl' _) (fun room=>?_)) Q E p s H
 cases room with
 |false=>exact fun _ _ _ _ (h:False)=>h.elim
 |true=>exact Le.bind (Le.rfl' _) fun _=>Le.bind (Le.rfl' _) fun _=>Le.rfl' _
noncomputable def ee(i j:Nat):bF:=fun Γ c st=>match st.T.get i,st.T.get j with
 |some _,some ⟨cl,_,_,_⟩=>(c=.builtin "list.__iadd__" ⟨[.ref (bm st.L st.n i),.ref (bm st.L st.n j)],[]⟩/\cl=.type "generator"/\Nat.beq i j=false,pc Mh (.ref (bm st.L st.n i)) (.ref (bm st.L st.n j)))
 |_,_=>(False,unsupported "")
theorem ij{M:Model}{Γ:Ctx}{t t':Sem Fin}{p s r s'}(h:∀Q E,Sem.wp M Γ t' Q E p s->Sem.wp M Γ t Q E p s)(H:Runs M Γ p t' [] s (.ret r) s'):Runs M Γ p t [] s (.ret r) s':=by
 have z:=(Sem.wp_iff_runs M Γ _ (fun r' s''=>r'=r/\s''=s') p s).mpr ⟨r,s',H,rfl,rfl⟩
 obtain⟨r',s'',y,rfl,rfl⟩:=(Sem.wp_iff_runs M Γ _ (fun r' s''=>r'=r/\s''=s') p s).mp (h _ _ z)
 exact y
theorem xW{V:XV}{h0 d os st s}(R:f6 V h0 d os st s){i j:Nat}{o o':Obj}(e:st.T.get i=some o)(e':st.T.get j=some o')(h:Nat.beq i j=false):bm st.L st.n i≠bm st.L st.n j:=by
 intro q
 have z:=R.inj i j (R.own _ _ e).1 (R.own _ _ e').1 q
 subst z
 rw [Nat.beq_refl] at h;cases h
theorem c7{V:XV}{pr:Program}{w:World}{i j:Nat}:bE V (model pr w) (ee i j):=by
 intro h0 d os Γ c st s p r s' hc hΓ R H
 unfold ee at hc H
 split at hc
 ·rename_i o1 cl dd da sl e1 e2
  obtain⟨rfl,rfl,hij⟩:=hc
  simp only [e1,e2] at H
  rw [IF] at H
  rw [bg PySem.F.entry_list_iadd]
  exact ij (fun Q E h=>BU (xW R e1 e2 hij) (jh R e2) rfl h) H
 ·exact hc.elim
structure PN where
 sf:Value->Nat->Value->Sem Unit
 ne:Value->List Value->Sem Value
 rn:Value->Sem Fin
noncomputable def GU:PN:=⟨setField,fun t l=>newExc t l,fun v=>raiseNew v⟩
noncomputable def GZ:PN:=⟨Fast.tw17858455048448223758,fun t l=>Fast.tw11364817496384490316 t l,fun v=>Fast.tw17609497360097468838 v⟩
theorem tM:GZ=GU:=by
 unfold GZ GU
 simp only [<-Fast.te17858455048448223758,<-Fast.te11364817496384490316,<-Fast.te17609497360097468838]
noncomputable def qL(k:PN)(it:Value)(i:Int)(v:Value):Sem Fin:=do
 k.sf it 1 (rawInt (i+1))
 ret v
noncomputable def kr(k:PN)(it:Value):Sem Fin:=do
 k.sf it 0 .none
 k.rn (<-k.ne (.type "StopIteration") [])
theorem eF{M:Model}{Γ:Ctx}{a:Addr}{o:Obj}{s:Shared}{vs}{i:Nat}{x:Value}(ho:s.heap.get? a=some o)(hd:o.data=.fields vs)(hi:vs[i]? =some x){Q E p}(H:Q x p s):
  Sem.wp M Γ (field (.ref a) i) Q E p s:=by
 unfold field fieldsOf
 simp only [Sem.wp_bind']
 rw [Sem.wp_load_of M Γ _ p s ho]
 simp only [hd]
 show Sem.wp M Γ (match vs[i]? with|some x=>pure x|none=>unsupported "internal:no-such-field") _ _ _ _
 rw [hi]
 exact H
theorem ke{M:Model}{Γ:Ctx}{a:Addr}{o:Obj}{s:Shared}{vs n}(ho:s.heap.get? a=some o)(hd:o.data=.seq vs n){Q E p}(H:Q (some vs) p s):
  Sem.wp M Γ (seqItems? (.ref a)) Q E p s:=by
 unfold seqItems?
 simp only [Sem.wp_bind']
 rw [Sem.wp_load_of M Γ _ p s ho]
 simp only [hd]
 exact H
theorem B4{M:Model}{Γ:Ctx}{a l:Addr}{o ol:Obj}{s:Shared}{i:Int}{tk:Tok}{items n}{v:Value}(ho:s.heap.get? a=some o)(hd:o.data=.fields #[.ref l,.int i tk])(hl:s.heap.get? l=some ol)
  (hdl:ol.data=.seq items n) (hx:items[i.toNat]? =some v) {Q E p} (H:Sem.wp M Γ (qL GU (.ref a) i v) Q E p s):Sem.wp M Γ (Builtin.«list_iterator.__next__» ⟨[.ref a],[]⟩) Q E p s:=by
 show Sem.wp M Γ (field (.ref a) 0>>=_) _ _ _ _
 rw [Sem.wp_bind']
 refine eF ho hd (x:=.ref l) rfl ?_
 show Sem.wp M Γ (if(Value.ref l==Value.none)=true then _ else _) _ _ _ _
 rw [if_neg (show¬((Value.ref l==Value.none)=true) from Bool.false_ne_true)]
 show Sem.wp M Γ (field (.ref a) 1>>=_) _ _ _ _
 rw [Sem.wp_bind']
 refine eF ho hd (x:=.int i tk) rfl ?_
 show Sem.wp M Γ (seqItems? (.ref l)>>=_) _ _ _ _
 rw [Sem.wp_bind']
 refine ke hl hdl ?_
 simp only [hx]
 exact H
theorem EY{M:Model}{Γ:Ctx}{a l:Addr}{o ol:Obj}{s:Shared}{i:Int}{tk:Tok}{items n}(ho:s.heap.get? a=some o)(hd:o.data=.fields #[.ref l,.int i tk])(hl:s.heap.get? l=some ol)
  (hdl:ol.data=.seq items n) (hx:items[i.toNat]? =none) {Q E p} (H:Sem.wp M Γ (kr GU (.ref a)) Q E p s):Sem.wp M Γ (Builtin.«list_iterator.__next__» ⟨[.ref a],[]⟩) Q E p s:=by
 show Sem.wp M Γ (field (.ref a) 0>>=_) _ _ _ _
 rw [Sem.wp_bind']
 refine eF ho hd (x:=.ref l) rfl ?_
 show Sem.wp M Γ (if(Value.ref l==Value.none)=true then _ else _) _ _ _ _
 rw [if_neg (show¬((Value.ref l==Value.none)=true) from Bool.false_ne_true)]
 show Sem.wp M Γ (field (.ref a) 1>>=_) _ _ _ _
 rw [Sem.wp_bind']
 refine eF ho hd (x:=.int i tk) rfl ?_
 show Sem.wp M Γ (seqItems? (.ref l)>>=_) _ _ _ _
 rw [Sem.wp_bind']
 refine ke hl hdl ?_
 simp only [hx]
 exact H
noncomputable def bG(i j:Nat)(v:Value):bF:=fun Γ c st=>No (st.T.get i) nO fun l x=>wA (st.T.get j) nO fun _ _ items _ _=>
  (c=.builtin "list_iterator.__next__" ⟨[.ref (bm st.L st.n i)],[]⟩/\l=bm st.L st.n j/\items[x.toNat]? =some v,qL GZ (.ref (bm st.L st.n i)) x v)
noncomputable def wX(i j:Nat):bF:=fun Γ c st=>No (st.T.get i) nO fun l x=>wA (st.T.get j) nO fun _ _ items _ _=>
  (c=.builtin "list_iterator.__next__" ⟨[.ref (bm st.L st.n i)],[]⟩/\l=bm st.L st.n j/\items[x.toNat]? =none,kr GZ (.ref (bm st.L st.n i)))
theorem bi{V:XV}{pr:Program}{w:World}{i j:Nat}{v:Value}:bE V (model pr w) (bG i j v):=by
 refine dT fun hΓ R=>zq fZ fun cl dd l x tk sl e1=>eZ fZ fun cl' dd' items n sl' e2=>?_
 rintro⟨rfl,rfl,hx⟩ H
 rw [tM] at H
 rw [bg PySem.entry_listiter_next]
 exact ij (fun Q E h=>B4 (jh R e1) rfl (jh R e2) rfl hx h) H
theorem cg{V:XV}{pr:Program}{w:World}{i j:Nat}:bE V (model pr w) (wX i j):=by
 refine dT fun hΓ R=>zq fZ fun cl dd l x tk sl e1=>eZ fZ fun cl' dd' items n sl' e2=>?_
 rintro⟨rfl,rfl,hx⟩ H
 rw [tM] at H
 rw [bg PySem.entry_listiter_next]
 exact ij (fun Q E h=>EY (jh R e1) rfl (jh R e2) rfl hx h) H
structure PS where
 sub:Value->Sem (Option Int)
 ty:Value->Sem Value
 sp:Value->Sem (Value×Value×Value)
 la:Value->String->Sem (Array Value)
 li:Value->Sem (Array Value)
 si:Value->Value->Value->Nat->Sem (Int×Int×Int)
 up:Value->(Array Value->Array Value)->Sem Unit
 lg:List Value->Sem Unit
 de:DecidableEq Value
noncomputable def ML:PS:=⟨Builtin.List.listSubscript?,typeOf,Builtin.List.listSliceParts,Builtin.List.listAllItems,Builtin.List.listItems,sliceIndices,Builtin.List.listUpdate,fun l=>letGo l,instDecidableEqValue⟩
noncomputable def Ms:PS:=⟨Fast.tw8809883150852718426,Fast.tw14684505520029207082,Fast.tw10804002551933667111,Fast.tw10123112551380213103,Fast.tw10557518346328741659,Fast.tw3967640627792924556,Fast.tw2060155186595164805,fun l=>Fast.tw3461954006293484611 l,Fast.tw7966671052430208091⟩
theorem ID:Ms=ML:=by
 unfold Ms ML
 simp only [<-Fast.te8809883150852718426,<-Fast.te14684505520029207082,<-Fast.te10804002551933667111,<-Fast.te10123112551380213103,<-Fast.te10557518346328741659,<-Fast.te3967640627792924556,<-Fast.te2060155186595164805,<-Fast.te3461954006293484611,<-Fast.te7966671052430208091]
noncomputable def tT(k:PS)(self i v:Value):Sem Fin:=do
 let q<-k.sub i
 match q with
 |some _=>unsupported ""
 |none=>do
  let t<-k.ty i
  if @decide (t=.type "slice") (k.de _ _) then do
   let q<-k.sp i
   let new<-k.la v "must assign iterable to extended slice"
   let xs<-k.li self
   let z<-k.si q.1 q.2.1 q.2.2 xs.size
   if z.2.2==1 then do
    rule "list.__setitem__.slice"
    if Builtin.List.listTooLong (xs.size+new.size) then unsupported ""
    else do
     k.up self fun ys=>ys.extract 0 z.1.toNat++new++ys.extract (max z.1 z.2.1).toNat ys.size
     k.lg (xs.extract z.1.toNat (max z.1 z.2.1).toNat).toList.reverse
     ret .none
   else unsupported ""
  else unsupported ""
theorem Gz{M:Model}{Γ:Ctx}{a b c:Addr}(hab:a≠c):Le M Γ (Builtin.«list.__setitem__» ⟨[.ref a,.ref b,.ref c],[]⟩) (tT ML (.ref a) (.ref b) (.ref c)):=by
 have hs:Builtin.List.listSameRef (.ref a) (.ref c)=false:=by
  show(a==c)=false
  simpa using hab
 show Le M Γ (Builtin.List.listSubscript? (.ref b)>>=_) _
 refine Le.bind (Le.rfl' _) fun q=>?_
 cases q with
 |some _=>exact fun _ _ _ _ (h:False)=>h.elim
 |none=>
  show Le M Γ (typeOf (.ref b)>>=_) (typeOf (.ref b)>>=_)
  refine Le.bind (Le.rfl' _) fun t=>?_
  by_cases ht:t=.type "slice"
  ·subst ht
   show Le M Γ (Builtin.List.listSliceParts (.ref b)>>=_) (Builtin.List.listSliceParts (.ref b)>>=_)
   refine Le.bind (Le.rfl' _) fun q=>?_
   obtain⟨lo,hi,st⟩:=q
   dsimp only
   rw [hs]
   refine Le.bind (Le.rfl' _) fun new=>Le.bind (Le.rfl' _) fun xs=>Le.bind (Le.rfl' _) fun z=>?_
   obtain⟨z1,z2,z3⟩:=z
   dsimp only
   by_cases h3:(z3==1)=true
   ·rw [if_pos h3,if_pos h3]
    refine Le.bind (Le.rfl' _) fun _=>?_
    by_cases h4:Builtin.List.listTooLong (xs.size+new.size)=true
    ·rw [if_pos h4,if_pos h4];exact fun _ _ _ _ (h:False)=>h.elim
    ·rw [if_neg h4,if_neg h4]
     exact Le.rfl' _
   ·rw [if_neg h3]
    intro Q E p s H
    rw [if_neg h3] at H
    exact H.elim
  ·intro Q E p s H
   have H:Sem.wp M Γ (if decide (t=.type "slice")=true then _ else unsupported "") Q E p s:=H
   rw [if_neg (by simpa using ht)] at H
   exact H.elim
noncomputable def iO(i j l:Nat):bF:=fun Γ c st=>match st.T.get i,st.T.get l with
 |some _,some _=>(c=.builtin "list.__setitem__" ⟨[.ref (bm st.L st.n i),.ref (bm st.L st.n j),.ref (bm st.L st.n l)],[]⟩/\Nat.beq i l=false,tT Ms (.ref (bm st.L st.n i)) (.ref (bm st.L st.n j)) (.ref (bm st.L st.n l)))
 |_,_=>(False,unsupported "")
theorem fH{V:XV}{pr:Program}{w:World}{i j l:Nat}:bE V (model pr w) (iO i j l):=by
 intro h0 d os Γ c st s p r s' hc hΓ R H
 unfold iO at hc H
 split at hc
 ·rename_i o1 o2 e1 e2
  obtain⟨rfl,hij⟩:=hc
  simp only [e1,e2] at H
  rw [ID] at H
  rw [bg PySem.entry_list_setitem]
  exact ij (fun Q E h=>Gz (xW R e1 e2 hij) _ _ _ _ h) H
 ·exact hc.elim
noncomputable abbrev A(x:Nat):Nat:=Nat.add x 245
noncomputable abbrev TK(x:Nat):Nat:=Nat.add x 677
abbrev Hn(s:Shared)(n:Nat):Prop:=s.heap.objs.size=A n
abbrev Ht(s:Shared)(t:Nat):Prop:=s.toks=TK t
noncomputable def zh(o:Obj):FuncData:=match o.data with
 |.func f=>f
 |_=>default
noncomputable def be(fd:FuncData):List Stmt:=match fd.body with
 |.stmts b=>b
 |_=>[]
noncomputable def fE(l:List Stmt)(i:Nat):Stmt:=match l with
 |[]=>.Pass default
 |s::l=>match i with
  |0=>s
  |i+1=>fE l i
noncomputable def bk:Stmt->List Stmt
 |.For _ _ b _ _=>b
 |.While _ b _ _=>b
 |.If _ b _ _=>b
 |_=>[]
noncomputable def gv(s:Stmt)(it:Addr)(env:Env):Code:=match s with
 |.For t _ b o _=>.forLoop t (.ref it) b o env
 |.While t b o _=>.whileLoop t b o env
 |_=>.builtin "" {}
noncomputable def wW(fd:FuncData)(L a:Addr):Env:={callEnv fd L a with frame:=some L}
noncomputable def gB(fd:FuncData)(L a:Addr):Code:=.func (be fd) (wW fd L a)
noncomputable def oC(P:Params):FuncData:=zh (Ax P)
noncomputable def gW(P:Params):FuncData:=zh (AD P)
noncomputable def dB(P:Params):FuncData:=zh (A2 P)
noncomputable def en(P:Params)(L it:Addr):Code:=gv (fE (be (oC P)) 1) it (wW (oC P) L 214)
structure FA where mk::(p2 p3 p4 p5 p6:Pos) (te1 te2:Expr) (i1 i2:Value) (bo1 bo2 e1 e2:List Stmt) (n1 n2 n3 n4:Env) (f1 f2:List Stmt)
noncomputable abbrev Y7:=(.builtin "claim.caller" {}:Code)
noncomputable abbrev eY(P:Params)(L:Addr)(p1:Pos)(vA:FA):List nW:=
 [(gB (oC P) L 214,p1),(.forLoop vA.te1 vA.i1 vA.bo1 vA.e1 vA.n1,vA.p2),(.func vA.f1 vA.n2,vA.p3),(.forLoop vA.te2 vA.i2 vA.bo2 vA.e2 vA.n3,vA.p4),(.func vA.f2 vA.n4,vA.p5),(Y7,vA.p6)]
noncomputable def i5(P:Params):FuncData:=zh (Cx P)
noncomputable def ak(P:Params):FuncData:=zh (AI P)
noncomputable def gH(P:Params)(L it:Addr):Code:=gv (fE (be (i5 P)) 1) it (wW (i5 P) L 238)
noncomputable def io(P:Params)(L it:Addr):Code:=gv (fE (bk (fE (be (i5 P)) 1)) 0) it (wW (i5 P) L 238)
noncomputable def nD:List (Str×NameKind)->List Addr->List (Str×Addr)->List (Str×Addr)
 |[],_,acc=>acc
 |(n,k)::l,as,acc=>match k,as with
  |.cell,a::as=>nD l as ((n,a)::acc)
  |_,as=>nD l as acc
noncomputable def bh(fd:FuncData)(L a:Addr)(cs:List Addr):Env:={wW fd L a with cells:=nD fd.scope.names cs []}
noncomputable def gL(fd:FuncData)(L a:Addr)(cs:List Addr):Code:=.func (be fd) (bh fd L a cs)
noncomputable def ix:Expr->Scope
 |.ListComp _ _ sc _=>sc
 |.GeneratorExp _ _ sc _=>sc
 |_=>default
noncomputable def mN(sc:Scope)(outer:Env):List (Str×Addr):=sc.names.foldl (fun cs x=>match x.2 with
 |.free=>(x.1,(outer.cells.lookup x.1).getD 0)::cs
 |_=>cs) []
noncomputable def lG(e:Expr)(outer:Env)(L:Addr):Env:=
 {scope:={ix e with names:=(ix e).names.map fun x=>if x.2==.free&&outer.scope.kind==.function&&outer.kindOf x.1==some .cell then(x.1,.cell) else x},locals:=L,globals:=outer.globals,cells:=mN (ix e) outer,qual:=outer.qual,func:=none,code:=outer.code,frame:=outer.frame,builtins:=outer.builtins}
noncomputable def mB:Stmt->Expr
 |.Assign _ v _=>v
 |_=>.Constant .none 0 default
noncomputable def DG(P:Params)(i:Nat):Stmt:=fE (bk (fE (be (ak P)) 2)) i
noncomputable def jS(P:Params):Expr:=mB (DG P 1)
noncomputable def dl(P:Params)(outer:Env)(L it acc:Addr):Code:=.compLoop (jS P) 0 (.ref it) (.ref acc) (lG (jS P) outer L)
noncomputable def Ab:Expr->Expr
 |.ListComp e _ _ _=>e
 |e=>e
noncomputable def xB:Expr->List Comprehension
 |.ListComp _ g _ _=>g
 |_=>[]
noncomputable def Gq:Expr->Pos
 |.ListComp _ _ _ p=>p
 |_=>default
noncomputable def ay:Code->Code
 |.compLoop e d it acc env=>.compStart e d it acc env
 |c=>c
noncomputable def mD:Expr->Expr
 |.Call _ (a::_) _ _=>a
 |e=>e
noncomputable def HX(P:Params):Expr:=mD (mB (DG P 3))
noncomputable def eK(P:Params)(outer:Env)(L it acc:Addr):Code:=.compLoop (HX P) 0 (.ref it) (.ref acc) (lG (HX P) outer L)
noncomputable def lF:Stmt->Expr
 |.While t _ _ _=>t
 |_=>.Constant .none 0 default
noncomputable def kY:Stmt->List Stmt
 |.While _ _ o _=>o
 |_=>[]
noncomputable def fi(P:Params)(env:Env):Code:=.whileLoop (lF (fE (be (ak P)) 2)) (bk (fE (be (ak P)) 2)) (kY (fE (be (ak P)) 2)) env
theorem dH{pr:Program}{w:World}{id:String}{args:Args}{b:Builtin}{Γ:Ctx}{p:Pos}{s s':Shared}{v:Value}(hb:entryFor table id=some b)(hu:Γ.code.cUnits=1)
  (h:wpAny (model pr w) (rV Γ).in1 (b args) (fun fin s''=>fin=.done (.ret v)/\s''=s') (fun _ _=>False) s):
  Runs (model pr w) Γ p ((model pr w).den (.builtin id args)) [] s (.ret (.ok (.ret v))) s':=by
 have z:=h Γ p (nq Γ hu)
 rw [bg hb]
 have y:Sem.wp (model pr w) Γ (b args) (Sem.finPost (model pr w) Γ fun r' s''=>r'=.ok (.ret v)/\s''=s') (fun e _ s''=>(Except.error e:Result)=.ok (.ret v)/\s''=s') p s:=by
  refine Sem.wp_mono _ _ _ (fun fin p' s₁ h'=>?_) (fun _ _ _ h'=>h'.elim) p s z
  obtain⟨rfl,rfl⟩:=h'
  exact⟨rfl,rfl⟩
 obtain⟨r',s'',y',e1,e2⟩:=(Sem.wp_iff_runs (model pr w) Γ (b args) (fun r' s''=>r'=.ok (.ret v)/\s''=s') p s).mp y
 subst e1 e2
 exact y'
theorem cK{M:Model}{Γ:Ctx}{t:Sem Fin}{p s r s'}(H:Runs M Γ p t [] s (.ret r) s'):Sem.wp M Γ t (Sem.finPost M Γ fun r' s''=>r'=r/\s''=s') (fun e _ s''=>(Except.error e:Result)=r/\s''=s') p s:=
 (Sem.wp_iff_runs M Γ _ (fun r' s''=>r'=r/\s''=s') p s).mpr ⟨r,s',H,rfl,rfl⟩
noncomputable def gT(i m:Nat):bF:=fun Γ c st=>match st.T.get i with
 |some ⟨cl,_,.seq items _,_⟩=>(c=.builtin "len" ⟨[.ref (bm st.L st.n i)],[]⟩/\cl=.type "list"/\items.size=Nat.succ m/\Nat.blt (Nat.succ m) 1000=true,.fresh fun _=>.fresh fun t=>ret (.int (Int.ofNat (Nat.succ m)) t))
 |_=>(False,unsupported "")
theorem gY{V:XV}{pr:Program}{w:World}{i m:Nat}:bE V (model pr w) (gT i m):=by
 intro h0 d os Γ c st s p r s' hc hΓ R H
 unfold gT at hc H
 split at hc
 ·rename_i cl dd items n sl e1
  obtain⟨rfl,rfl,hm,hb⟩:=hc
  simp only [e1] at H
  obtain⟨rfl,rfl⟩:=cK H
  have ha:=jh R e1
  have hb:Nat.succ m<1000:=le_of_ble_eq_true hb
  refine dH PySem.entry_len (by rw [hΓ];rfl) ?_
  refine wpAny_mono (wpAny_len_body_list (items:=items) (Q:=fun r' s''=>r'=.int (Int.ofNat (Nat.succ m)) (s.toks+1)/\s''={s with toks:=s.toks+1+1}) ⟨_,ha,rfl,_,rfl⟩ (by rw [hm];lia) ⟨by rw [hm];rfl,rfl⟩) (fun fin s'' h=>?_) (fun _ _ h=>h)
  obtain⟨r',rfl,rfl,rfl⟩:=h
  exact⟨rfl,rfl⟩
 ·exact hc.elim
def bO(k:Int):Prop:=Builtin.List.listFitsIndex k=true
theorem bZ{k:Nat}(h:k<=1000):bO (Int.ofNat k):=fitsIndex_of (natCast_nonneg k) (by have:(Int.ofNat k:Int)=(k:Int):=rfl;lia)
noncomputable def co(i:Nat)(v:Value):bF:=fun Γ c st=>wA (st.T.get i) nO fun _ _ items _ _=>wO (BH c) nO fun b=>(c=.builtin "list.__getitem__" ⟨[.ref (bm st.L st.n i),.int b.1 b.2],[]⟩/\bO b.1/\(seqIndex? b.1 items.size).bind (fun j=>items[j]?)=some v,ret v)
theorem py{k:Int}{n j:Nat}(h:seqIndex? k n=some j):j<n:=by
 unfold seqIndex? at h
 split at h<;>simp_all<;>omega
theorem jp{m n j:Nat}(h:seqIndex? (Int.ofNat m) n=some j):m=j:=by
 unfold seqIndex? at h
 simp only [show¬(Int.ofNat m<0) from by simp,if_false] at h
 split at h
 ·cases h;rfl
 ·cases h
noncomputable abbrev b8 a b:=(.int a b:Value)
theorem rc{pr:Program}{w:World}{A:Around}{s:Shared}{a:Addr}{o:Obj}{items n}{k:Int}{t:Tok}{v:Value}{j:Nat}(ho:s.heap.get? a=some o)(hd:o.data=.seq items n)
  (hf:Builtin.List.listFitsIndex k=true) (hj:seqIndex? k items.size=some j) (hx:items[j]? =some v):
  wpAny (model pr w) A (Builtin.«list.__getitem__» ⟨[.ref a,.int k t],[]⟩) (fun fin s''=>fin=.done (.ret v)/\s''=s) (fun _ _=>False) s:=by
 show wpAny _ _ (Builtin.List.listSubscript? (b8 k t)>>=_) _ _ s
 refine wpAny_bind (wpAny_listSubscript_int hf ?_)
 cases k with
 |ofNat m=>
  have hm:m=j:=jp hj
  subst hm
  show wpAny _ _ ((seqItemAt a m>>=fun r=>pure (r.map (m,·)))>>=_) _ _ s
  refine wpAny_bind (wpAny_bind (wpAny_seqItemAt ho hd (wpAny_pure ?_)))
  rw [hx]
  first
   |exact wpAny_bind (wpAny_pure (wpAny_pure ⟨rfl,rfl⟩))
   |exact wpAny_pure ⟨rfl,rfl⟩
 |negSucc m=>
  show wpAny _ _ ((Builtin.List.listItems (.ref a)>>=fun xs=>pure ((seqIndex? (Int.negSucc m) xs.size).bind fun i=>xs[i]?.map (i,·)))>>=_) _ _ s
  refine wpAny_bind (wpAny_bind ?_)
  show wpAny _ _ (seqItems? (.ref a)>>=_) _ _ s
  refine wpAny_bind (wpAny_seqItems ho hd (wpAny_pure (wpAny_pure ?_)))
  rw [hj]
  simp only [bind_some,hx,map_some]
  first
   |exact wpAny_bind (wpAny_pure (wpAny_pure ⟨rfl,rfl⟩))
   |exact wpAny_pure ⟨rfl,rfl⟩
theorem vi{pr:Program}{w:World}{A:Around}{s:Shared}{a:Addr}{o:Obj}{items n}{k:Int}{t:Tok}{x v:Value}{j:Nat}(ho:s.heap.get? a=some o)(hd:o.data=.seq items n)
  (hf:Builtin.List.listFitsIndex k=true) (hj:seqIndex? k items.size=some j) (hx:items[j]? =some x):
  wpAny (model pr w) A (Builtin.«list.__setitem__» ⟨[.ref a,.int k t,v],[]⟩) (fun fin s''=>fin=.done (.ret .none)/\s''={s with heap:=s.heap.update a (Obj.mapSeq (·.setIfInBounds j v))}) (fun _ _=>False) s:=by
 show wpAny _ _ (Builtin.List.listSubscript? (b8 k t)>>=_) _ _ s
 refine wpAny_bind (wpAny_listSubscript_int hf ?_)
 cases k with
 |ofNat m=>
  have hm:m=j:=jp hj
  subst hm
  show wpAny _ _ ((seqItemAt a m>>=fun r=>pure (r.map (m,·)))>>=_) _ _ s
  refine wpAny_bind (wpAny_bind (wpAny_seqItemAt ho hd (wpAny_pure ?_)))
  rw [hx]
  first
   |exact wpAny_bind (wpAny_bind (wpAny_setSeqItemAt ho hd (wpAny_pure (wpAny_pure ⟨rfl,rfl⟩))))
   |exact wpAny_bind (wpAny_setSeqItemAt ho hd (wpAny_bind (wpAny_pure (wpAny_pure ⟨rfl,rfl⟩))))
   |exact wpAny_bind (wpAny_setSeqItemAt ho hd (wpAny_pure ⟨rfl,rfl⟩))
 |negSucc m=>
  show wpAny _ _ ((Builtin.List.listItems (.ref a)>>=fun xs=>pure ((seqIndex? (Int.negSucc m) xs.size).bind fun i=>xs[i]?.map (i,·)))>>=_) _ _ s
  refine wpAny_bind (wpAny_bind ?_)
  show wpAny _ _ (seqItems? (.ref a)>>=_) _ _ s
  refine wpAny_bind (wpAny_seqItems ho hd (wpAny_pure (wpAny_pure ?_)))
  rw [hj]
  simp only [bind_some,hx,map_some]
  first
   |exact wpAny_bind (wpAny_bind (wpAny_setSeqItemAt ho hd (wpAny_pure (wpAny_pure ⟨rfl,rfl⟩))))
   |exact wpAny_bind (wpAny_setSeqItemAt ho hd (wpAny_bind (wpAny_pure (wpAny_pure ⟨rfl,rfl⟩))))
   |exact wpAny_bind (wpAny_setSeqItemAt ho hd (wpAny_pure ⟨rfl,rfl⟩))
theorem bB{V:XV}{pr:Program}{w:World}{i:Nat}{v:Value}:bE V (model pr w) (co i v):=by
 refine dT fun hΓ R=>eZ fZ fun cl dd items n sl e1=>fL fZ fun b=>?_
 rintro⟨rfl,hf,hx⟩ H
 obtain⟨rfl,rfl⟩:=fV H
 obtain⟨j,hj,hx⟩:=Option.bind_eq_some_iff.mp hx
 exact dH PySem.entry_list_getitem (by rw [hΓ];rfl) (rc (jh R e1) rfl hf hj hx)
noncomputable def nV(i j:Nat):bF:=fun Γ c st=>wA (st.T.get i) nO fun _ _ items _ _=>wO (DL c) nO fun b=>(c=.builtin "list.__setitem__" ⟨[.ref (bm st.L st.n i),.int b.1 b.2.1,b.2.2],[]⟩/\bO b.1/\seqIndex? b.1 items.size=some j,.update (bm st.L st.n i) none (Obj.mapSeq (·.setIfInBounds j b.2.2)) fun _=>ret .none)
theorem kO{V:XV}{pr:Program}{w:World}{i j:Nat}:bE V (model pr w) (nV i j):=by
 refine dT fun hΓ R=>eZ fZ fun cl dd items n sl e1=>fL fZ fun b=>?_
 rintro⟨rfl,hf,hj⟩ H
 have H:=cK H
 simp only [Sem.wp] at H
 obtain⟨_,rfl,rfl⟩:=H
 exact dH PySem.entry_list_setitem (by rw [hΓ];rfl) (vi (x:=_) (jh R e1) rfl hf hj (Array.getElem?_eq_getElem (py hj)))
noncomputable def Lg:Made->Sem Fin
 |.val v=>ret v
 |.int i=>.fresh fun t=>ret (.int i t)
 |.str x=>.fresh fun t=>ret (.str x t)
 |.float b=>.fresh fun t=>ret (.float b t)
 |_=>unsupported ""
def Kc:Made->Prop
 |.str x=>x.length<=sizeLine
 |_=>True
def uR:List (Nat×Option Obj)->Heap->Prop
 |[],_=>True
 |x::E,h=>h.get? x.1=x.2/\uR E h
abbrev wJ:=Nat×Option Obj
noncomputable def av(c:Code)(l:List wJ)(m:Made):Prop:=
 ∃id args b,c=.builtin id args/\c.cUnits=1/\entryFor table id=some b/\Kc m/\GivesAt (fun s=>uR l s.heap) (b args) m
theorem av.mk{id:String}{args:Args}{b:Builtin}{l}{m:Made}(e:entryFor table id=some b)(g:Gives (b args) m)(h:Kc m)(u:(Code.builtin id args).cUnits=1:=by rfl):av (.builtin id args) l m:=
 ⟨id,args,b,rfl,u,e,h,g.at⟩
theorem av.at{id:String}{args:Args}{b:Builtin}{l}{m:Made}(e:entryFor table id=some b)(g:GivesAt (fun s=>uR l s.heap) (b args) m)(h:Kc m)(u:(Code.builtin id args).cUnits=1:=by rfl):av (.builtin id args) l m:=
 ⟨id,args,b,rfl,u,e,h,g⟩
noncomputable def f7(is:List Nat)(m:Made):bF:=fun Γ c st=>(av c (is.map fun i=>(bm st.L st.n i,st.T.get i)) m/\(is.all fun i=>ja (st.T.get i))=true,Lg m)
theorem oL{V:XV}{h0 d os st s}(R:f6 V h0 d os st s):∀is:List Nat,(is.all fun i=>ja (st.T.get i))=true->uR (is.map fun i=>(bm st.L st.n i,st.T.get i)) s.heap
 |[],_=>trivial
 |i::is,h=>by
  simp only [List.all_cons,Bool.and_eq_true] at h
  refine⟨?_,oL R is h.2⟩
  show s.heap.get? (bm st.L st.n i)=st.T.get i
  cases e:st.T.get i with
  |none=>rw [e] at h;cases h.1
  |some o=>exact jh R e
theorem xt{M:Model}{Γ:Ctx}{p s r s'}:∀m:Made,Kc m->Runs M Γ p (Lg m) [] s (.ret r) s'->m.post (fun v s''=>(Except.ok (.ret v):Result)=r/\s''=s') s
 |.val v,_,H=>by obtain⟨rfl,rfl⟩:=cK H;exact⟨rfl,rfl⟩
 |.int v,_,H=>by obtain⟨rfl,rfl⟩:=cK H;exact⟨rfl,rfl⟩
 |.str v,ok,H=>by obtain⟨rfl,rfl⟩:=cK H;exact⟨ok,rfl,rfl⟩
 |.float v,_,H=>by obtain⟨rfl,rfl⟩:=cK H;exact⟨rfl,rfl⟩
 |.bytes _,_,H=>(cK H:False).elim
 |.either _ _,_,H=>(cK H:False).elim
theorem au{V:XV}{pr:Program}{w:World}{is:List Nat}{m:Made}:bE V (model pr w) (f7 is m):=by
 intro h0 d os Γ c st s p r s' hc hΓ R H
 refine gQ fun Q zQ=>?_
 obtain⟨⟨id,args,b,rfl,hu,hb,hm,g⟩,hall⟩:=hc
 refine zQ ?_
 have H:Runs (model pr w) Γ p (Lg m) [] s (.ret r) s':=H
 have hp:=xt m hm H
 have z:=g pr w (rV Γ) (fun r' s''=>r'=r/\s''=s') s (oL R is hall) hp Γ p (nq Γ (by rw [hΓ];exact hu))
 rw [bg hb]
 have y:Sem.wp (model pr w) Γ (b args) (Sem.finPost (model pr w) Γ fun r' s''=>r'=r/\s''=s') (fun e _ s''=>(Except.error e:Result)=r/\s''=s') p s:=by
  refine Sem.wp_mono _ _ _ (fun fin p' s₁ h'=>?_) (fun _ _ _ h'=>h') p s z
  cases fin with
  |done f=>exact h'
  |again c'=>exact⟨h'.1,h'.2 (Γ.goto c') p' rfl (kV Γ c')⟩
 obtain⟨r',s'',y',e1,e2⟩:=(Sem.wp_iff_runs (model pr w) Γ (b args) (fun r' s''=>r'=r/\s''=s') p s).mp y
 subst e1 e2
 exact y'
theorem ot{x y:Str}{t u:Tok}{l}(hx:x.length≠0)(hy:y.length≠0)(h:x.length+y.length<=1000):av (.builtin "str.__add__" ⟨[.str x t,.str y u],[]⟩) l (.str (x++y)):=by
 have g:=gives_str_add x y t u
 rw [if_neg (by simpa using hx),if_neg (by simpa using hy)] at g
 refine av.mk PySem.F.entry_str_add g ?_
 show(x++y).length<=sizeLine
 rw [Str.length_append]
 have:sizeLine=16777216:=by rfl
 lia
abbrev jA a:=model pw a
noncomputable def ml(w:World)(c:Code)(l:List wJ)(t:Sem Fin):Prop:=
 ∀Γ p s r s',Γ.code=c->uR l s.heap->Runs (jA w) Γ p t [] s (.ret r) s'->Runs (jA w) Γ p ((jA w).den c) [] s (.ret r) s'
noncomputable def At(w:World)(is:List Nat)(t:Sem Fin):bF:=fun Γ c st=>(ml w c (is.map fun i=>(bm st.L st.n i,st.T.get i)) t/\(is.all fun i=>ja (st.T.get i))=true,t)
theorem nu{V:XV}{w:World}{is:List Nat}{t:Sem Fin}:bE V (model pw w) (At w is t):=by
 intro h0 d os Γ c st s p r s' hc hΓ R H
 exact hc.1 Γ p s r s' hΓ (oL R is hc.2) H
theorem ml.meets{w:World}{id:String}{args:Args}{b:Builtin}{l}{t:Sem Fin}{S:Spec}(hb:entryFor table id=some b)(g:Meets (b args) S)
  (h:∀Γ p s r s',uR l s.heap->Runs (model pw w) Γ p t [] s (.ret r) s'->S (rV Γ) (fun r' s''=>r'=r/\s''=s') s) (hu:(Code.builtin id args).cUnits=1:=by rfl):ml w (.builtin id args) l t:=by
 intro Γ p s r s' hΓ hl H
 rw [bg hb]
 exact bv g (by rw [hΓ];exact hu) (h Γ p s r s' hl H)
theorem pj{M:Model}{Γ:Ctx}{p s r s'}{a:Addr}{f:Obj->Obj}{v:Value}(H:Runs M Γ p (.update a none f fun _=>ret v) [] s (.ret r) s'):r=.ok (.ret v)/\s'={s with heap:=s.heap.update a f}:=by
 have H:=cK H
 simp only [Sem.wp] at H
 obtain⟨_,e1,e2⟩:=H
 exact⟨e1.symm,e2.symm⟩
theorem fq{w:World}{a:Addr}{items:Array Value}{n:Nat}{v:Value}(h:items.size<=1000):
  ml w (.builtin "list.append" ⟨[.ref a,v],[]⟩) [(a,some ⟨.type "list",none,.seq items n,⟨[]⟩⟩)] (.update a none (Obj.mapSeq (·.push v)) fun _=>ret .none):=
 ml.meets PySem.entry_list_append (PySem.AutoListH.list_append_list_val_0 a items n v (by rw [sizeLine_eq];lia)) fun Γ p s r s' hl H=>by
  obtain⟨rfl,rfl⟩:=pj H
  exact⟨hl.1,rfl,rfl⟩
open PySem.AutoSeq1 in
theorem rG(l:Addr)(items:Array Value)(n:Nat)(b:Addr)(items2:Array Value)(n2:Nat)(hs0:¬(!items.isEmpty&&Builtin.List.listTooLong (items.size+items2.size))=true)(hs1:items.size<=sizeLine)(hs2:items.size+items2.size<=sizeLine+1):
  Meets (Builtin.«list.__iadd__» ⟨[.ref l,.ref b],[]⟩) (fun _ R s=>s.heap.get? l=some {cls:=.type "list",dict:=none,data:=.seq items n,slots:= #[]}/\s.heap.get? b=some {cls:=.type "tuple",dict:=none,data:=.seq items2 n2,slots:= #[]}/\R (.ok (.ret (Value.ref l))) {s with heap:=s.heap.update l (Obj.mapSeq fun x=>x++items2),toks:=s.toks}):=
 .of_wp fun prog w A R s h=>by
  obtain⟨hp,g,d,tk,os⟩:=s;obtain⟨hl,hb,h⟩:=h;have f1:=idx_int;have f2:=sub_tuple_tuple;have f3:=sub_list_list;have f4:=sub_tuple_list;have f5:=sub_list_tuple;
  have hz':(items++items2).size<=sizeLine+1:=by rw [size_append];exact hs2
  wp_walk using (wpAny_updateSeq hl rfl (hz:=hs1) (_hz':=hz')),wpAny_loadPart' hl,wpAny_loadPart' hb;exact⟨_,rfl,h⟩
theorem rO{w:World}{a b:Addr}{items items2:Array Value}{n n2:Nat}(h:items.size+items2.size<=1000):
  ml w (.builtin "list.__iadd__" ⟨[.ref a,.ref b],[]⟩) [(a,some ⟨.type "list",none,.seq items n,⟨[]⟩⟩),(b,some ⟨.type "tuple",none,.seq items2 n2,⟨[]⟩⟩)] (.update a none (Obj.mapSeq (·++items2)) fun _=>ret (.ref a)):=
 ml.meets PySem.F.entry_list_iadd (rG a items n b items2 n2 (by
  have:Builtin.List.listTooLong (items.size+items2.size)=false:=by
   unfold Builtin.List.listTooLong;simp [sizeLine_eq];lia
  rw [this];simp) (by rw [sizeLine_eq];lia) (by rw [sizeLine_eq];lia)) fun Γ p s r s' hl H=>by
  obtain⟨rfl,rfl⟩:=pj H
  exact⟨hl.1,hl.2.1,rfl,rfl⟩
noncomputable def lu(i j:Nat):bF:=fun Γ c st=>match st.T.get i,st.T.get j with
 |some ⟨cl,dd,.seq items n,sl⟩,some ⟨cl',dd',.seq items2 n2,sl'⟩=>
  (c=.builtin "list.__iadd__" ⟨[.ref (bm st.L st.n i),.ref (bm st.L st.n j)],[]⟩/\(cl=.type "list"/\dd=none/\sl=⟨[]⟩)/\(cl'=.type "tuple"/\dd'=none/\sl'=⟨[]⟩)/\Nat.ble (Nat.add items.size items2.size) 1000=true,
   .update (bm st.L st.n i) none (Obj.mapSeq (·++items2)) fun _=>ret (.ref (bm st.L st.n i)))
 |_,_=>(False,unsupported "")
theorem qH{V:XV}{w:World}{i j:Nat}:bE V (model pw w) (lu i j):=by
 intro h0 d os Γ c st s p r s' hc hΓ R H
 unfold lu at hc H
 split at hc
 ·rename_i cl dd items n sl cl' dd' items2 n2 sl' e1 e2
  obtain⟨rfl,⟨rfl,rfl,rfl⟩,⟨rfl,rfl,rfl⟩,hb⟩:=hc
  simp only [e1,e2] at H
  exact rO (w:=w) (le_of_ble_eq_true hb) Γ p s r s' hΓ ⟨jh R e1,jh R e2,trivial⟩ H
 ·exact hc.elim
noncomputable def cf(i:Nat):bF:=fun Γ c st=>wA (st.T.get i) nO fun cl dd items _ sl=>wO (N0 c) nO fun v=>
  (c=.builtin "list.append" ⟨[.ref (bm st.L st.n i),v],[]⟩/\(cl=.type "list"/\dd=none/\sl=⟨[]⟩)/\items.size<=1000,.update (bm st.L st.n i) none (Obj.mapSeq (·.push v)) fun _=>ret .none)
theorem bx{V:XV}{w:World}{i:Nat}:bE V (model pw w) (cf i):=by
 refine dT fun hΓ R=>eZ fZ fun cl dd items n sl e1=>fL fZ fun v=>?_
 rintro⟨rfl,⟨rfl,rfl,rfl⟩,hb⟩ H
 exact fq (w:=w) hb _ _ _ _ _ hΓ ⟨jh R e1,trivial⟩ H
abbrev OZ:=Ev->Nat->Nat->List wJ->Prop
def kZ(is:List Nat)(Z:Ev->Nat->Nat->Bool->List wJ->Prop):jj:=fun ev _ st=>Z ev (Nat.add st.n st.k) (Nat.add st.tb st.ti) (st.gl.all l9) (is.map fun i=>(bm st.L st.n i,st.T.get i))
noncomputable def ax(E:ae):List wJ:=E.map fun x=>(x.1,some x.2)
def f9:List (Nat×Option Obj)->Heap->Prop
 |[],_=>True
 |x::E,h=>(match x.2 with|some o=>h.get? x.1=some o|none=>True)/\f9 E h
theorem ai:∀{E:ae} {h:Heap},f9 (ax E) h->cI E h
 |[],_,_=>trivial
 |_::_,_,H=>⟨H.1,ai H.2⟩
noncomputable def rh{α:Type}(d:α):List α->Nat->α
 |[],_=>d
 |a::_,0=>a
 |_::l,n+1=>rh d l n
noncomputable def fg(w':World)(m:Nat)(al:List bF)(rw:List Value)(sm:List bM)(ob:List Obj)(fz:List dh):XV:=
 {den:=aQ,prog:=pw,w:=w',kt:=eG w'.params,mm:=m,ro:=m,sm:=fun i=>rh (fun _ _ _ _ _=>False) sm i,rw:=fun i=>rh .none rw i,al:=fun i=>rh (fun _ _ _=>(False,unsupported "")) al i,ob:=fun i=>rh ⟨.none,none,.plain, #[]⟩ ob i,fz:=fz}
noncomputable abbrev ei(w':World)(m:Nat)(al:List bF)(rw:List Value)(sm:List bM)(ob:List Obj):XV:=fg w' m al rw sm ob []
def eD(M:Model):List bF->Prop
 |[]=>True
 |a::l=>(∀V,bE V M a)/\eD M l
def fF(V:XV)(M:Model):List bM->Prop
 |[]=>True
 |a::l=>bX V M a/\fF V M l
theorem eD.at{M:Model}:∀{l:List bF},eD M l->∀i V,bE V M (rh (fun _ _ _=>(False,unsupported "")) l i)
 |[],_,_,_=>fun _ _ _ _ _ _ _ _ _ _ hc=>(hc:False).elim
 |_::_,H,0,V=>H.1 V
 |_::_,H,i+1,V=>eD.at H.2 i V
theorem fF.at{V:XV}{M:Model}:∀{l:List bM},fF V M l->∀i,bX V M (rh (fun _ _ _ _ _=>False) l i)
 |[],_,_=>fun _ _ _ _ _ _ _ _ _ hc=>(hc:False).elim
 |_::_,H,0=>H.1
 |_::_,H,i+1=>fF.at H.2 i
theorem sb{w':World}{m:Nat}{al:List bF}{rw:List Value}{sm:List bM}{ob:List Obj}{fz:List (Nat×Obj)}(ha:eD (model pw w') al)(hs:fF (fg w' m al rw sm ob fz) (model pw w') sm):(fg w' m al rw sm ob fz).Ok (model pw w'):=
 ⟨sq.symm,rfl,rfl,fun i=>hs.at i,fun i=>ha.at i _⟩
structure af(E:ae)(s s':Shared):Prop where
 keep:∀b o,s.heap.get? b=some o->b∉E.map (·.1)->s'.heap.get? b=some o
 drawn:s'.drawn=s.drawn
 os:s'.os=s.os
 size:s.heap.objs.size<=s'.heap.objs.size
structure az(P:Params)(E:ae)(s:Shared):Prop where
 rdy:cN P s
 has:cI E s.heap
 nd:(E.map (·.1)).Nodup
 lo:∀a∈E.map (·.1),(eG P).get a=none
theorem yb{x:GenState}(h:l9 x=true):x=.finished:=by
 cases x<;>first|rfl|cases h
theorem fU{V h0 d os st s}(R:f6 V h0 d os st s)(h:st.gl.all l9=true):∀(j:Nat) (x:GenState),s.gens[j]? =some x->x=.finished:=by
 intro j x e
 by_cases hj:j<st.gb
 ·exact R.gold j x hj e
 ·have hlt:j<s.gens.size:=by
   rcases lt_or_ge j s.gens.size with h|h
   ·exact h
   ·rw [Array.getElem?_eq_none h] at e;cases e
  rw [R.gsize] at hlt
  have hi:j-st.gb<st.gl.length:=by omega
  have e2:=R.gnew (j-st.gb) _ (List.getElem?_eq_getElem hi)
  rw [show st.gb+(j-st.gb)=j by omega,e] at e2
  cases e2
  exact yb (List.all_eq_true.mp h _ (getElem_mem hi))
theorem gd{V h0 d os st s}(R:f6 V h0 d os st s):∀is:List Nat,f9 (is.map fun i=>(bm st.L st.n i,st.T.get i)) s.heap
 |[]=>trivial
 |i::is=>by
  refine⟨?_,gd R is⟩
  show match st.T.get i with|some o=>s.heap.get? (bm st.L st.n i)=some o|none=>True
  split
  ·rename_i o e;exact(R.own _ _ e).2
  ·trivial
def cH(fz:List dh)(E:ae)(s:Shared):Prop:=∀x∈fz,s.heap.get? x.1=some x.2/\x.1∉E.map (·.1)
theorem sU{w':World}{al rw sm ob}{fz:List dh}{E:ae}(ha:eD (jA w') al)(hs:fF (fg w' E.length al rw sm ob fz) (jA w') sm){Γ:Ctx}{p:Pos}{t:Sem Fin}{hl:List Nat}{N:Nat}{is:List Nat}{Z:OZ}{s:Shared}(hP:az w'.params E s){n tb gb:Nat}
  (hn:s.heap.objs.size=n) (ht:s.toks=tb) (hg:s.gens.size=gb) (his:is.take E.length=List.range E.length)
  (hZ:∀ev nk tk l,Z ev nk tk l->(l.map (·.1)).take E.length=E.map (·.1)/\677<=tk)
  (hfz:cH fz E s) (H:cm (fg w' E.length al rw sm ob fz) N Γ p t [] hl (qU E n tb gb) (kZ is fun ev nk tk fin l=>fin=true/\Z ev nk tk l)):
  ∃ev s' l,dA (jA w') Γ p t [] s ev s'/\Z ev s'.heap.objs.size s'.toks l/\f9 l s'.heap/\cN w'.params s'/\af E s s':=by
 refine gQ fun Q zQ=>?_
 obtain⟨ev,hs',st',s',r,R,hf,z⟩:=ik (sb ha hs) N Γ p t [] hl _ _ s H (xX (V:=fg w' E.length al rw sm ob fz) rfl rfl rfl hP.rdy hP.has hP.nd hP.lo hn ht hg hfz)
 have e1:s'.heap.objs.size=Nat.add st'.n st'.k:=R.size
 have e2:s'.toks=Nat.add st'.tb st'.ti:=R.toks
 rw [<-e1,<-e2] at z
 obtain⟨h1,h3⟩:=hZ _ _ _ _ z
 refine zQ ?_
 have hsz:s.heap.objs.size<=s'.heap.objs.size:=by rw [e1];exact Nat.le_trans R.h0n (le_add_right _ _)
 refine⟨ev,s',_,r,z,gd R is,⟨fun a o e=>R.kt a o e,fU R hf,?_,?_⟩,⟨fun b o e hb=>?_,R.drawn,R.os,hsz⟩⟩
 ·have:=hP.rdy.size;lia
 ·exact h3
 ·refine R.keep b o e fun i hi q=>hb ?_
  have hi:i<E.length:=hi
  rw [<-h1,map_map]
  rw [<-q]
  have hm:(is.map fun i=>bm st'.L st'.n i).take E.length=(List.range E.length).map fun i=>bm st'.L st'.n i:=by rw [<-map_take,his]
  show bm st'.L st'.n i∈((is.map fun i=>bm st'.L st'.n i).take E.length)
  rw [hm]
  exact List.mem_map.mpr ⟨i,List.mem_range.mpr hi,rfl⟩
theorem dw{w':World}{al rw sm ob}{E:ae}(ha:eD (model pw w') al)(hs:fF (ei w' E.length al rw sm ob) (model pw w') sm){Γ:Ctx}{p:Pos}{t:Sem Fin}{hl:List Nat}{N:Nat}{is:List Nat}{Z:OZ}{s:Shared}(hP:az w'.params E s){n tb gb:Nat}
  (hn:s.heap.objs.size=n) (ht:s.toks=tb) (hg:s.gens.size=gb) (his:is.take E.length=List.range E.length)
  (hZ:∀ev nk tk l,Z ev nk tk l->(l.map (·.1)).take E.length=E.map (·.1)/\677<=tk)
  (H:cm (ei w' E.length al rw sm ob) N Γ p t [] hl (qU E n tb gb) (kZ is fun ev nk tk fin l=>fin=true/\Z ev nk tk l)):
  ∃ev s' l,dA (model pw w') Γ p t [] s ev s'/\Z ev s'.heap.objs.size s'.toks l/\f9 l s'.heap/\cN w'.params s'/\af E s s':=
 sU (fz:=[]) ha hs hP hn ht hg his hZ (fun x hx=>nomatch hx) H
def sI(is:List Nat)(Z:Ev->Nat->Nat->Bool->List wJ->List dh->Prop):jj:=fun ev _ st=>Z ev (Nat.add st.n st.k) (Nat.add st.tb st.ti) (st.gl.all l9&&(is.all fun i=>Nat.blt i (Nat.add st.m0 st.k))) (is.map fun i=>(bm st.L st.n i,st.T.get i)) st.fz
theorem zG{w':World}{al rw sm ob}{fz:List dh}{E:ae}(ha:eD (jA w') al)(hs:fF (fg w' E.length al rw sm ob fz) (jA w') sm){Γ:Ctx}{p:Pos}{t:Sem Fin}{hl:List Nat}{N:Nat}{is:List Nat}{Z:Ev->Nat->Nat->List wJ->List dh->Prop}{s:Shared}(hP:az w'.params E s){n tb gb:Nat}
  (hn:s.heap.objs.size=n) (ht:s.toks=tb) (hg:s.gens.size=gb) (his:is.take E.length=List.range E.length)
  (hZ:∀ev nk tk l f,Z ev nk tk l f->(l.map (·.1)).take E.length=E.map (·.1)/\677<=tk)
  (hfz:cH fz E s) (H:cm (fg w' E.length al rw sm ob fz) N Γ p t [] hl (qU E n tb gb) (sI is fun ev nk tk fin l f=>fin=true/\Z ev nk tk l f)):
  ∃ev s' l f,dA (jA w') Γ p t [] s ev s'/\Z ev s'.heap.objs.size s'.toks l f/\f9 l s'.heap/\cN w'.params s'/\af E s s'/\∀x∈f,s'.heap.get? x.1=some x.2/\x.1∉l.map (·.1)/\s.heap.objs.size<=x.1:=by
 refine gQ fun Q zQ=>?_
 obtain⟨ev,hs',st',s',r,R,hf,z⟩:=ik (sb ha hs) N Γ p t [] hl _ _ s H (xX (V:=fg w' E.length al rw sm ob fz) rfl rfl rfl hP.rdy hP.has hP.nd hP.lo hn ht hg hfz)
 rw [Bool.and_eq_true] at hf
 have e1:s'.heap.objs.size=Nat.add st'.n st'.k:=R.size
 have e2:s'.toks=Nat.add st'.tb st'.ti:=R.toks
 rw [<-e1,<-e2] at z
 obtain⟨h1,h3⟩:=hZ _ _ _ _ _ z
 refine zQ ?_
 have hsz:s.heap.objs.size<=s'.heap.objs.size:=by rw [e1];exact Nat.le_trans R.h0n (le_add_right _ _)
 refine⟨ev,s',_,_,r,z,gd R is,⟨fun a o e=>R.kt a o e,fU R hf.1,?_,?_⟩,⟨fun b o e hb=>?_,R.drawn,R.os,hsz⟩,fun x hx=>⟨(R.dz x hx).1,fun hm=>?_,(R.dz x hx).2.2⟩⟩
 ·have:=hP.rdy.size;lia
 ·exact h3
 ·refine R.keep b o e fun i hi q=>hb ?_
  have hi:i<E.length:=hi
  rw [<-h1,map_map]
  rw [<-q]
  have hm:(is.map fun i=>bm st'.L st'.n i).take E.length=(List.range E.length).map fun i=>bm st'.L st'.n i:=by rw [<-map_take,his]
  show bm st'.L st'.n i∈((is.map fun i=>bm st'.L st'.n i).take E.length)
  rw [hm]
  exact List.mem_map.mpr ⟨i,List.mem_range.mpr hi,rfl⟩
 ·rw [map_map] at hm
  obtain⟨i,hi,e⟩:=List.mem_map.mp hm
  have e:bm st'.L st'.n i=x.1:=e
  have hlt:=List.all_eq_true.mp hf.2 i hi
  exact(R.dz x hx).2.1 i (le_of_ble_eq_true hlt) e
noncomputable def H7(l:List Nat)(t:Tok):Value:=.str ⟨⟨l⟩⟩ t
noncomputable def aa(P:Params)(l:List Nat)(t:Tok)(v:Value):DictEntry:=⟨PyData.keyHash P ⟨⟨l⟩⟩,.str ⟨⟨l⟩⟩ t,v⟩
noncomputable def bD(l:List Value):Obj:=⟨.none,none,.fields ⟨l⟩,⟨[]⟩⟩
noncomputable abbrev E5 a b:=(⟨.type "list",none,.seq a b,⟨[]⟩⟩:Obj)
noncomputable def ab(l:Array Value)(ep:Nat):Obj:=(E5 l ep)
noncomputable def ah(cl:String)(l:List DictEntry)(ep:Nat):Obj:=⟨.type cl,none,.dict ⟨l⟩ ep,⟨[]⟩⟩
noncomputable def aK(cl:String)(l:List Value):Obj:=⟨.type cl,none,.fields ⟨l⟩,⟨[]⟩⟩
noncomputable abbrev yf:List Nat:=[115,105,103,110,115]
noncomputable abbrev Dd:List Nat:=[114,111,119,115]
noncomputable abbrev dJ:List Nat:=DM
abbrev Yk a b c:=(A a,ab b c)
abbrev Yp a:=(.ref (A a):Value)
abbrev fC a:=(.ref (A a):Value)
abbrev PI a b c d e f g h i j k l m:=ah "dict" [aa a [95,109,97,120,108,101,110] b (.int 78 c),aa a Pf d (H7 [32] e),aa a Pt f (.int 1 g),aa a [95,115,112,108,105,116,99,104,97,114,115] h (H7 [59] i),aa a [95,108,105,110,101,115] j (Yp k),aa a [95,99,117,114,114,101,110,116,95,108,105,110,101] l (Yp m)] 6
noncomputable def bH(P:Params)(aS aF aD aR aL aC aM aI:Nat)(u1 u2 u4 u5 u6 u7 u8 u9 u10 u11 u12 u13 q1:Tok)(t140 t147:List Value)(sg:Array Value)(ep1:Nat)(fr:List DictEntry)(fe:Nat)(lines:Obj)(q2:Tok)(ep3:Nat)(k:Int):ae:=
 [(140,bD t140),(147,bD t147),(Yk aS sg ep1),
  (A aF,ah "frame" (aa P yf u1 (Yp aS)::aa P Dd u2 (Yp aR)::fr) fe),
  (A aD,PI P u4 u5 u6 u7 u8 u9 u10 u11 u12 aL u13 aM),
  (A aR,⟨.ref 94,some (A aD),.plain,⟨[]⟩⟩),(A aL,lines),
  (A aC,ah "dict" [aa P OB q1 (.int 0 q2)] 1),
  (A aM,⟨.ref 178,some (A aC),.seq ⟨[]⟩ ep3,⟨[]⟩⟩),(A aI,aK "list_iterator" [fC aS,.int k 0])]
noncomputable def ib(P:Params)(aS aF aD aR aL aC aM aI:Nat)(u1 u2 u4 u5 u6 u7 u8 u9 u10 u11 u12 u13 q1:Tok)(t140 t147:List Value)(sg:Array Value)(ep1:Nat)(fr:List DictEntry)(fe:Nat)(lines:Obj)(q2:Tok)(ep3:Nat)(k:Int):ae:=
 [(140,bD t140),(147,bD t147),(Yk aS sg ep1),
  (A aF,ah "frame" (aa P yf u1 (Yp aS)::aa P Dd u2 (Yp aR)::fr) fe),
  (A aD,PI P u4 u5 u6 u7 u8 u9 u10 u11 u12 aL u13 aM),
  (A aR,⟨.ref 94,some (A aD),.plain,⟨[]⟩⟩),(A aL,lines),
  (A aC,ah "dict" [aa P OB q1 (.int 0 q2)] 1),
  (A aM,⟨.ref 178,some (A aC),.seq ⟨[]⟩ ep3,⟨[]⟩⟩),(A aI,aK "list_iterator" [.none,.int k 0])]
section
noncomputable def qP:BT->List Nat->List Obj->BT
 |T,i::is,o::l=>qP (T.set i fun _=>o) is l
 |T,_,_=>T
noncomputable def Gt:BT->Nat->List Obj->BT
 |T,_,[]=>T
 |T,m,o::l=>Gt (T.ins m o) (Nat.succ m) l
noncomputable def je:BT->Nat->List Obj->Bool
 |_,_,[]=>true
 |T,m,o::l=>match ja ((T.ins m o).get m) with
  |true=>je (T.ins m o) (Nat.succ m) l
  |false=>false
noncomputable def dS(st:St)(is:List Nat)(E':List Obj)(N:ae)(n' tb' gb':Nat):St:=
 {L:=(st.L++(List.range st.k).map (Nat.add st.n ·))++N.map (·.1),m0:=Nat.add (Nat.add st.m0 st.k) N.length,n:=n',k:=0,T:=Gt (qP st.T is E') (Nat.add st.m0 st.k) (N.map (·.2)),tb:=tb',ti:=0,gb:=gb',gl:=[],fz:=st.fz}
noncomputable def nz:List Nat->Bool
 |[]=>true
 |a::l=> !(l.any (Nat.beq a))&&nz l
theorem hV:∀{l:List Nat},nz l=true->l.Nodup
 |[],_=>nodup_nil
 |a::l,h=>by
  unfold nz at h
  rw [Bool.and_eq_true] at h
  refine List.nodup_cons.mpr ⟨fun q=>?_,hV h.2⟩
  have:=h.1
  rw [show l.any (Nat.beq a)=true from List.any_eq_true.mpr ⟨a,q,Nat.beq_refl a⟩] at this
  cases this
theorem g7{f:Nat->Nat}:∀{l:List Nat},l.Nodup->(∀a∈l,∀b∈l,f a=f b->a=b)->(l.map f).Nodup
 |[],_,_=>nodup_nil
 |a::l,h,g=>by
  have h:=List.nodup_cons.mp h
  refine List.nodup_cons.mpr ⟨fun q=>?_,g7 h.2 fun x hx y hy=>g x (mem_cons_of_mem _ hx) y (mem_cons_of_mem _ hy)⟩
  obtain⟨b,hb,e⟩:=List.mem_map.mp q
  have:=g b (mem_cons_of_mem _ hb) a (mem_cons_self ..) e
  subst this
  exact h.1 hb
def kf:List Nat->List Obj->Heap->Prop
 |a::l,o::E,h=>h.get? a=some o/\kf l E h
 |_,_,_=>True
theorem ra{α}{x:Option α}:ja x=x.isSome:=by cases x<;>rfl
theorem qq:∀(l:List Obj) (T:BT) (m:Nat),je T m l=true->∀i o,(Gt T m l).get i=some o->T.get i=some o/\(i<m\/l=[]\/m+l.length<=i)\/(m<=i/\l[i-m]? =some o)
 |[],T,m,_,i,o,e=>.inl ⟨e,.inr (.inl rfl)⟩
 |x::l,T,m,h,i,o,e=>by
  have hs:((T.ins m x).get m).isSome=true:=by
   unfold je at h
   split at h
   ·rename_i q;rw [<-ra];exact q
   ·cases h
  have h':je (T.ins m x) (m+1) l=true:=by
   unfold je at h
   split at h
   ·exact h
   ·cases h
  rcases qq l (T.ins m x) (m+1) h' i o e with⟨a,b⟩|⟨a,b⟩
  ·rw [BT.get_ins x T m hs] at a
   by_cases q:i=m
   ·subst q
    rw [if_pos rfl] at a
    exact .inr ⟨Nat.le_refl _,by rw [Nat.sub_self];exact a⟩
   ·rw [if_neg q] at a
    refine .inl ⟨a,?_⟩
    rcases b with b|b|b
    ·left;omega
    ·subst b
     by_cases q2:i<m
     ·exact .inl q2
     ·right;right;simp;omega
    ·right;right;simp;omega
  ·refine .inr ⟨by omega,?_⟩
   rw [show i-m=(i-(m+1))+1 by omega];exact b
theorem pt:∀(is:List Nat) (l:List Obj) (T:BT) (i:Nat) (o:Obj),is.length=l.length->(qP T is l).get i=some o->(T.get i=some o/\i∉is)\/∃j:Nat,is[j]? =some i/\l[j]? =some o
 |[],_,T,i,o,_,e=>.inl ⟨by simpa [qP] using e,by simp⟩
 |i0::is,[],T,i,o,h,e=>by simp at h
 |i0::is,o0::l,T,i,o,h,e=>by
  rcases pt is l (T.set i0 fun _=>o0) i o (by simpa using h) e with⟨a,b⟩|⟨j,a,b⟩
  ·rw [BT.get_set] at a
   by_cases q:i=i0
   ·subst q
    rw [if_pos rfl] at a
    cases t:T.get i with
    |none=>rw [t] at a;cases a
    |some y=>rw [t] at a;cases a;exact .inr ⟨0,rfl,rfl⟩
   ·rw [if_neg q] at a
    exact .inl ⟨a,by simp [q,b]⟩
  ·exact .inr ⟨j+1,by simpa using a,by simpa using b⟩
theorem m7:∀{l:List Nat} {E:List Obj} {h:Heap},kf l E h->∀{j:Nat} {a:Nat} {o:Obj},l[j]? =some a->E[j]? =some o->h.get? a=some o
 |[],_,_,_,j,a,o,e,_=>by simp at e
 |_::_,[],_,_,j,a,o,_,e=>by simp at e
 |x::l,y::E,h,H,0,a,o,e,e'=>by simp at e e';subst e e';exact H.1
 |x::l,y::E,h,H,j+1,a,o,e,e'=>m7 (l:=l) (E:=E) H.2 (j:=j) (by simpa using e) (by simpa using e')
theorem lQ:∀{L:List Nat} {n i:Nat},i<L.length->L[i]? =some (bm L n i)
 |_::_,_,0,_=>rfl
 |_::L,n,i+1,h=>by
  have:i<L.length:=by simpa using h
  rw [List.getElem?_cons_succ];exact lQ (n:=n) this
theorem sz{L L2:List Nat}{n n' i:Nat}(h:i<L.length):bm (L++L2) n' i=bm L n i:=by
 have a:=lQ (L:=L++L2) (n:=n') (i:=i) (by rw [List.length_append];lia)
 rw [getElem?_append_left h,lQ (n:=n) h] at a
 exact(Option.some.inj a).symm
theorem zl{L:List Nat}{n n' k i:Nat}(h:i<L.length+k):bm (L++(List.range k).map (Nat.add n ·)) n' i=bm L n i:=by
 by_cases q:i<L.length
 ·exact sz q
 ·have a:=lQ (L:=L++(List.range k).map (Nat.add n ·)) (n:=n') (i:=i) (by rw [List.length_append,length_map,length_range];omega)
  rw [getElem?_append_right (by omega),getElem?_map,List.getElem?_range (by omega)] at a
  rw [lD (L:=L) (by omega)]
  exact(Option.some.inj a).symm
section
variable{V:XV}{h0:Heap}{d:Drawn}{os:OsState}{st:St}{s s':Shared}{P:Params}
theorem oe(R:f6 V h0 d os st s){is:List Nat}{E:ae}{E':List Obj}{N:ae}{n' tb' gb':Nat}(hk:V.kt=eG P)
  (hE:(is.map fun i=>(bm st.L st.n i,st.T.get i))=ax E) (hlen:is.length=E'.length) (hm:(is.all fun i=>Nat.blt i V.mm||Nat.ble V.ro i)=true)
  (hio:je (qP st.T is E') (Nat.add st.m0 st.k) (N.map (·.2))=true) (rdy:cN P s') (K:af E s s') (has:kf (E.map (·.1)) E' s'.heap) (hasN:cI N s'.heap)
  (newN:∀y∈N,s.heap.objs.size<=y.1) (ndN:(N.map (·.1)).Nodup) (hn:s'.heap.objs.size=n') (ht:s'.toks=tb') (hg:s'.gens.size=gb') {F:List dh} (hF:∀x∈F,x∈st.fz\/(s'.heap.get? x.1=some x.2/\s.heap.objs.size<=x.1/\x.1∉N.map (·.1))):f6 V h0 d os {dS st is E' N n' tb' gb' with fz:=F} s':=by
 have eA:E.map (·.1)=is.map fun i=>bm st.L st.n i:=by
  have:=congrArg (List.map fun x=>x.1) hE
  simp only [map_map,ax] at this
  exact this.symm
 have hlt:∀i∈is,i<st.m0+st.k:=by
  intro i hi
  have:(bm st.L st.n i,st.T.get i)∈ax E:=by rw [<-hE];exact List.mem_map.mpr ⟨i,hi,rfl⟩
  obtain⟨x,_,e⟩:=List.mem_map.mp this
  exact(R.own i x.2 (congrArg Prod.snd e).symm).1
 have hL:(st.L++(List.range st.k).map (Nat.add st.n ·)).length=st.m0+st.k:=by rw [List.length_append,length_map,length_range,R.len]
 have old:∀{i},i<st.m0+st.k->bm (dS st is E' N n' tb' gb').L n' i=bm st.L st.n i:=by
  intro i hi
  exact(sz (n:=0) (by rw [hL];exact hi)).trans (zl (by rw [R.len];exact hi))
 have new:∀{j:Nat} {x:Nat×Obj},N[j]? =some x->bm (dS st is E' N n' tb' gb').L n' (st.m0+st.k+j)=x.1:=by
  intro j x e
  have hj:=(List.getElem?_eq_some_iff.mp e).1
  have a:=lQ (L:=(dS st is E' N n' tb' gb').L) (n:=n') (i:=st.m0+st.k+j) (by show _<(_++_:List Nat).length;rw [List.length_append,hL,length_map];lia)
  have b:(dS st is E' N n' tb' gb').L[st.m0+st.k+j]? =some x.1:=by
   show((st.L++(List.range st.k).map (Nat.add st.n ·))++N.map (·.1))[st.m0+st.k+j]? =_
   rw [getElem?_append_right (by rw [hL];lia),hL,show st.m0+st.k+j-(st.m0+st.k)=j by lia,getElem?_map,e];rfl
  rw [b] at a
  exact(Option.some.inj a).symm
 have olt:∀{i},i<st.m0+st.k->bm st.L st.n i<s.heap.objs.size:=by
  intro i hi
  rw [R.size]
  by_cases q:i<st.L.length
  ·have:=R.low _ (rZ (n:=st.n) q);lia
  ·rw [lD (by lia)];rw [R.len] at q⊢;lia
 have cut:∀{i},i<(dS st is E' N n' tb' gb').m0+0->i<st.m0+st.k\/∃(j:Nat) (x:Nat×Obj),i=st.m0+st.k+j/\N[j]? =some x:=by
  intro i hi
  have hi:i<st.m0+st.k+N.length+0:=hi
  by_cases q:i<st.m0+st.k
  ·exact .inl q
  ·exact .inr ⟨i-(st.m0+st.k),N[i-(st.m0+st.k)]'(by lia),by lia,List.getElem?_eq_getElem _⟩
 have eE:∀{j i:Nat},is[j]? =some i->(E.map (·.1))[j]? =some (bm st.L st.n i):=by
  intro j i e
  rw [eA,getElem?_map,e];rfl
 have nm:∀{j:Nat} {x:Nat×Obj},N[j]? =some x->s.heap.objs.size<=x.1:=fun e=>newN _ (mem_of_getElem? e)
 refine⟨?_,by show s'.heap.objs.size=n'+0;lia,?_,?_,?_,fun a o e=>rdy.base a o (by rw [hk] at e;exact e),?_,by show s'.toks=tb'+0;lia,by show s'.gens.size=gb'+0;lia,(by intro j x e;cases e),fun j x _ e=>rdy.gens j x e,?_,?_,?_,K.drawn.trans R.drawn,K.os.trans R.os,?_,?_,?_⟩
 ·show(_++_:List Nat).length=_
  rw [List.length_append,hL,length_map];rfl
 ·intro i o e
  show i<st.m0+st.k+N.length+0/\s'.heap.get? (bm (dS st is E' N n' tb' gb').L n' i)=some o
  rcases qq _ _ _ hio i o e with⟨a,_⟩|⟨a,b⟩
  ·rcases pt is E' st.T i o hlen a with⟨a,b⟩|⟨j,a,b⟩
   ·have z:=R.own i o a
    rw [old z.1]
    refine⟨by lia,K.keep _ _ z.2 fun hm=>?_⟩
    rw [eA] at hm
    obtain⟨i',hi',e'⟩:=List.mem_map.mp hm
    exact b (R.inj i' i (hlt i' hi') z.1 e'▸hi')
   ·have hi:=hlt i (mem_of_getElem? a)
    rw [old hi]
    exact⟨by lia,m7 has (eE a) b⟩
  ·have a:st.m0+st.k<=i:=a
   have b:(N.map (·.2))[i-(st.m0+st.k)]? =some o:=b
   rw [getElem?_map] at b
   obtain⟨x,hx,rfl⟩:=Option.map_eq_some_iff.mp b
   have hl:=(List.getElem?_eq_some_iff.mp hx).1
   have q:=new hx
   rw [show st.m0+st.k+(i-(st.m0+st.k))=i by lia] at q
   rw [q]
   exact⟨by lia,hasN.get hx⟩
 ·intro a ha
  show a<n'
  have hsz:=K.size
  have ha:a∈(st.L++(List.range st.k).map (Nat.add st.n ·))++N.map (·.1):=ha
  rcases List.mem_append.mp ha with ha|ha
  ·rcases List.mem_append.mp ha with ha|ha
   ·have:=R.low a ha;rw [R.size] at hsz;lia
   ·obtain⟨j,hj,rfl⟩:=List.mem_map.mp ha
    have:=List.mem_range.mp hj
    show st.n+j<n'
    rw [R.size] at hsz;lia
  ·obtain⟨x,hx,rfl⟩:=List.mem_map.mp ha
   obtain⟨j,hj⟩:=List.mem_iff_getElem?.mp hx
   rw [<-hn];exact Heap.lt_size (hasN.get hj)
 ·intro i j hi hj e
  have e:bm (dS st is E' N n' tb' gb').L n' i=bm (dS st is E' N n' tb' gb').L n' j:=e
  rcases cut hi with h1|⟨j1,x1,rfl,e1⟩
  ·rcases cut hj with h2|⟨j2,x2,rfl,e2⟩
   ·rw [old h1,old h2] at e;exact R.inj i j h1 h2 e
   ·rw [old h1,new e2] at e
    have:=olt h1;have:=nm e2;lia
  ·rcases cut hj with h2|⟨j2,x2,rfl,e2⟩
   ·rw [old h2,new e1] at e
    have:=olt h2;have:=nm e1;lia
   ·rw [new e1,new e2] at e
    have q1:(N.map (·.1))[j1]? =some x1.1:=by rw [getElem?_map,e1];rfl
    have q2:(N.map (·.1))[j2]? =some x1.1:=by rw [getElem?_map,e2,e];rfl
    have hl:=(List.getElem?_eq_some_iff.mp q1).1
    have:=(getElem?_inj hl ndN).mp (q1.trans q2.symm)
    lia
 ·intro i hi
  show V.kt.get (bm (dS st is E' N n' tb' gb').L n' i)=none
  rcases cut hi with h1|⟨j1,x1,rfl,e1⟩
  ·rw [old h1];exact R.off i h1
  ·rw [new e1]
   cases q:V.kt.get x1.1 with
   |none=>rfl
   |some o=>exact absurd (Heap.lt_size (R.kt _ _ q)) (Nat.not_lt.mpr (nm e1))
 ·exact⟨R.mro.1,Nat.le_trans R.mro.2 (by show st.m0<=st.m0+st.k+N.length;lia)⟩
 ·intro i h1 hi
  show h0.objs.size<=bm (dS st is E' N n' tb' gb').L n' i
  rcases cut hi with h2|⟨j1,x1,rfl,e1⟩
  ·rw [old h2];exact R.new i h1 h2
  ·rw [new e1]
   have q1:=nm e1;have q2:=R.h0n;rw [R.size] at q1;lia
 ·intro b o e hb
  have hb:∀i,i<V.mm->bm (dS st is E' N n' tb' gb').L n' i≠b:=hb
  have hmm:∀i,i<V.mm->i<st.m0+st.k:=fun i hi=>by have:=R.mro;lia
  refine K.keep b o (R.keep b o e fun i hi=>?_) fun hmem=>?_
  ·rw [<-old (hmm i hi)];exact hb i hi
  ·rw [eA] at hmem
   obtain⟨i,hi,e'⟩:=List.mem_map.mp hmem
   have e':bm st.L st.n i=b:=e'
   have q:=List.all_eq_true.mp hm i hi
   rw [Bool.or_eq_true] at q
   rcases q with q|q
   ·have q:i<V.mm:=le_of_ble_eq_true q
    exact hb i q ((old (hmm i q)).trans e')
   ·have q1:=R.new i (le_of_ble_eq_true q) (hlt i hi)
    have q2:=Heap.lt_size e
    rw [e'] at q1
    exact absurd q2 (Nat.not_lt.mpr q1)
 ·show h0.objs.size<=n'
  have:=K.size;rw [R.size] at this;have:=R.h0n;lia
 ·intro x hx
  refine⟨(R.fz x hx).1,fun i hi q=>?_⟩
  have hi':i<st.m0+st.k:=by have:=R.mro;lia
  have q:bm (dS st is E' N n' tb' gb').L n' i=x.1:=q
  rw [old hi'] at q
  exact(R.fz x hx).2 i hi q
 ·intro x hx
  rcases hF x hx with h|⟨h1,h2,h3⟩
  ·have z:=R.dz x h
   refine⟨K.keep _ _ z.1 fun hm=>?_,fun i hi q=>?_,z.2.2⟩
   ·rw [eA] at hm
    obtain⟨i,hi,e⟩:=List.mem_map.mp hm
    exact z.2.1 i (hlt i hi) e
   ·have q:bm (dS st is E' N n' tb' gb').L n' i=x.1:=q
    rcases cut hi with h1|⟨j1,x1,e0,e1⟩
    ·rw [old h1] at q;exact z.2.1 i h1 q
    ·rw [e0,new e1] at q
     have a1:=nm e1;have a2:=Heap.lt_size z.1
     rw [q] at a1;exact Nat.not_lt.mpr a1 a2
  ·refine⟨h1,fun i hi q=>?_,Nat.le_trans (by rw [R.size];exact Nat.le_trans R.h0n (le_add_right _ _)) h2⟩
   have q:bm (dS st is E' N n' tb' gb').L n' i=x.1:=q
   rcases cut hi with h4|⟨j1,x1,e0,e1⟩
   ·rw [old h4] at q
    have a1:=olt h4
    rw [q] at a1;exact Nat.not_lt.mpr h2 a1
   ·rw [e0,new e1] at q
    exact h3 (List.mem_map.mpr ⟨x1,mem_of_getElem? e1,q⟩)
end
def fP{X:Type}(w':World)(G:Ctx)(E:ae)(out:X->Result×List Obj×ae)(cond:X->Prop)(p:Pos)(s:Shared):Prop:=
 ∃x s',Runs (jA w') G p ((jA w').den G.code) [] s (.ret (out x).1) s'/\cN w'.params s'/\af E s s'/\kf (E.map (·.1)) (out x).2.1 s'.heap/\cI (out x).2.2 s'.heap/\
  (∀y∈(out x).2.2,s.heap.objs.size<=y.1)/\((out x).2.2.map (·.1)).Nodup/\cond x
def cq{X:Type}(w':World)(G:Ctx)(E:ae)(out:X->Result×List Obj×ae)(cond:X->Prop):Prop:=
 ∀p s,az w'.params E s->fP w' G E out cond p s
def bY{X:Type}(w':World)(G:Ctx)(E:ae)(fz:List dh)(out:X->Result×List Obj×ae)(cond:X->Prop):Prop:=
 ∀p s,az w'.params E s->cH fz E s->fP w' G E out cond p s
abbrev MK(a:St)(b:List Nat)(c d:Nat):=Nat.ble 245 (Nat.add a.n a.k)&&Nat.ble 677 (Nat.add a.tb a.ti)&&nz b&&(b.all fun i=>Nat.blt i c||Nat.ble d i)
noncomputable def pf{X:Type}(E:ae)(is:List Nat)(mm ro:Nat)(out:X->Result×List Obj×ae)(cond:X->Prop)(st:St)(K:Result->St->Prop):Prop:=
 (is.map fun i=>(bm st.L st.n i,st.T.get i))=ax E/\st.gl.all l9=true/\(MK st is mm ro)=true/\
  ∀(x:X) (n' tb' gb':Nat),cond x->(Nat.beq is.length (out x).2.1.length&&je (qP st.T is (out x).2.1) (Nat.add st.m0 st.k) ((out x).2.2.map (·.2)))=true/\K (out x).1 (dS st is (out x).2.1 (out x).2.2 (A n') (TK tb') gb')
noncomputable def km{X:Type}(w':World)(G:Ctx)(E:ae)(is:List Nat)(mm ro:Nat)(out:X->Result×List Obj×ae)(cond:X->Prop):bM:=fun Γ p c st K=>Γ=G/\pf E is mm ro out cond st K
theorem fy{X:Type}{w':World}{E:ae}{is:List Nat}{V:XV}{out:X->Result×List Obj×ae}{cond:X->Prop}{h0 d os Γ p st K s}(hk:V.kt=eG w'.params)(hc:az w'.params E s->cH V.fz E s->fP w' Γ E out cond p s)(H:pf E is V.mm V.ro out cond st K)(R:f6 V h0 d os st s):
  ∃r st' s',Runs (jA w') Γ p ((jA w').den Γ.code) [] s (.ret r) s'/\f6 V h0 d os st' s'/\K r st':=by
 refine gQ fun Q zQ=>?_
 obtain⟨hE,hfin,hb,H⟩:=H
 rw [Bool.and_eq_true,Bool.and_eq_true,Bool.and_eq_true] at hb
 obtain⟨⟨⟨b1,b2⟩,b4⟩,b3⟩:=hb
 have eA:E.map (·.1)=is.map fun i=>bm st.L st.n i:=by
  have:=congrArg (List.map fun x=>x.1) hE
  simp only [map_map,ax] at this
  exact this.symm
 have hlt:∀i∈is,∃x,st.T.get i=some x:=by
  intro i hi
  have:(bm st.L st.n i,st.T.get i)∈ax E:=by rw [<-hE];exact List.mem_map.mpr ⟨i,hi,rfl⟩
  obtain⟨x,_,e⟩:=List.mem_map.mp this
  exact⟨_,(congrArg Prod.snd e).symm⟩
 have pre:az w'.params E s:=by
  refine⟨⟨fun a o e=>R.kt a o (by rw [hk];exact e),fU R hfin,by rw [R.size];exact le_of_ble_eq_true b1,by rw [R.toks];exact le_of_ble_eq_true b2⟩,?_,?_,?_⟩
  ·have z:=gd R is
   rw [hE] at z
   exact ai z
  ·rw [eA]
   refine g7 (hV b4) fun i hi j hj e=>?_
   obtain⟨o,e1⟩:=hlt i hi
   obtain⟨o',e2⟩:=hlt j hj
   exact R.inj i j (R.own i o e1).1 (R.own j o' e2).1 e
  ·intro a ha
   rw [eA] at ha
   obtain⟨i,hi,rfl⟩:=List.mem_map.mp ha
   obtain⟨o,e⟩:=hlt i hi
   rw [<-hk];exact R.off i (R.own i o e).1
 have fzo:cH V.fz E s:=by
  intro x hx
  have z:=R.fz x hx
  refine⟨R.keep x.1 x.2 z.1 z.2,fun hm=>?_⟩
  rw [eA] at hm
  obtain⟨i,hi,e⟩:=List.mem_map.mp hm
  have e:bm st.L st.n i=x.1:=e
  have q:=List.all_eq_true.mp b3 i hi
  rw [Bool.or_eq_true] at q
  rcases q with q|q
  ·exact z.2 i (le_of_ble_eq_true q) e
  ·obtain⟨o,e1⟩:=hlt i hi
   have q1:=R.new i (le_of_ble_eq_true q) (R.own i o e1).1
   have q2:=Heap.lt_size z.1
   rw [e] at q1
   exact absurd q2 (Nat.not_lt.mpr q1)
 obtain⟨x,s',r,rdy,K',has,hasN,newN,ndN,cx⟩:=hc pre fzo
 have e1:=rdy.size
 have e2:=rdy.toks
 obtain⟨c1,H⟩:=H x (s'.heap.objs.size-245) (s'.toks-677) s'.gens.size cx
 refine zQ ?_
 rw [Bool.and_eq_true] at c1
 exact⟨_,_,s',r,oe R hk hE (eq_of_beq_eq_true c1.1) b3 c1.2 rdy K' has hasN newN ndN (show s'.heap.objs.size=(s'.heap.objs.size-245)+245 by lia) (show s'.toks=(s'.toks-677)+677 by lia) rfl (F:=st.fz) (fun x hx=>.inl hx),H⟩
theorem jo{X:Type}{w':World}{G:Ctx}{E:ae}{is:List Nat}{V:XV}{out:X->Result×List Obj×ae}{cond:X->Prop}(hk:V.kt=eG w'.params)(hc:cq w' G E out cond):bX V (model pw w') (km w' G E is V.mm V.ro out cond):=by
 intro h0 d os Γ p c st K s H hΓ R
 obtain⟨rfl,H⟩:=H
 subst hΓ
 exact fy hk (fun h _=>hc p s h) H R
theorem jc{X:Type}{w':World}{G:Ctx}{E:ae}{is:List Nat}{V:XV}{out:X->Result×List Obj×ae}{cond:X->Prop}(hk:V.kt=eG w'.params)(hc:bY w' G E V.fz out cond):bX V (model pw w') (km w' G E is V.mm V.ro out cond):=by
 intro h0 d os Γ p c st K s H hΓ R
 obtain⟨rfl,H⟩:=H
 subst hΓ
 exact fy hk (hc p s) H R
def nb{X:Type}(w':World)(G:Ctx)(E:ae)(out:X->Result×List Obj×ae)(fo:X->ae)(cond:X->Prop)(p:Pos)(s:Shared):Prop:=
 ∃x s',Runs (jA w') G p ((jA w').den G.code) [] s (.ret (out x).1) s'/\cN w'.params s'/\af E s s'/\kf (E.map (·.1)) (out x).2.1 s'.heap/\cI (out x).2.2 s'.heap/\
  (∀y∈(out x).2.2,s.heap.objs.size<=y.1)/\((out x).2.2.map (·.1)).Nodup/\cond x/\∀y∈fo x,s'.heap.get? y.1=some y.2/\s.heap.objs.size<=y.1/\y.1∉(out x).2.2.map (·.1)
def cw{X:Type}(w':World)(G:Ctx)(E:ae)(fz:List dh)(out:X->Result×List Obj×ae)(fo:X->ae)(cond:X->Prop):Prop:=
 ∀p s,az w'.params E s->cH fz E s->nb w' G E out fo cond p s
def eR(l m:List dh):Prop:=∀x∈l,∀y∈m,x.1≠y.1
noncomputable def sY{X:Type}(E:ae)(is:List Nat)(mm ro:Nat)(out:X->Result×List Obj×ae)(fo:X->ae)(cond:X->Prop)(st:St)(K:Result->St->Prop):Prop:=
 (is.map fun i=>(bm st.L st.n i,st.T.get i))=ax E/\st.gl.all l9=true/\(MK st is mm ro)=true/\
  ∀(x:X) (n' tb' gb':Nat),cond x/\eR st.fz (fo x)->(Nat.beq is.length (out x).2.1.length&&je (qP st.T is (out x).2.1) (Nat.add st.m0 st.k) ((out x).2.2.map (·.2)))=true/\K (out x).1 {dS st is (out x).2.1 (out x).2.2 (A n') (TK tb') gb' with fz:=st.fz++fo x}
theorem ly{X:Type}{w':World}{E:ae}{is:List Nat}{V:XV}{out:X->Result×List Obj×ae}{fo:X->ae}{cond:X->Prop}{h0 d os Γ p st K s}(hk:V.kt=eG w'.params)(hc:az w'.params E s->cH (V.fz++st.fz) E s->nb w' Γ E out fo cond p s)(H:sY E is V.mm V.ro out fo cond st K)(R:f6 V h0 d os st s):
  ∃r st' s',Runs (jA w') Γ p ((jA w').den Γ.code) [] s (.ret r) s'/\f6 V h0 d os st' s'/\K r st':=by
 refine gQ fun Q zQ=>?_
 obtain⟨hE,hfin,hb,H⟩:=H
 rw [Bool.and_eq_true,Bool.and_eq_true,Bool.and_eq_true] at hb
 obtain⟨⟨⟨b1,b2⟩,b4⟩,b3⟩:=hb
 have eA:E.map (·.1)=is.map fun i=>bm st.L st.n i:=by
  have:=congrArg (List.map fun x=>x.1) hE
  simp only [map_map,ax] at this
  exact this.symm
 have hlt:∀i∈is,∃x,st.T.get i=some x:=by
  intro i hi
  have:(bm st.L st.n i,st.T.get i)∈ax E:=by rw [<-hE];exact List.mem_map.mpr ⟨i,hi,rfl⟩
  obtain⟨x,_,e⟩:=List.mem_map.mp this
  exact⟨_,(congrArg Prod.snd e).symm⟩
 have pre:az w'.params E s:=by
  refine⟨⟨fun a o e=>R.kt a o (by rw [hk];exact e),fU R hfin,by rw [R.size];exact le_of_ble_eq_true b1,by rw [R.toks];exact le_of_ble_eq_true b2⟩,?_,?_,?_⟩
  ·have z:=gd R is
   rw [hE] at z
   exact ai z
  ·rw [eA]
   refine g7 (hV b4) fun i hi j hj e=>?_
   obtain⟨o,e1⟩:=hlt i hi
   obtain⟨o',e2⟩:=hlt j hj
   exact R.inj i j (R.own i o e1).1 (R.own j o' e2).1 e
  ·intro a ha
   rw [eA] at ha
   obtain⟨i,hi,rfl⟩:=List.mem_map.mp ha
   obtain⟨o,e⟩:=hlt i hi
   rw [<-hk];exact R.off i (R.own i o e).1
 have fzo:cH (V.fz++st.fz) E s:=by
  intro x hx
  rcases List.mem_append.mp hx with hx|hx
  ·have z:=R.fz x hx
   refine⟨R.keep x.1 x.2 z.1 z.2,fun hm=>?_⟩
   rw [eA] at hm
   obtain⟨i,hi,e⟩:=List.mem_map.mp hm
   have e:bm st.L st.n i=x.1:=e
   have q:=List.all_eq_true.mp b3 i hi
   rw [Bool.or_eq_true] at q
   rcases q with q|q
   ·exact z.2 i (le_of_ble_eq_true q) e
   ·obtain⟨o,e1⟩:=hlt i hi
    have q1:=R.new i (le_of_ble_eq_true q) (R.own i o e1).1
    have q2:=Heap.lt_size z.1
    rw [e] at q1
    exact absurd q2 (Nat.not_lt.mpr q1)
  ·have z:=R.dz x hx
   refine⟨z.1,fun hm=>?_⟩
   rw [eA] at hm
   obtain⟨i,hi,e⟩:=List.mem_map.mp hm
   obtain⟨o,e1⟩:=hlt i hi
   exact z.2.1 i (R.own i o e1).1 e
 obtain⟨x,s',r,rdy,K',has,hasN,newN,ndN,cx,hfo⟩:=hc pre fzo
 have e1:=rdy.size
 have e2:=rdy.toks
 obtain⟨c1,H⟩:=H x (s'.heap.objs.size-245) (s'.toks-677) s'.gens.size ⟨cx,fun y hy z hz q=>by
  have a:=Heap.lt_size (R.dz y hy).1
  have b:=(hfo z hz).2.1
  rw [<-q] at b
  exact Nat.not_lt.mpr b a⟩
 refine zQ ?_
 rw [Bool.and_eq_true] at c1
 refine⟨_,_,s',r,oe R hk hE (eq_of_beq_eq_true c1.1) b3 c1.2 rdy K' has hasN newN ndN (show s'.heap.objs.size=(s'.heap.objs.size-245)+245 by lia) (show s'.toks=(s'.toks-677)+677 by lia) rfl (F:=st.fz++fo x) (fun y hy=>?_),H⟩
 rcases List.mem_append.mp hy with hy|hy
 ·exact .inl hy
 ·exact .inr (hfo y hy)
end
theorem af.cast{E E':ae}{s s':Shared}(h:af E s s')(e:E.map (·.1)=E'.map (·.1)):af E' s s':=⟨fun b o q hb=>h.keep b o q (by rw [e];exact hb),h.drawn,h.os,h.size⟩
theorem af.trans{E:ae}{s s' s'':Shared}(h:af E s s')(g:af E s' s''):af E s s'':=
 ⟨fun b o q hb=>g.keep b o (h.keep b o q hb) hb,g.drawn.trans h.drawn,g.os.trans h.os,Nat.le_trans h.size g.size⟩
theorem af.refl{E:ae}{s:Shared}:af E s s:=⟨fun _ _ q _=>q,rfl,rfl,Nat.le_refl _⟩
theorem az.size{P:Params}{E:ae}{s:Shared}(h:az P E s):∃n,s.heap.objs.size=A n:=⟨s.heap.objs.size-245,by have:=h.rdy.size;show _=_+245;lia⟩
theorem az.toks{P:Params}{E:ae}{s:Shared}(h:az P E s):∃n,s.toks=TK n:=⟨s.toks-677,by have:=h.rdy.toks;show _=_+677;lia⟩
def br(M:Model)(Γ:Ctx)(p:Pos)(s:Shared)(s':Shared):Prop:=∃p',∀e s'',Runs M Γ p' (M.den Γ.code) [] s' e s''->Runs M Γ p (M.den Γ.code) [] s e s''
theorem pN{M:Model}{Γ:Ctx}{p s s'}{c:Code}(hc:c=Γ.code)(h:dA M Γ p (M.den Γ.code) [] s (.again c) s'):br M Γ p s s':=by
 obtain⟨_,_,p',f⟩:=h
 subst hc
 exact⟨p',f⟩
theorem gk{c:Nat}{t:Tok}{l}(h:c=49\/c=127):av (.builtin "str.isspace" ⟨[.str ⟨⟨[c]⟩⟩ t],[]⟩) l (.val (.bool false)):=by
 have g:=gives_str_isspace ⟨⟨[c]⟩⟩ t
 refine av.mk PySem.F.entry_str_isspace ?_ trivial
 rcases h with rfl|rfl
 ·rw [show(decide ((⟨⟨[49]⟩⟩:Str).length>0)&&(⟨⟨[49]⟩⟩:Str).cps.all Unicode.isSpace)=false by decide+kernel] at g;exact g
 ·rw [show(decide ((⟨⟨[127]⟩⟩:Str).length>0)&&(⟨⟨[127]⟩⟩:Str).cps.all Unicode.isSpace)=false by decide+kernel] at g;exact g
theorem tP{α:Type}{lines:Array α}{m:Nat}(hm:lines.size=Nat.add m 1):seqIndex? (-1) lines.size=some m:=by
 rw [seqIndex_neg (by lia) (by have:lines.size=m+1:=hm;lia)]
 have:lines.size=m+1:=hm
 congr 1
 lia
theorem xC{α:Type}{lines:Array α}{m:Nat}{v:α}(hm:lines.size=Nat.add m 1)(hl:lines[m]? =some v):(seqIndex? (-1) lines.size).bind (fun j=>lines[j]?)=some v:=by
 rw [tP hm];exact hl
theorem bI{w:World}{c:Code}:(model pw w).den c=aQ c:=by
 show denote table c=aQ c
 exact congrFun sq c
theorem am{w:World}{Γ:Ctx}{p s s'}{c:Code}(hc:c=Γ.code)(h:dA (model pw w) Γ p (aQ Γ.code) [] s (.again c) s'):br (model pw w) Γ p s s':=by
 rw [<-bI (w:=w)] at h
 exact pN hc h
theorem eU{t k:Nat}:677<=Nat.add (TK t) k:=by show 677<=t+677+k;lia
theorem rI{L:List Nat}{n gb:Nat}{hs:List Nat}{A B:Prop}(a:A)(b:B):ad L n gb hs (A/\B):=ag ⟨a,b⟩ hs
theorem rF{L:List Nat}{n gb:Nat}{hs x:List Nat}{t k:Nat}{R:Prop}(r:R):ad L n gb hs (true=true/\x=x/\677<=Nat.add (TK t) k/\R):=ag ⟨rfl,rfl,eU,r⟩ hs
abbrev ZB:=Ev->Nat->Nat->Bool->List wJ->Prop
noncomputable def lE(E:ae):List Nat:=List.map (fun(x:Nat×Obj)=>x.1) E
noncomputable def sl(h:List Nat)(a n:Nat):List Nat:=(h.drop a).take n
noncomputable def gE:List Nat->List Nat
 |[]=>[]
 |x::l=>match Nat.blt x 10000 with
  |true=>x::gE l
  |false=>List.replicate (x/10000) (x % 10000)++gE l
theorem az.nt{P:Params}{E:ae}{s:Shared}(hP:az P E s):∃n tb gb,s.heap.objs.size=A n/\s.toks=TK tb/\s.gens.size=gb:=
 let⟨n,hn⟩:=hP.size
 let⟨tb,ht⟩:=hP.toks
 ⟨n,tb,_,hn,ht,rfl⟩
def Qr{ζ:Type}(f:ae->WW->ζ->List Nat->Prop)(E:WW->ae)(L:WW->List Nat):WW->ζ->Prop:=fun W Z=>f (E W) W Z (L W)
def Sx{ζ:Type}(f:ae->WW->ζ->List Nat->Prop)(E:WW->ae)(L:WW->List Nat):WW->ζ->Prop:=fun W Z=>f (E W) W Z (L W)
noncomputable def Rz{ζ:Type}(f:ae->WW->ζ->List Nat->Prop)(E:WW->ae)(L:WW->List Nat):World->Bool->ζ->Prop×Prop:=fun w b Z=>(f (E ⟨w,true,b⟩) ⟨w,true,b⟩ Z (L ⟨w,true,b⟩),f (E ⟨w,false,b⟩) ⟨w,false,b⟩ Z (L ⟨w,false,b⟩))
noncomputable def RL{ζ:Type}(f:ae->WW->ζ->List Nat->Prop)(E:WW->ae)(L:WW->List Nat):World->Bool->ζ->Prop×Prop:=fun w b Z=>(f (E ⟨w,true,b⟩) ⟨w,true,b⟩ Z (L ⟨w,true,b⟩),f (E ⟨w,false,b⟩) ⟨w,false,b⟩ Z (L ⟨w,false,b⟩))
noncomputable def SY{ζ:Type}(f:ae->WW->ζ->List Nat->Prop)(E:WW->ae)(L:WW->List Nat):World->ζ->(Prop×Prop)×Prop×Prop:=fun w Z=>((f (E ⟨w,true,true⟩) ⟨w,true,true⟩ Z (L ⟨w,true,true⟩),f (E ⟨w,true,false⟩) ⟨w,true,false⟩ Z (L ⟨w,true,false⟩)),f (E ⟨w,false,true⟩) ⟨w,false,true⟩ Z (L ⟨w,false,true⟩),f (E ⟨w,false,false⟩) ⟨w,false,false⟩ Z (L ⟨w,false,false⟩))
noncomputable def Qp{ζ:Type}(f:ae->WW->ζ->List Nat->Prop)(E:WW->ae)(L:WW->List Nat):World->ζ->(Prop×Prop)×Prop×Prop:=fun w Z=>((f (E ⟨w,true,true⟩) ⟨w,true,true⟩ Z (L ⟨w,true,true⟩),f (E ⟨w,true,false⟩) ⟨w,true,false⟩ Z (L ⟨w,true,false⟩)),f (E ⟨w,false,true⟩) ⟨w,false,true⟩ Z (L ⟨w,false,true⟩),f (E ⟨w,false,false⟩) ⟨w,false,false⟩ Z (L ⟨w,false,false⟩))
def GL{ζ:Type}(f g:ae->WW->ζ->List Nat->Prop)(E:WW->ae)(L:WW->List Nat):Prop:=∀W Z,f (E W) W Z (L W)=g (E W) W Z (L W)
theorem oW{ζ:Type}{E:WW->ae}{f g:ae->WW->ζ->List Nat->Prop}{L:WW->List Nat}(h:Qr f E L=Sx g E L):GL f g E L:=by
 intro W Z;exact congrFun (congrFun h W) Z
theorem iY{ζ:Type}{E:WW->ae}{f g:ae->WW->ζ->List Nat->Prop}{L:WW->List Nat}(h:Rz f E L=RL g E L):GL f g E L:=by
 intro W Z;obtain⟨w,b1,b2⟩:=W
 have z:=congrFun (congrFun (congrFun h w) b2) Z
 cases b1
 ·exact congrArg Prod.snd z
 ·exact congrArg Prod.fst z
theorem pD{ζ:Type}{E:WW->ae}{f g:ae->WW->ζ->List Nat->Prop}{L:WW->List Nat}(h:SY f E L=Qp g E L):GL f g E L:=by
 intro W Z;obtain⟨w,b1,b2⟩:=W
 have z:=congrFun (congrFun h w) Z
 cases b1<;>cases b2
 ·exact congrArg (·.2.2) z
 ·exact congrArg (·.2.1) z
 ·exact congrArg (·.1.2) z
 ·exact congrArg (·.1.1) z
theorem nx{E EL:WW->ae}(hE:E=EL){W:WW}{s:Shared}(hP:az (pW W) (E W) s):az (pW W) (EL W) s:=hE▸hP
theorem iW{P:Bool->Prop}(b:Bool)(h1:P true)(h0:P false):P b:=by cases b<;>assumption
theorem RV{α:Type}{P:α->Prop}{a b:α}(h:a=b)(k:P b):P a:=h▸k
theorem D8{α β:Type}{P:α->β->Prop}{a b:α}{c d:β}(h:a=b/\c=d)(k:P b d):P a c:=h.1▸h.2▸k
theorem oa{α β γ:Type}{P:α->β->γ->Prop}{a b:α}{c d:β}{e f:γ}(h:a=b/\c=d/\e=f)(k:P b d f):P a c e:=h.1▸h.2.1▸h.2.2▸k
abbrev Yt a:=model pw (Vw a)
theorem bT{W:WW}{al rw sm ob}{E EL:WW->ae}{Γ:Ctx}{p:Pos}{t:Sem Fin}{N:Nat}{is:List Nat}{s:Shared}(hE:E=EL)(hP:az (pW W) (E W) s){n tb gb:Nat}
  (hn:s.heap.objs.size=n) (ht:s.toks=tb) (hg:s.gens.size=gb) (f g:ae->WW->ZB->List Nat->Prop) (L:WW->List Nat) {Q:Prop}
  (hq:GL f g EL L) (hf:f (E W) W=fun Z hs=>cm (ei (Vw W) (EL W).length al rw sm ob) N Γ p t [] hs (qU (E W) n tb gb) (kZ is Z))
  (ha:eD (Yt W) al) (hs:fF (ei (Vw W) (EL W).length al rw sm ob) (Yt W) sm) (his:is.take (EL W).length=List.range (EL W).length)
  (HR:∀hs,g (E W) W (fun ev _ tk fin l=>fin=true/\(l.map (·.1)).take (EL W).length=(EL W).map (·.1)/\677<=tk/\∀s',dA (Yt W) Γ p t [] s ev s'->s'.toks=tk->f9 l s'.heap->cN (pW W) s'->af (E W) s s'->Q) hs):Q:=by
 subst hE
 obtain⟨_,s',_,r,z,h3,h4,h5⟩:=dw (Z:=fun ev _ tk l=>(l.map (·.1)).take (E W).length=(E W).map (·.1)/\677<=tk/\∀s',dA (Yt W) Γ p t [] s ev s'->s'.toks=tk->f9 l s'.heap->cN (pW W) s'->af (E W) s s'->Q) ha hs hP hn ht hg his (fun _ _ _ _ h=>⟨h.1,h.2.1⟩) (Eq.mpr ((congrFun (congrFun hf _) _).symm.trans (hq W _)) (HR _))
 exact z.2.2 s' r rfl h3 h4 h5
theorem Fe{W:WW}{al rw sm ob}{fz:List dh}{E EL:WW->ae}{Γ:Ctx}{p:Pos}{t:Sem Fin}{N:Nat}{is:List Nat}{s:Shared}(hE:E=EL)(hP:az (pW W) (E W) s){n tb gb:Nat}
  (hn:s.heap.objs.size=n) (ht:s.toks=tb) (hg:s.gens.size=gb) (f g:ae->WW->ZB->List Nat->Prop) (L:WW->List Nat) {Q:Prop}
  (hq:GL f g EL L) (hf:f (E W) W=fun Z hs=>cm (fg (Vw W) (EL W).length al rw sm ob fz) N Γ p t [] hs (qU (E W) n tb gb) (kZ is Z))
  (ha:eD (Yt W) al) (hs:fF (fg (Vw W) (EL W).length al rw sm ob fz) (Yt W) sm) (his:is.take (EL W).length=List.range (EL W).length) (hfz:cH fz (E W) s)
  (HR:∀hs,g (E W) W (fun ev _ tk fin l=>fin=true/\(l.map (·.1)).take (EL W).length=(EL W).map (·.1)/\677<=tk/\∀s',dA (Yt W) Γ p t [] s ev s'->s'.toks=tk->f9 l s'.heap->cN (pW W) s'->af (E W) s s'->Q) hs):Q:=by
 subst hE
 obtain⟨_,s',_,r,z,h3,h4,h5⟩:=sU (Z:=fun ev _ tk l=>(l.map (·.1)).take (E W).length=(E W).map (·.1)/\677<=tk/\∀s',dA (Yt W) Γ p t [] s ev s'->s'.toks=tk->f9 l s'.heap->cN (pW W) s'->af (E W) s s'->Q) ha hs hP hn ht hg his (fun _ _ _ _ h=>⟨h.1,h.2.1⟩) hfz (Eq.mpr ((congrFun (congrFun hf _) _).symm.trans (hq W _)) (HR _))
 exact z.2.2 s' r rfl h3 h4 h5
theorem H6{W:WW}{al rw sm ob}{fz:List dh}{E EL:WW->ae}{Γ:Ctx}{p:Pos}{t:Sem Fin}{N:Nat}{is:List Nat}{s:Shared}(hE:E=EL)(hP:az (pW W) (E W) s){n tb gb:Nat}
  (hn:s.heap.objs.size=n) (ht:s.toks=tb) (hg:s.gens.size=gb) (f g:ae->WW->(Ev->Nat->Nat->Bool->List wJ->List dh->Prop)->List Nat->Prop) (L:WW->List Nat) {Q:Prop}
  (hq:GL f g EL L) (hf:f (E W) W=fun Z hs=>cm (fg (Vw W) (EL W).length al rw sm ob fz) N Γ p t [] hs (qU (E W) n tb gb) (sI is Z))
  (ha:eD (Yt W) al) (hs:fF (fg (Vw W) (EL W).length al rw sm ob fz) (Yt W) sm) (his:is.take (EL W).length=List.range (EL W).length) (hfz:cH fz (E W) s)
  (HR:∀hs,g (E W) W (fun ev _ tk fin l f=>fin=true/\(l.map (·.1)).take (EL W).length=(EL W).map (·.1)/\677<=tk/\∀s',dA (Yt W) Γ p t [] s ev s'->s'.toks=tk->f9 l s'.heap->cN (pW W) s'->af (E W) s s'->(∀x∈f,s'.heap.get? x.1=some x.2/\x.1∉l.map (·.1)/\s.heap.objs.size<=x.1)->Q) hs):Q:=by
 subst hE
 obtain⟨_,s',_,_,r,z,h3,h4,h5,h6⟩:=zG (Z:=fun ev _ tk l f=>(l.map (·.1)).take (E W).length=(E W).map (·.1)/\677<=tk/\∀s',dA (Yt W) Γ p t [] s ev s'->s'.toks=tk->f9 l s'.heap->cN (pW W) s'->af (E W) s s'->(∀x∈f,s'.heap.get? x.1=some x.2/\x.1∉l.map (·.1)/\s.heap.objs.size<=x.1)->Q) ha hs hP hn ht hg his (fun _ _ _ _ _ h=>⟨h.1,h.2.1⟩) hfz (Eq.mpr ((congrFun (congrFun hf _) _).symm.trans (hq W _)) (HR _))
 exact z.2.2 s' r rfl h3 h4 h5 h6
abbrev Y2 a b:=Nat.add (A a) b
abbrev Y8 a b:=Nat.add (TK a) b
abbrev Yc:=Rf (true:Bool)
noncomputable abbrev Yh a:=Int.ofNat a
abbrev tJ a:=(.ref (A a):Value)
abbrev Yo a:=Rf (.builtin "list_iterator.__next__" ⟨[(tJ a)],[]⟩:Code)
abbrev B6:=(Rf (some (NameKind.globalImplicit):Option NameKind))/\(Rf (some (NameKind.free):Option NameKind))
noncomputable abbrev PU a b c:=([.int b 0,.int c 0,.ref a]:List Value)
abbrev G2 a b c:=(Rf (.builtin "list.__iadd__" ⟨[(.ref (Y2 a b)),(.ref (Y2 a c))],[]⟩:Code))/\((Rf (.type ("generator"):Value))/\(Rf (false:Bool)))
abbrev cO a b c d:=qU a (A b) (TK c) d
abbrev mx:=f7 [] (.val (.bool false))
noncomputable abbrev wu:=Made.val (Value.bool false)
abbrev dY a b:=(.ref (Y2 a b):Value)
noncomputable abbrev bK a b:=Nat.add a b
abbrev PB a b c d e:=(gE [10,10,4000,10,10,4,4,4,6,0,0,0,6,0,0,0,6,6,0,5,9,0,0,0,9,0,0,0,9,40000,9,8,4,0,0,0,60011,0,11,9,0,0,0,9,0,0,0,9,0,0,0,9,8,11,11,9,0,9,9,9,4,6,0,0,0,6,0,0,0,6,40000,6,5,0,0,0,13,13,0,13,6,0,0,0,6,0,0,0,6,6,0,5,9,0,0,0,9,0,0,0,9,40000,9,8,0,0,0,60014,0,14,9,0,0,0,9,0,0,0,9,0,0,0,9,8,14,14,9,0,9,9,9,4,6,0,0,0,6,0,0,0,6,40000,6,5,0,0,0,16,16,0,16,6,0,0,0,6,0,0,0,6,6,0,5,9,0,0,0,9,0,0,0,9,40000,9,8,0,0,0,17,17,0,4001,17,9,0,0,0,9,0,0,0,9,40000,9,8,0,0,0,18,18,0,4002,50000,18,0,0,30019,0,9,9,0,120019,0,0,9,0,20,20,9,50000,17,0,0,30021,0,9,9,0,120021,0,0,9,0,22,22,9,0,9,9,0,0,40009,30016,15,23,15,15,4003,0,0,16,6,0,0,0,6,0,0,0,6,6,0,5,9,60000,24,24,0,0,0,24,9,0,0,0,9,0,0,0,9,0,25,0,0,a,0,0,b,b,24,9,60000,9,0,9,0,0,0,9,9,0,8,c,d,e,500,0,500,40025])
abbrev Ls a:=(Rf (.builtin "tuple.__ne__" ⟨[(dY a 4),(dY a 12)],[]⟩:Code))/\((Rf (.type ("tuple"):Value))/\(Rf (.type ("tuple"):Value)))
abbrev zx a b c:=(.str (Str.mk ⟨[a]⟩) (Y8 b c):Value)
abbrev LM a b c d:=(Rf (.builtin "list.__setitem__" ⟨[(Yp a),(dY b c),(dY b d)],[]⟩:Code))/\(Rf (false:Bool))
abbrev pQ:=WW->ae
noncomputable abbrev yY(a:Array Value)(b:Nat):=a[(Yh b).toNat]?
abbrev Mi(a b:Nat)(c:Array Value)(d e:Nat)(f:Tok):=(Yo a)/\((Rf (A b:Addr))/\(((yY c d):i8)=(some (.str (Str.mk ⟨[e]⟩) f))))
noncomputable abbrev jH a:=PU a 67 19
noncomputable abbrev jC a:=PU a 70 32
noncomputable abbrev pk a b:=(.str ⟨⟨[a]⟩⟩ b:Value)
noncomputable abbrev jw(a:WW)(b c:Nat):=cond a.b2 b c
noncomputable abbrev KO:=[0,1,2,3,4,5,6,7,8,9]
abbrev Mn a b c:=av (.builtin "str.isspace" ⟨[(zx a b c)],[]⟩) [] wu/\Yc
section
variable(W:WW)(p0 p1:Pos)(vA:FA)(aS aF aD aR aL aC aM aI:Nat)(u1 u2 u3 u4 u5 u6 u7 u8 u9 u10 u11 u12 u13 q1 q2:Tok)(r1 r2:Addr)(sg:Array Value)(ep1 ep2 ep3 k c:Nat)(vOld:Value)(lines:Array Value)(tc:Tok)(s:Shared)(hsg:sg[(Yh k).toNat]? =some (pk c tc))(hc:c=49\/c=127)(hsz:lines.size<=1000)
include W p0 p1 vA aS aF aD aR aL aC aM aI u1 u2 u3 u4 u5 u6 u7 u8 u9 u10 u11 u12 u13 q1 q2 r1 r2 sg ep1 ep2 ep3 k c vOld lines tc s hsg hc hsz
theorem ox(hP:az (pW W) (bH (pW W) aS aF aD aR aL aC aM aI u1 u2 u4 u5 u6 u7 u8 u9 u10 u11 u12 u13 q1 [] [] sg ep1 [] 2 (ab lines ep2) q2 ep3 (Yh k)) s):
  ∃s' r1x r2x u3x ep2x q2x ep3x tn,br (Yt W) ⟨en (pW W) (A aF) (A aI),none,none,eY (pW W) (A aF) p1 vA,none⟩ p0 s s'/\az (pW W) (bH (pW W) aS aF aD aR aL aC aM aI u1 u2 u4 u5 u6 u7 u8 u9 u10 u11 u12 u13 q1 (jH r1x) (jC r2x) sg ep1 [aa (pW W) dJ u3x (pk c tc)] 3 (ab (lines.push (pk c tn)) ep2x) q2x ep3x (Int.ofNat k+1)) s'/\af (bH (pW W) aS aF aD aR aL aC aM aI u1 u2 u4 u5 u6 u7 u8 u9 u10 u11 u12 u13 q1 [] [] sg ep1 [] 2 (ab lines ep2) q2 ep3 (Yh k)) s s':=by
 obtain⟨n,tb,gb,hn,ht,hg⟩:=hP.nt
 have hE:= @rfl pQ fun W=>bH (pW W) aS aF aD aR aL aC aM aI u1 u2 u4 u5 u6 u7 u8 u9 u10 u11 u12 u13 q1 [] [] sg ep1 [] 2 (ab lines ep2) q2 ep3 (Yh k)
 refine bT hE hP hn ht hg (fun eX W Z hX=>cm (ei (Vw W) 10 [(bG 9 2 (pk c tc)),ec,ec,(fY 14 22),(ee 58 57),mx,(ee 71 70),(At (Vw W) [6] (.update (A aL) none (Obj.mapSeq (·.push (zx c tb 85))) fun _=>ret .none)),(iO 8 82 81)] [] [] []) 1994 (⟨en (pW W) (A aF) (A aI),none,none,eY (pW W) (A aF) p1 vA,none⟩) (p0) (aQ (en (pW W) (A aF) (A aI))) [] hX (cO eX n tb gb) (kZ KO Z)) (fun eX W Z hX=>ad (lE eX) (A n) gb (sl hX 0 2) ((Mi aI aS sg k c tc)/\ad (lE eX) (A n) gb (sl hX 3 203) (B6/\ad (lE eX) (A n) gb (sl hX 207 22) (B6/\ad (lE eX) (A n) gb (sl hX 230 84) ((Ls n)/\ad (lE eX) (A n) gb (sl hX 315 (jw W 372 380)) ((G2 n 48 47)/\ad (lE eX) (A n) gb (sl hX (jw W 688 696) (jw W 83 87)) ((Mn c tb 76)/\ad (lE eX) (A n) gb (sl hX (jw W 773 785) 67) ((G2 n 61 60)/\ad (lE eX) (A n) gb (sl hX (jw W 841 853) (jw W 84 88)) ((ml (Vw W) (.builtin "list.append" ⟨[(Yp aL),(zx c tb 85)],[]⟩) [((A aL),(some ⟨(.type ("list")),none,(.seq (lines) ep2),⟨[]⟩⟩))] (.update (A aL) none (Obj.mapSeq (·.push (zx c tb 85))) fun _=>ret .none)/\Yc)/\ad (lE eX) (A n) gb (sl hX (jw W 926 942) 51) ((LM aM n 72 71)/\ad (lE eX) (A n) gb (sl hX (jw W 978 994) 29) (Z (.again (en (pW W) (A aF) (A aI))) (Y2 n 73) (Y8 tb 93) true (ax (bH (pW W) aS aF aD aR aL aC aM aI u1 u2 u4 u5 u6 u7 u8 u9 u10 u11 u12 u13 q1 [.int 67 0,.int 19 0,.ref (Y2 n 17)] [.int 70 0,.int 32 0,.ref (Y2 n 45)] sg ep1 [aa (pW W) dJ (TK tb) (pk c tc)] 3 (Obj.mapSeq (·.push (.str ⟨⟨[c]⟩⟩ (Y8 tb 85))) (ab lines ep2)) (Y8 tb 90) (bK ep3 4) (Int.ofNat k+1)))))))))))))) (fun W=>((PB 40001 29 40030 31 30030)++(cond W.b2 (gE [9,30025,40012,50032,12,60032,12,60032,12,32,32,34,40029,0,0,29,0,0,29,500,40031,30030,500,0,500,40025,9,25,25,36,500,38,16,6,0,0,0,6,0,0,0,6,6,0,5,9,0,0,0,9,0,0,0,9,40000,9,8,0,0,0,39,39,0,39,9,60000,9,0,9,0,0,0,9,9,0,8,39,9,0,0,0,9,0,0,0,9,60000,40,40,0,0,0,40,9,0,0,0,9,0,0,0,9,0,41,0,0,1,0,0,42,42,40,9,60000,9,0,9,0,0,0,9,9,0,8,40043,44,30043,501,0,501,40041,9,30041,40012,50045,12,60045,12,60045,12,45,45,47,40042,0,0,42,0,0,42,501,40044,30043,501,0,501,40041,9,41,41,49,501,51,0,0,39,9,60000,52,52,0,0,52,9,0,0,0,9,0,0,0,9,0,53,0,0,40002,0,0,57,57,50058,4004,60058,60059,30058,502,0,502,40053,9,30053,40012,50060,12,60060,12,60060,12,60,60,62,40057,0,57,57,63,63,502,30059,30058,502,0,502,40053,9,53,53,65,502,67,59,3001,4005,16,6,0,0,0,6,0,0,0,6,6,0,5,40007,0,0,16,6,0,0,0,6,0,0,0,6,6,0,5,9,60000,68,68,0,0,68,9,0,0,0,9,0,0,0,9,0,69,0,0,2,0,0,70,70,50071,4006,60071,60072,30071,503,0,503]) (gE [40025,9,30025,40012,50032,12,60032,12,60032,12,32,32,34,40029,0,0,29,0,0,29,500,40031,30030,500,0,500,40025,9,25,25,36,500,38,16,6,0,0,0,6,0,0,0,6,6,0,5,9,0,0,0,9,0,0,0,9,40000,9,8,0,0,0,39,39,0,39,9,60000,9,0,9,0,0,0,9,9,0,8,39,9,0,0,0,9,0,0,0,9,60000,40,40,0,0,0,40,9,0,0,0,9,0,0,0,9,0,41,0,0,1,0,0,42,42,40,9,60000,9,0,9,0,0,0,9,9,0,8,40043,44,30043,501,0,501,80041,9,30041,40012,50045,12,60045,12,60045,12,45,45,47,40042,0,0,42,0,0,42,501,40044,30043,501,0,501,40041,9,41,41,49,501,51,0,0,39,9,60000,52,52,0,0,52,9,0,0,0,9,0,0,0,9,0,53,0,0,40002,0,0,57,57,50058,4004,60058,60059,30058,502,0,502,80053,9,30053,40012,50060,12,60060,12,60060,12,60,60,62,40057,0,57,57,63,63,502,30059,30058,502,0,502,40053,9,53,53,65,502,67,59,3001,4005,16,6,0,0,0,6,0,0,0,6,6,0,5,40007,0,0,16,6,0,0,0,6,0,0,0,6,6,0,5,9,60000,68,68,0,0,68,9,0,0,0,9,0,0,0,9,0,69,0,0,2,0,0,70,70,50071,4006,60071,60072,30071,503,0,503,40069]))++(gE [40069,9,30069,40012,50073,12,60073,12,60073,12,73,73,75,40070,0,70,70,76,76,503,30072,30071,503,0,503,40069,9,69,69,78,503,80,72,7,4007,7,16,6,0,0,0,6,0,0,0,6,6,0,5,9,0,0,0,9,0,0,0,9,40000,9,8,40000,40081,0,50081,9,0,9,0,0,0,9,0,4008,50083,82,82,40009,81,9,0,0,0,9,0,9,0,9,0,0,0,9,0,8,8,8,3000]))) (pD (by kernel_rfl)) rfl ⟨fun _=>bi,fun _=>cG,fun _=>cG,fun _=>ez,fun _=>c7,fun _=>au,fun _=>c7,fun _=>nu,fun _=>fH,trivial⟩ trivial rfl fun hX=>?_
 iterate 9 refine rI (by first|exact⟨rfl,rfl⟩|exact⟨rfl,rfl,rfl⟩|exact⟨rfl,rfl,hsg⟩|exact⟨gk hc,rfl⟩|exact⟨fq hsz,rfl⟩) ?_
 exact rF fun s' r _ h3 h4 h5=>⟨s',_,_,_,_,_,_,_,am rfl r,⟨h4,ai h3,hP.nd,hP.lo⟩,h5⟩
abbrev PE(a:WW):=(PB 1 26 40027 28 30027)++(cond a.b2 (gE [9,30025,40012,50029,12,60029,12,60029,12,29,29,31,40026,0,0,26,0,0,26,500,40028,30027,500,0,500,40025,9,25,25,33,500,35,16,6,0,0,0,6,0,0,0,6,6,0,5,9,0,0,0,9,0,0,0,9,40000,9,8,0,0,0,36,36,0,36,9,60000,9,0,9,0,0,0,9,9,0,8,36,9,0,0,0,9,0,0,0,9,60000,37,37,0,0,0,37,9,0,0,0,9,0,0,0,9,0,38,0,0,1,0,0,39,39,37,9,60000,9,0,9,0,0,0,9,9,0,8,40040,41,30040,501,0,501,40038,9,30038,40012,50042,12,60042,12,60042,12,42,42,44,40039,0,0,39,0,0,39,501,40041,30040,501,0,501,40038,9,38,38,46,501,48,0,0,36,9,60000,49,49,0,0,49,9,0,0,0,9,0,0,0,9,0,50,0,0,2,0,0,51,51,50052,4004,60052,60053,30052,502,0,502,40050,9,30050,40012,50054,12,60054,12,60054,12,54,54,56,40051,0,51,51,57,57,502,30053,30052,502,0,502,40050,9,50,50,59,502,61,53,3001,4005,16,6,0,0,0,6,0,0,0,6,6,0,5,40007,0,0,16,6,0,0,0,6,0,0,0,6,6,0,5,9,60000,62,62,0,0,62,9,0,0,0,9,0,0,0,9,0,63,0,0,2,0,0,64,64,50065,4006,60065,60066,30065,503,0,503]) (gE [40025,9,30025,40012,50029,12,60029,12,60029,12,29,29,31,40026,0,0,26,0,0,26,500,40028,30027,500,0,500,40025,9,25,25,33,500,35,16,6,0,0,0,6,0,0,0,6,6,0,5,9,0,0,0,9,0,0,0,9,40000,9,8,0,0,0,36,36,0,36,9,60000,9,0,9,0,0,0,9,9,0,8,36,9,0,0,0,9,0,0,0,9,60000,37,37,0,0,0,37,9,0,0,0,9,0,0,0,9,0,38,0,0,1,0,0,39,39,37,9,60000,9,0,9,0,0,0,9,9,0,8,40040,41,30040,501,0,501,80038,9,30038,40012,50042,12,60042,12,60042,12,42,42,44,40039,0,0,39,0,0,39,501,40041,30040,501,0,501,40038,9,38,38,46,501,48,0,0,36,9,60000,49,49,0,0,49,9,0,0,0,9,0,0,0,9,0,50,0,0,2,0,0,51,51,50052,4004,60052,60053,30052,502,0,502,80050,9,30050,40012,50054,12,60054,12,60054,12,54,54,56,40051,0,51,51,57,57,502,30053,30052,502,0,502,40050,9,50,50,59,502,61,53,3001,4005,16,6,0,0,0,6,0,0,0,6,6,0,5,40007,0,0,16,6,0,0,0,6,0,0,0,6,6,0,5,9,60000,62,62,0,0,62,9,0,0,0,9,0,0,0,9,0,63,0,0,2,0,0,64,64,50065,4006,60065,60066,30065,503,0,503,40063]))++(gE [40063,9,30063,40012,50067,12,60067,12,60067,12,67,67,69,40064,0,64,64,70,70,503,30066,30065,503,0,503,40063,9,63,63,72,503,74,66,7,4007,7,16,6,0,0,0,6,0,0,0,6,6,0,5,9,0,0,0,9,0,0,0,9,40000,9,8,40000,40075,0,50075,9,0,9,0,0,0,9,0,4008,50077,76,76,40009,75,9,0,0,0,9,0,9,0,9,0,0,0,9,0,8,8,8,3000])
theorem nL(hP:az (pW W) (bH (pW W) aS aF aD aR aL aC aM aI u1 u2 u4 u5 u6 u7 u8 u9 u10 u11 u12 u13 q1 (jH r1) (jC r2) sg ep1 [] 2 (ab lines ep2) q2 ep3 (Yh k)) s):
  ∃s' r1x r2x u3x ep2x q2x ep3x tn,br (Yt W) ⟨en (pW W) (A aF) (A aI),none,none,eY (pW W) (A aF) p1 vA,none⟩ p0 s s'/\az (pW W) (bH (pW W) aS aF aD aR aL aC aM aI u1 u2 u4 u5 u6 u7 u8 u9 u10 u11 u12 u13 q1 (jH r1x) (jC r2x) sg ep1 [aa (pW W) dJ u3x (pk c tc)] 3 (ab (lines.push (pk c tn)) ep2x) q2x ep3x (Int.ofNat k+1)) s'/\af (bH (pW W) aS aF aD aR aL aC aM aI u1 u2 u4 u5 u6 u7 u8 u9 u10 u11 u12 u13 q1 (jH r1) (jC r2) sg ep1 [] 2 (ab lines ep2) q2 ep3 (Yh k)) s s':=by
 obtain⟨n,tb,gb,hn,ht,hg⟩:=hP.nt
 have hE:= @rfl pQ fun W=>bH (pW W) aS aF aD aR aL aC aM aI u1 u2 u4 u5 u6 u7 u8 u9 u10 u11 u12 u13 q1 (jH r1) (jC r2) sg ep1 [] 2 (ab lines ep2) q2 ep3 (Yh k)
 refine bT hE hP hn ht hg (fun eX W Z hX=>cm (ei (Vw W) 10 [(bG 9 2 (pk c tc)),ec,ec,(fY 14 22),(ee 52 51),mx,(ee 65 64),(At (Vw W) [6] (.update (A aL) none (Obj.mapSeq (·.push (zx c tb 75))) fun _=>ret .none)),(iO 8 76 75)] [] [] []) 1972 (⟨en (pW W) (A aF) (A aI),none,none,eY (pW W) (A aF) p1 vA,none⟩) (p0) (aQ (en (pW W) (A aF) (A aI))) [] hX (cO eX n tb gb) (kZ KO Z)) (fun eX W Z hX=>ad (lE eX) (A n) gb (sl hX 0 2) ((Mi aI aS sg k c tc)/\ad (lE eX) (A n) gb (sl hX 3 203) (B6/\ad (lE eX) (A n) gb (sl hX 207 22) (B6/\ad (lE eX) (A n) gb (sl hX 230 84) ((Ls n)/\ad (lE eX) (A n) gb (sl hX 315 (jw W 366 374)) ((G2 n 42 41)/\ad (lE eX) (A n) gb (sl hX (jw W 682 690) (jw W 83 87)) ((Mn c tb 66)/\ad (lE eX) (A n) gb (sl hX (jw W 767 779) 67) ((G2 n 55 54)/\ad (lE eX) (A n) gb (sl hX (jw W 835 847) (jw W 84 88)) ((ml (Vw W) (.builtin "list.append" ⟨[(Yp aL),(zx c tb 75)],[]⟩) [((A aL),(some ⟨(.type ("list")),none,(.seq (lines) ep2),⟨[]⟩⟩))] (.update (A aL) none (Obj.mapSeq (·.push (zx c tb 75))) fun _=>ret .none)/\Yc)/\ad (lE eX) (A n) gb (sl hX (jw W 920 936) 51) ((LM aM n 66 65)/\ad (lE eX) (A n) gb (sl hX (jw W 972 988) 29) (Z (.again (en (pW W) (A aF) (A aI))) (Y2 n 67) (Y8 tb 83) true (ax (bH (pW W) aS aF aD aR aL aC aM aI u1 u2 u4 u5 u6 u7 u8 u9 u10 u11 u12 u13 q1 (jH r1) (jC r2) sg ep1 [aa (pW W) dJ (TK tb) (pk c tc)] 3 (Obj.mapSeq (·.push (.str ⟨⟨[c]⟩⟩ (Y8 tb 75))) (ab lines ep2)) (Y8 tb 80) (bK ep3 4) (Int.ofNat k+1)))))))))))))) (fun W=>(PE W)) (pD (by kernel_rfl)) rfl ⟨fun _=>bi,fun _=>cG,fun _=>cG,fun _=>ez,fun _=>c7,fun _=>au,fun _=>c7,fun _=>nu,fun _=>fH,trivial⟩ trivial rfl fun hX=>?_
 iterate 9 refine rI (by first|exact⟨rfl,rfl⟩|exact⟨rfl,rfl,rfl⟩|exact⟨rfl,rfl,hsg⟩|exact⟨gk hc,rfl⟩|exact⟨fq hsz,rfl⟩) ?_
 exact rF fun s' r _ h3 h4 h5=>⟨s',_,_,_,_,_,_,_,am rfl r,⟨h4,ai h3,hP.nd,hP.lo⟩,h5⟩
theorem sa(hP:az (pW W) (bH (pW W) aS aF aD aR aL aC aM aI u1 u2 u4 u5 u6 u7 u8 u9 u10 u11 u12 u13 q1 (jH r1) (jC r2) sg ep1 [aa (pW W) dJ u3 vOld] 3 (ab lines ep2) q2 ep3 (Yh k)) s){Q:Prop}(kQ:∀s' r1x r2x u3x ep2x q2x ep3x tn,br (Yt W) ⟨en (pW W) (A aF) (A aI),none,none,eY (pW W) (A aF) p1 vA,none⟩ p0 s s'->az (pW W) (bH (pW W) aS aF aD aR aL aC aM aI u1 u2 u4 u5 u6 u7 u8 u9 u10 u11 u12 u13 q1 (jH r1x) (jC r2x) sg ep1 [aa (pW W) dJ u3x (pk c tc)] 3 (ab (lines.push (pk c tn)) ep2x) q2x ep3x (Int.ofNat k+1)) s'->af (bH (pW W) aS aF aD aR aL aC aM aI u1 u2 u4 u5 u6 u7 u8 u9 u10 u11 u12 u13 q1 (jH r1) (jC r2) sg ep1 [aa (pW W) dJ u3 vOld] 3 (ab lines ep2) q2 ep3 (Yh k)) s s'->Q):Q:=by
 obtain⟨n,tb,gb,hn,ht,hg⟩:=hP.nt
 have hE:= @rfl pQ fun W=>bH (pW W) aS aF aD aR aL aC aM aI u1 u2 u4 u5 u6 u7 u8 u9 u10 u11 u12 u13 q1 (jH r1) (jC r2) sg ep1 [aa (pW W) dJ u3 vOld] 3 (ab lines ep2) q2 ep3 (Yh k)
 refine bT hE hP hn ht hg (fun eX W Z hX=>cm (ei (Vw W) 10 [(bG 9 2 (pk c tc)),ec,ec,(fY 14 22),(ee 52 51),mx,(ee 65 64),(At (Vw W) [6] (.update (A aL) none (Obj.mapSeq (·.push (zx c tb 75))) fun _=>ret .none)),(iO 8 76 75)] [] [] []) 1972 (⟨en (pW W) (A aF) (A aI),none,none,eY (pW W) (A aF) p1 vA,none⟩) (p0) (aQ (en (pW W) (A aF) (A aI))) [] hX (cO eX n tb gb) (kZ KO Z)) (fun eX W Z hX=>ad (lE eX) (A n) gb (sl hX 0 2) ((Mi aI aS sg k c tc)/\ad (lE eX) (A n) gb (sl hX 3 203) (B6/\ad (lE eX) (A n) gb (sl hX 207 22) (B6/\ad (lE eX) (A n) gb (sl hX 230 84) ((Ls n)/\ad (lE eX) (A n) gb (sl hX 315 (jw W 366 374)) ((G2 n 42 41)/\ad (lE eX) (A n) gb (sl hX (jw W 682 690) (jw W 83 87)) ((Mn c tb 66)/\ad (lE eX) (A n) gb (sl hX (jw W 767 779) 67) ((G2 n 55 54)/\ad (lE eX) (A n) gb (sl hX (jw W 835 847) (jw W 84 88)) ((ml (Vw W) (.builtin "list.append" ⟨[(Yp aL),(zx c tb 75)],[]⟩) [((A aL),(some ⟨(.type ("list")),none,(.seq (lines) ep2),⟨[]⟩⟩))] (.update (A aL) none (Obj.mapSeq (·.push (zx c tb 75))) fun _=>ret .none)/\Yc)/\ad (lE eX) (A n) gb (sl hX (jw W 920 936) 51) ((LM aM n 66 65)/\ad (lE eX) (A n) gb (sl hX (jw W 972 988) 29) (Z (.again (en (pW W) (A aF) (A aI))) (Y2 n 67) (Y8 tb 83) true (ax (bH (pW W) aS aF aD aR aL aC aM aI u1 u2 u4 u5 u6 u7 u8 u9 u10 u11 u12 u13 q1 (jH r1) (jC r2) sg ep1 [aa (pW W) dJ u3 (pk c tc)] 3 (Obj.mapSeq (·.push (.str ⟨⟨[c]⟩⟩ (Y8 tb 75))) (ab lines ep2)) (Y8 tb 80) (bK ep3 4) (Int.ofNat k+1)))))))))))))) (fun W=>(PE W)) (pD (by kernel_rfl)) rfl ⟨fun _=>bi,fun _=>cG,fun _=>cG,fun _=>ez,fun _=>c7,fun _=>au,fun _=>c7,fun _=>nu,fun _=>fH,trivial⟩ trivial rfl fun hX=>?_
 iterate 9 refine rI (by first|exact⟨rfl,rfl⟩|exact⟨rfl,rfl,rfl⟩|exact⟨rfl,rfl,hsg⟩|exact⟨gk hc,rfl⟩|exact⟨fq hsz,rfl⟩) ?_
 exact rF fun s' r _ h3 h4 h5=>kQ s' _ _ _ _ _ _ _ (am rfl r) ⟨h4,ai h3,hP.nd,hP.lo⟩ h5
end
theorem r5(W:WW)(p0 p1:Pos)(vA:FA)(aS aF aD aR aL aC aM aI:Nat)(u1 u2 u3 u4 u5 u6 u7 u8 u9 u10 u11 u12 u13 q1 q2:Tok)(r1 r2:Addr)(sg:Array Value)(ep1 ep2 ep3 k m:Nat)(vOld:Value)(lines:Array Value)(tc tl:Tok)(ll:Str)(s:Shared)(hsg:sg[(Int.ofNat k).toNat]? =some (.str ⟨⟨[32]⟩⟩ tc))(hm:lines.size=Nat.add m 1)(hm2:Nat.blt (Nat.succ m) 1000=true)(hl:lines[m]? =some (.str ll tl))(hll:ll.length≠0)(hll2:ll.length<=900)(hP:az (pW W) (bH (pW W) aS aF aD aR aL aC aM aI u1 u2 u4 u5 u6 u7 u8 u9 u10 u11 u12 u13 q1 [.int 67 0,.int 19 0,.ref r1] [.int 70 0,.int 32 0,.ref r2] sg ep1 [aa (pW W) dJ u3 vOld] 3 (ab lines ep2) q2 ep3 (Int.ofNat k)) s){Q:Prop}(kQ:∀s' r1x r2x u3x ep2x q2x ep3x tn,br (model pw (Vw W)) ⟨en (pW W) (A aF) (A aI),none,none,eY (pW W) (A aF) p1 vA,none⟩ p0 s s'->az (pW W) (bH (pW W) aS aF aD aR aL aC aM aI u1 u2 u4 u5 u6 u7 u8 u9 u10 u11 u12 u13 q1 [.int 67 0,.int 19 0,.ref r1x] [.int 70 0,.int 32 0,.ref r2x] sg ep1 [aa (pW W) dJ u3x (.str ⟨⟨[32]⟩⟩ tc)] 3 (ab (lines.setIfInBounds m (.str (ll++⟨⟨[32]⟩⟩) tn)) ep2x) q2x ep3x (Int.ofNat k+1)) s'->af (bH (pW W) aS aF aD aR aL aC aM aI u1 u2 u4 u5 u6 u7 u8 u9 u10 u11 u12 u13 q1 [.int 67 0,.int 19 0,.ref r1] [.int 70 0,.int 32 0,.ref r2] sg ep1 [aa (pW W) dJ u3 vOld] 3 (ab lines ep2) q2 ep3 (Int.ofNat k)) s s'->Q):Q:=by
 obtain⟨n,tb,gb,hn,ht,hg⟩:=hP.nt
 have hE:= @rfl (WW->ae) fun W=>bH (pW W) aS aF aD aR aL aC aM aI u1 u2 u4 u5 u6 u7 u8 u9 u10 u11 u12 u13 q1 [.int 67 0,.int 19 0,.ref r1] [.int 70 0,.int 32 0,.ref r2] sg ep1 [aa (pW W) dJ u3 vOld] 3 (ab lines ep2) q2 ep3 (Int.ofNat k)
 refine bT hE hP hn ht hg (fun eX W Z hX=>cm (ei (Vw W) 10 [(bG 9 2 (.str ⟨⟨[32]⟩⟩ tc)),ec,ec,(fY 14 22),(ee 52 51),(gT 6 m),(co 6 (.str ll tl)),(ee 65 64),(f7 [] (.str ((ll)++(Str.mk ⟨[32]⟩)))),(nV 6 m),(iO 8 76 75)] [] [] []) 2012 (⟨en (pW W) (A aF) (A aI),none,none,eY (pW W) (A aF) p1 vA,none⟩) (p0) (aQ (en (pW W) (A aF) (A aI))) [] hX (qU eX (A n) (TK tb) gb) (kZ [0,1,2,3,4,5,6,7,8,9] Z)) (fun eX W Z hX=>ad (lE eX) (A n) gb (sl hX 0 2) (((Rf (.builtin "list_iterator.__next__" ⟨[(.ref (A aI))],[]⟩:Code))/\((Rf (A aS:Addr))/\(((sg[(Int.ofNat k).toNat]?):(Option Value))=(some (.str (Str.mk ⟨[32]⟩) tc)))))/\ad (lE eX) (A n) gb (sl hX 3 203) (((Rf (some (NameKind.globalImplicit):Option NameKind))/\(Rf (some (NameKind.free):Option NameKind)))/\ad (lE eX) (A n) gb (sl hX 207 22) (((Rf (some (NameKind.globalImplicit):Option NameKind))/\(Rf (some (NameKind.free):Option NameKind)))/\ad (lE eX) (A n) gb (sl hX 230 84) (((Rf (.builtin "tuple.__ne__" ⟨[(.ref (Nat.add (A n) 4)),(.ref (Nat.add (A n) 12))],[]⟩:Code))/\((Rf (.type ("tuple"):Value))/\(Rf (.type ("tuple"):Value))))/\ad (lE eX) (A n) gb (sl hX 315 (cond W.b2 366 374)) (((Rf (.builtin "list.__iadd__" ⟨[(.ref (Nat.add (A n) 42)),(.ref (Nat.add (A n) 41))],[]⟩:Code))/\((Rf (.type ("generator"):Value))/\(Rf (false:Bool))))/\ad (lE eX) (A n) gb (sl hX (cond W.b2 682 690) (cond W.b2 98 102)) (((Rf (.builtin "len" ⟨[(.ref (A aL))],[]⟩:Code))/\((Rf (.type ("list"):Value))/\((((lines.size):(Nat))=(Nat.add m 1))/\(((m.succ.blt 1000):(Bool))=(true)))))/\ad (lE eX) (A n) gb (sl hX (cond W.b2 781 793) 16) (((Rf (.builtin "list.__getitem__" ⟨[(.ref (A aL)),(.int (Int.negSucc 0) (Nat.add (TK tb) 72))],[]⟩:Code))/\((Rf (true:Bool))/\((((seqIndex? (-(Value.int 1 ((TK tb).add 71),1).snd) lines.size).bind fun j=>lines[j]?):(Option Value))=(some (.str (ll) tl)))))/\ad (lE eX) (A n) gb (sl hX (cond W.b2 798 810) 50) (((Rf (.builtin "list.__iadd__" ⟨[(.ref (Nat.add (A n) 55)),(.ref (Nat.add (A n) 54))],[]⟩:Code))/\((Rf (.type ("generator"):Value))/\(Rf (false:Bool))))/\ad (lE eX) (A n) gb (sl hX (cond W.b2 849 861) (cond W.b2 83 87)) ((av (.builtin "str.__add__" ⟨[(.str (ll) tl),(.str (Str.mk ⟨[32]⟩) (Nat.add (TK tb) 80))],[]⟩) [] (Made.str (ll++{cps:={toList:=[32]}}))/\(Rf (true:Bool)))/\ad (lE eX) (A n) gb (sl hX (cond W.b2 934 950) 3) (((Rf (.builtin "list.__setitem__" ⟨[(.ref (A aL)),(.int (Int.negSucc 0) (Nat.add (TK tb) 72)),(.str (ll++{cps:={toList:=[32]}}) (Nat.add (TK tb) 81))],[]⟩:Code))/\((Rf (true:Bool))/\(((seqIndex? (-(Value.int 1 ((TK tb).add 71),1).snd) lines.size):(Option Nat))=(some m))))/\ad (lE eX) (A n) gb (sl hX (cond W.b2 938 954) 51) (((Rf (.builtin "list.__setitem__" ⟨[(.ref (A aM)),(.ref (Nat.add (A n) 66)),(.ref (Nat.add (A n) 65))],[]⟩:Code))/\(Rf (false:Bool)))/\ad (lE eX) (A n) gb (sl hX (cond W.b2 990 1006) 29) (Z (.again (en (pW W) (A aF) (A aI))) (Nat.add (A n) 67) (Nat.add (TK tb) 89) true (ax (bH (pW W) aS aF aD aR aL aC aM aI u1 u2 u4 u5 u6 u7 u8 u9 u10 u11 u12 u13 q1 [.int 67 0,.int 19 0,.ref r1] [.int 70 0,.int 32 0,.ref r2] sg ep1 [aa (pW W) dJ u3 (.str ⟨⟨[32]⟩⟩ tc)] 3 (Obj.mapSeq (fun xs=>xs.setIfInBounds m (.str (ll++⟨⟨[32]⟩⟩) (Nat.add (TK tb) 81))) (ab lines ep2)) (Nat.add (TK tb) 86) (Nat.add ep3 4) (Int.ofNat k+1)))))))))))))))) (fun W=>((gE [10,10,4000,10,10,4,4,4,6,0,0,0,6,0,0,0,6,6,0,5,9,0,0,0,9,0,0,0,9,40000,9,8,4,0,0,0,60011,0,11,9,0,0,0,9,0,0,0,9,0,0,0,9,8,11,11,9,0,9,9,9,4,6,0,0,0,6,0,0,0,6,40000,6,5,0,0,0,13,13,0,13,6,0,0,0,6,0,0,0,6,6,0,5,9,0,0,0,9,0,0,0,9,40000,9,8,0,0,0,60014,0,14,9,0,0,0,9,0,0,0,9,0,0,0,9,8,14,14,9,0,9,9,9,4,6,0,0,0,6,0,0,0,6,40000,6,5,0,0,0,16,16,0,16,6,0,0,0,6,0,0,0,6,6,0,5,9,0,0,0,9,0,0,0,9,40000,9,8,0,0,0,17,17,0,4001,17,9,0,0,0,9,0,0,0,9,40000,9,8,0,0,0,18,18,0,4002,50000,18,0,0,30019,0,9,9,0,120019,0,0,9,0,20,20,9,50000,17,0,0,30021,0,9,9,0,120021,0,0,9,0,22,22,9,0,9,9,0,0,40009,30016,15,23,15,15,4003,0,0,16,6,0,0,0,6,0,0,0,6,6,0,5,9,60000,24,24,0,0,0,24,9,0,0,0,9,0,0,0,9,0,25,0,0,1,0,0,26,26,24,9,60000,9,0,9,0,0,0,9,9,0,8,40027,28,30027,500,0,500,40025])++(cond W.b2 (gE [9,30025,40012,50029,12,60029,12,60029,12,29,29,31,40026,0,0,26,0,0,26,500,40028,30027,500,0,500,40025,9,25,25,33,500,35,16,6,0,0,0,6,0,0,0,6,6,0,5,9,0,0,0,9,0,0,0,9,40000,9,8,0,0,0,36,36,0,36,9,60000,9,0,9,0,0,0,9,9,0,8,36,9,0,0,0,9,0,0,0,9,60000,37,37,0,0,0,37,9,0,0,0,9,0,0,0,9,0,38,0,0,1,0,0,39,39,37,9,60000,9,0,9,0,0,0,9,9,0,8,40040,41,30040,501,0,501,40038,9,30038,40012,50042,12,60042,12,60042,12,42,42,44,40039,0,0,39,0,0,39,501,40041,30040,501,0,501,40038,9,38,38,46,501,48,0,0,36,9,60000,49,49,0,0,49,9,0,0,0,9,0,0,0,9,0,50,0,0,2,0,0,51,51,50052,4004,60052,60053,30052,502,0,502,40050,9,30050,40012,50054,12,60054,12,60054,12,54,54,56,40051,0,51,51,57,57,502,30053,30052,502,0,502,40050,9,50,50,59,502,61,53,16,6,0,0,0,6,0,0,0,6,6,0,5,7,7,6005,16,6,0,0,0,6,0,0,0,6,6,0,5,7,7,7,4006,0,0,16,6,0,0,0,6,0,0,0,6,6,0,5,9,60000,62,62,0,0,62,9,0,0,0,9,0,0,0,9,0,63,0,0,2,0,0,64,64,50065,4007,60065,60066,30065,503,0,503]) (gE [40025,9,30025,40012,50029,12,60029,12,60029,12,29,29,31,40026,0,0,26,0,0,26,500,40028,30027,500,0,500,40025,9,25,25,33,500,35,16,6,0,0,0,6,0,0,0,6,6,0,5,9,0,0,0,9,0,0,0,9,40000,9,8,0,0,0,36,36,0,36,9,60000,9,0,9,0,0,0,9,9,0,8,36,9,0,0,0,9,0,0,0,9,60000,37,37,0,0,0,37,9,0,0,0,9,0,0,0,9,0,38,0,0,1,0,0,39,39,37,9,60000,9,0,9,0,0,0,9,9,0,8,40040,41,30040,501,0,501,80038,9,30038,40012,50042,12,60042,12,60042,12,42,42,44,40039,0,0,39,0,0,39,501,40041,30040,501,0,501,40038,9,38,38,46,501,48,0,0,36,9,60000,49,49,0,0,49,9,0,0,0,9,0,0,0,9,0,50,0,0,2,0,0,51,51,50052,4004,60052,60053,30052,502,0,502,80050,9,30050,40012,50054,12,60054,12,60054,12,54,54,56,40051,0,51,51,57,57,502,30053,30052,502,0,502,40050,9,50,50,59,502,61,53,16,6,0,0,0,6,0,0,0,6,6,0,5,7,7,6005,16,6,0,0,0,6,0,0,0,6,6,0,5,7,7,7,4006,0,0,16,6,0,0,0,6,0,0,0,6,6,0,5,9,60000,62,62,0,0,62,9,0,0,0,9,0,0,0,9,0,63,0,0,2,0,0,64,64,50065,4007,60065,60066,30065,503,0,503,40063]))++(gE [40063,9,30063,40012,50067,12,60067,12,60067,12,67,67,69,40064,0,64,64,70,70,503,30066,30065,503,0,503,40063,9,63,63,72,503,74,66,3001,4008,7,7,7,4009,7,16,6,0,0,0,6,0,0,0,6,6,0,5,9,0,0,0,9,0,0,0,9,40000,9,8,40000,40075,0,50075,9,0,9,0,0,0,9,0,4010,50077,76,76,40009,75,9,0,0,0,9,0,9,0,9,0,0,0,9,0,8,8,8,3000]))) (pD (by kernel_rfl)) rfl ⟨fun _=>bi,fun _=>cG,fun _=>cG,fun _=>ez,fun _=>c7,fun _=>gY,fun _=>bB,fun _=>c7,fun _=>au,fun _=>kO,fun _=>fH,trivial⟩ trivial rfl fun hX=>?_
 iterate 11 refine rI (by first|exact⟨rfl,rfl⟩|exact⟨rfl,rfl,rfl⟩|exact⟨rfl,rfl,hsg⟩|exact⟨rfl,rfl,hm,hm2⟩|exact⟨rfl,rfl,xC hm hl⟩|exact⟨ot hll (by decide) (by have:(⟨⟨[32]⟩⟩:Str).length=1:=rfl;lia),rfl⟩|exact⟨rfl,rfl,tP hm⟩) ?_
 exact rF fun s' r _ h3 h4 h5=>kQ s' _ _ _ _ _ _ _ (am rfl r) ⟨h4,ai h3,hP.nd,hP.lo⟩ h5
noncomputable abbrev fu:=(.ret (.ok .next):End)
abbrev zv a:=Rf (A a:Addr)
abbrev vR(a b:Nat)(c:Array Value)(d:Nat):=(Yo a)/\((zv b)/\(((yY c d):i8)=none))
abbrev vd a b c d:=ei (Vw a) b [(wX c d)] [] [] []
noncomputable abbrev oY:=(.fin fu:Ev)
theorem yv(W:WW)(p0 p1:Pos)(vA:FA)(aS aF aD aR aL aC aM aI:Nat)(u1 u2 u3 u4 u5 u6 u7 u8 u9 u10 u11 u12 u13 q1 q2:Tok)(t140 t147:List Value)(sg:Array Value)(ep1 ep2 ep3 k:Nat)(fr:List DictEntry)(fe:Nat)(lines:Array Value)(s:Shared)(hsg:sg[(Yh k).toNat]? =none)(hP:az (pW W) (bH (pW W) aS aF aD aR aL aC aM aI u1 u2 u4 u5 u6 u7 u8 u9 u10 u11 u12 u13 q1 t140 t147 sg ep1 fr fe (ab lines ep2) q2 ep3 (Yh k)) s){Q:Prop}(kQ:∀s',Runs (Yt W) ⟨en (pW W) (A aF) (A aI),none,none,eY (pW W) (A aF) p1 vA,none⟩ p0 ((Yt W).den (en (pW W) (A aF) (A aI))) [] s fu s'->cN (pW W) s'->cI (ib (pW W) aS aF aD aR aL aC aM aI u1 u2 u4 u5 u6 u7 u8 u9 u10 u11 u12 u13 q1 t140 t147 sg ep1 fr fe (ab lines ep2) q2 ep3 (Yh k)) s'.heap->af (bH (pW W) aS aF aD aR aL aC aM aI u1 u2 u4 u5 u6 u7 u8 u9 u10 u11 u12 u13 q1 t140 t147 sg ep1 fr fe (ab lines ep2) q2 ep3 (Yh k)) s s'->Q):Q:=by
 obtain⟨n,tb,gb,hn,ht,hg⟩:=hP.nt
 have hE:= @rfl pQ fun W=>bH (pW W) aS aF aD aR aL aC aM aI u1 u2 u4 u5 u6 u7 u8 u9 u10 u11 u12 u13 q1 t140 t147 sg ep1 fr fe (ab lines ep2) q2 ep3 (Yh k)
 refine bT hE hP hn ht hg (fun eX W Z hX=>cm (vd W 10 9 2) 54 (⟨en (pW W) (A aF) (A aI),none,none,eY (pW W) (A aF) p1 vA,none⟩) (p0) (aQ (en (pW W) (A aF) (A aI))) [] hX (cO eX n tb gb) (kZ KO Z)) (fun eX W Z hX=>ad (lE eX) (A n) gb (sl hX 0 2) ((vR aI aS sg k)/\ad (lE eX) (A n) gb (sl hX 3 3) (Z oY (Y2 n 2) (Y8 tb 0) true (ax (ib (pW W) aS aF aD aR aL aC aM aI u1 u2 u4 u5 u6 u7 u8 u9 u10 u11 u12 u13 q1 t140 t147 sg ep1 fr fe (ab lines ep2) q2 ep3 (Yh k)))))) (fun _=>[10,10,4000,10,10,12]) (oW (by kernel_rfl)) rfl ⟨fun _=>cg,trivial⟩ trivial rfl fun hX=>?_
 refine rI (by first|exact⟨rfl,rfl,hsg⟩) ?_
 exact rF fun s' r _ h3 h4 h5=>kQ s' (by rw [bI];exact r) h4 (ai h3) h5
def cQ(sg:Array Value)(cs:List Nat):Prop:=∀i:Nat,match cs[i]? with
 |some c=>∃t,sg[i]? =some (.str ⟨⟨[c]⟩⟩ t)
 |none=>sg[i]? =none
def aX(lines:Array Value)(ls:List (List Nat)):Prop:=lines.size=ls.length/\∀(i:Nat) (l:List Nat),ls[i]? =some l->∃t,lines[i]? =some (.str ⟨⟨l⟩⟩ t)
noncomputable def cR(ls:List (List Nat))(c:Nat):List (List Nat):=if c=32 then ls.dropLast++(match ls.getLast? with|some l=>[l++[32]]|none=>[]) else ls++[[c]]
noncomputable def ej(cs:List Nat):List (List Nat):=cs.foldl cR []
theorem aX.push{lines:Array Value}{ls:List (List Nat)}{c:Nat}{t:Tok}(h:aX lines ls):aX (lines.push (.str ⟨⟨[c]⟩⟩ t)) (ls++[[c]]):=by
 refine⟨by simp [h.1],fun i l e=>?_⟩
 by_cases q:i<ls.length
 ·rw [getElem?_append_left q] at e
  rw [getElem?_push,if_neg (by rw [h.1];lia)]
  exact h.2 i l e
 ·rw [getElem?_append_right (by lia)] at e
  have hl:=(List.getElem?_eq_some_iff.mp e).1
  have:i=ls.length:=by simp at hl;lia
  subst this
  simp at e
  rw [getElem?_push,if_pos (by rw [h.1])]
  exact⟨t,by rw [<-e]⟩
theorem aX.last{lines:Array Value}{ls:List (List Nat)}{l:List Nat}{m:Nat}{t:Tok}(h:aX lines (ls++[l]))(hm:lines.size=Nat.add m 1):
  aX (lines.setIfInBounds m (.str (⟨⟨l⟩⟩++⟨⟨[32]⟩⟩) t)) (ls++[l++[32]]):=by
 have e1:m=ls.length:=by have:=h.1;rw [hm] at this;simp at this;exact this
 refine⟨by rw [Array.size_setIfInBounds,h.1];simp,fun i x e=>?_⟩
 by_cases q:i<ls.length
 ·rw [getElem?_append_left q] at e
  rw [getElem?_setIfInBounds,if_neg (by lia)]
  exact h.2 i x (by rw [getElem?_append_left q];exact e)
 ·rw [getElem?_append_right (by lia)] at e
  have hl:=(List.getElem?_eq_some_iff.mp e).1
  have:i=ls.length:=by simp at hl;lia
  subst this
  simp at e
  rw [getElem?_setIfInBounds,if_pos e1,if_pos (by rw [hm,e1];exact Nat.lt_succ_self _)]
  refine⟨t,?_⟩
  rw [<-e]
  congr 2
  exact Str.ext' (by show(⟨l⟩:Array Nat)++⟨[32]⟩=⟨l++[32]⟩;simp)
structure GH where
 r1:Addr
 r2:Addr
 u3:Tok
 v:Value
 lines:Array Value
 ep2:Nat
 q2:Tok
 ep3:Nat
 k:Nat
theorem cQ.none{sg:Array Value}{cs:List Nat}(h:cQ sg cs){k:Nat}(e:cs.drop k=[]):sg[(Int.ofNat k).toNat]? =none:=by
 have z:=h k
 rw [List.getElem?_eq_none (List.drop_eq_nil_iff.mp e)] at z
 exact z
theorem vw{cs:List Nat}{k c:Nat}{rest:List Nat}(e:cs.drop k=c::rest):cs[k]? =some c/\cs.drop (k+1)=rest:=by
 refine⟨?_,?_⟩
 ·have:=getElem?_drop (xs:=cs) (i:=k) (j:=0)
  rw [e] at this;simpa using this.symm
 ·rw [<-drop_drop,e];rfl
theorem cQ.some{sg:Array Value}{cs:List Nat}(h:cQ sg cs){k c:Nat}(e:cs[k]? =some c):∃t,sg[(Int.ofNat k).toNat]? =some (.str ⟨⟨[c]⟩⟩ t):=by
 have z:=h k
 rw [e] at z
 exact z
theorem gS(ls:List (List Nat))(l:List Nat):cR (ls++[l]) 32=ls++[l++[32]]:=by simp [cR]
theorem dO(ls:List (List Nat)){c:Nat}(h:c=49\/c=127):cR ls c=ls++[[c]]:=by
 unfold cR;rw [if_neg (by lia)]
section
variable(W:WW)(p1:Pos)(vA:FA)(aS aF aD aR aL aC aM aI:Nat)(u1 u2 u4 u5 u6 u7 u8 u9 u10 u11 u12 u13 q1:Tok)(sg:Array Value)(ep1:Nat)
include W p1 vA aS aF aD aR aL aC aM aI u1 u2 u4 u5 u6 u7 u8 u9 u10 u11 u12 u13 q1 sg ep1
theorem Bh(cs:List Nat)(hs:cQ sg cs):∀(rest:List Nat) (k:Nat) (ls:List (List Nat)) (l:List Nat) (r1 r2:Addr) (u3:Tok) (vOld:Value) (lines:Array Value) (ep2:Nat) (q2:Tok) (ep3:Nat) (p0:Pos) (s:Shared),
  cs.drop k=rest->(∀c∈rest,c=49\/c=127\/c=32)->aX lines (ls++[l])->l≠[]->l.length+rest.length<=100->ls.length+rest.length<=100->az (pW W) (bH (pW W) aS aF aD aR aL aC aM aI u1 u2 u4 u5 u6 u7 u8 u9 u10 u11 u12 u13 q1 (jH r1) (jC r2) sg ep1 [aa (pW W) dJ u3 vOld] 3 (ab lines ep2) q2 ep3 (Yh k)) s->
  ∀Q:Prop,(∀(s':Shared) (x:GH),Runs (Yt W) ⟨en (pW W) (A aF) (A aI),none,none,eY (pW W) (A aF) p1 vA,none⟩ p0 ((Yt W).den (en (pW W) (A aF) (A aI))) [] s fu s'->cN (pW W) s'->cI (ib (pW W) aS aF aD aR aL aC aM aI u1 u2 u4 u5 u6 u7 u8 u9 u10 u11 u12 u13 q1 [.int 67 0,.int 19 0,.ref x.r1] [.int 70 0,.int 32 0,.ref x.r2] sg ep1 [aa (pW W) dJ x.u3 x.v] 3 (ab x.lines x.ep2) x.q2 x.ep3 (Int.ofNat x.k)) s'.heap->af (bH (pW W) aS aF aD aR aL aC aM aI u1 u2 u4 u5 u6 u7 u8 u9 u10 u11 u12 u13 q1 (jH r1) (jC r2) sg ep1 [aa (pW W) dJ u3 vOld] 3 (ab lines ep2) q2 ep3 (Yh k)) s s'->aX x.lines (rest.foldl cR (ls++[l]))->Q)->Q:=by
 intro rest0
 induction rest0 with
 |nil=>
  intro k ls l r1 r2 u3 vOld lines ep2 q2 ep3 p0 s hd hc hl hne z1 z2 hP Q kQ
  apply yv (W:=W) (p0:=p0) (u3:=u3) (hsg:=hs.none hd) (hP:=hP) (kQ:=?k1) ..
  case' k1=>intro s' r h1 h2 h3
  exact kQ s' ⟨r1,r2,u3,vOld,lines,ep2,q2,ep3,k⟩ r h1 h2 h3 hl
 |cons c rest ih=>
  intro k ls l r1 r2 u3 vOld lines ep2 q2 ep3 p0 s hd hc hl hne z1 z2 hP Q kQ
  obtain⟨hk,hd'⟩:=vw hd
  obtain⟨tc,ht⟩:=hs.some hk
  have hc':∀c∈rest,c=49\/c=127\/c=32:=fun c h=>hc c (mem_cons_of_mem _ h)
  have hsz:=hl.1
  simp only [List.length_append,length_cons,List.length_nil] at hsz z1 z2
  by_cases q:c=32
  ·subst q
   obtain⟨tl,hlast⟩:=hl.2 ls.length l (by simp)
   apply r5 (W:=W) (m:=ls.length) (ll:=⟨⟨l⟩⟩) (hsg:=ht) (hm:=hsz) (hm2:=Nat.ble_eq_true_of_le (by lia)) (hl:=hlast) (hll:=by intro e;exact hne (List.length_eq_zero_iff.mp e)) (hll2:=by show l.length<=900;lia) (hP:=hP) (p0:=p0) (kQ:=?k2) ..
   case' k2=>intro s1 r1x r2x u3x ep2x q2x ep3x tn H hP' K
   obtain⟨p',H⟩:=H
   refine ih (k+1) ls (l++[32]) _ _ _ _ _ _ _ _ p' s1 hd' hc' (hl.last hsz) (by simp) (by simp;lia) (by lia) hP' _ fun s2 x r h1 h2 h3 h4=>?_
   exact kQ s2 x (H _ _ r) h1 h2 (K.trans (h3.cast rfl)) (by rw [foldl_cons,gS];exact h4)
  ·have hcc:c=49\/c=127:=by rcases hc c (mem_cons_self ..) with h|h|h<;>lia
   apply sa (W:=W) (hsg:=ht) (hc:=hcc) (hsz:=by lia) (hP:=hP) (p0:=p0) (kQ:=?k3) ..
   case' k3=>intro s1 r1x r2x u3x ep2x q2x ep3x tn H hP' K
   obtain⟨p',H⟩:=H
   refine ih (k+1) (ls++[l]) [c] _ _ _ _ _ _ _ _ p' s1 hd' hc' hl.push (by simp) (by simp;lia) (by simp;lia) hP' _ fun s2 x r h1 h2 h3 h4=>?_
   exact kQ s2 x (H _ _ r) h1 h2 (K.trans (h3.cast rfl)) (by rw [foldl_cons,dO _ hcc];exact h4)
noncomputable abbrev m8:=(.ok .next:Result)
noncomputable def xT(W:WW)(p1:Pos)(vA:FA)(aS aF aD aR aL aC aM aI:Nat)(u1 u2 u4 u5 u6 u7 u8 u9 u10 u11 u12 u13 q1:Tok)(sg:Array Value)(ep1:Nat)(x:GH):Result×List Obj×ae:=(m8,(ib (pW W) aS aF aD aR aL aC aM aI u1 u2 u4 u5 u6 u7 u8 u9 u10 u11 u12 u13 q1 [.int 67 0,.int 19 0,.ref x.r1] [.int 70 0,.int 32 0,.ref x.r2] sg ep1 [aa (pW W) dJ x.u3 x.v] 3 (ab x.lines x.ep2) x.q2 x.ep3 (Int.ofNat x.k)).map (·.2),[])
noncomputable abbrev Yx:=Int.ofNat 0
theorem ul(c0:Nat)(cs:List Nat)(hs:cQ sg (c0::cs))(h0:c0=49\/c0=127)(hc:∀c∈cs,c=49\/c=127\/c=32)(hlen:cs.length<=50)(t140 t147:List Value)(htab:t140=[]/\t147=[]\/∃r1 r2,t140=(jH r1)/\t147=(jC r2))(ep2:Nat)(q2:Tok)(ep3:Nat):
  cq (Vw W) ⟨en (pW W) (A aF) (A aI),none,none,eY (pW W) (A aF) p1 vA,none⟩ (bH (pW W) aS aF aD aR aL aC aM aI u1 u2 u4 u5 u6 u7 u8 u9 u10 u11 u12 u13 q1 t140 t147 sg ep1 [] 2 (ab ⟨[]⟩ ep2) q2 ep3 Yx) (xT W p1 vA aS aF aD aR aL aC aM aI u1 u2 u4 u5 u6 u7 u8 u9 u10 u11 u12 u13 q1 sg ep1) (fun x=>aX x.lines (ej (c0::cs))):=by
 intro p0 s hP
 refine gQ fun Q zQ=>?_
 obtain⟨tc,ht⟩:=hs.some (k:=0) rfl
 have key:∃s' r1x r2x u3x ep2x q2x ep3x tn,br (Yt W) ⟨en (pW W) (A aF) (A aI),none,none,eY (pW W) (A aF) p1 vA,none⟩ p0 s s'/\az (pW W) (bH (pW W) aS aF aD aR aL aC aM aI u1 u2 u4 u5 u6 u7 u8 u9 u10 u11 u12 u13 q1 (jH r1x) (jC r2x) sg ep1 [aa (pW W) dJ u3x (pk c0 tc)] 3 (ab ((⟨[]⟩:Array Value).push (pk c0 tn)) ep2x) q2x ep3x (Int.ofNat 0+1)) s'/\af (bH (pW W) aS aF aD aR aL aC aM aI u1 u2 u4 u5 u6 u7 u8 u9 u10 u11 u12 u13 q1 t140 t147 sg ep1 [] 2 (ab ⟨[]⟩ ep2) q2 ep3 Yx) s s':=by
  rcases htab with⟨rfl,rfl⟩|⟨r1,r2,rfl,rfl⟩
  ·exact ox (W:=W) (p0:=p0) (hsg:=ht) (hc:=h0) (hsz:=by simp) (hP:=hP) (lines:=⟨[]⟩) (u3:=0) (r1:=0) (r2:=0) (vOld:=.none) ..
  ·exact nL (W:=W) (p0:=p0) (hsg:=ht) (hc:=h0) (hsz:=by simp) (hP:=hP) (lines:=⟨[]⟩) (u3:=0) (vOld:=.none) ..
 obtain⟨s1,r1x,r2x,u3x,ep2x,q2x,ep3x,tn,H,hP',K⟩:=key
 obtain⟨p',H⟩:=H
 refine zQ ?_
 have hl:aX ((⟨[]⟩:Array Value).push (pk c0 tn)) ([]++[[c0]]):=aX.push (ls:=[]) ⟨rfl,fun i l e=>by simp at e⟩
 refine Bh W p1 vA aS aF aD aR aL aC aM aI u1 u2 u4 u5 u6 u7 u8 u9 u10 u11 u12 u13 q1 sg ep1 (c0::cs) hs cs 1 [] [c0] _ _ _ _ _ _ _ _ p' s1 rfl hc hl (by simp) (by simp;lia) (by simp;lia) hP' _ fun s2 x r h1 h2 h3 h4=>?_
 exact⟨x,s2,H _ _ r,h1,K.trans (h3.cast rfl),h2,trivial,(fun y hy=>nomatch hy),nodup_nil,by rw [ej,foldl_cons,dO _ h0];exact h4⟩
end
structure cC where
 t:Tok
noncomputable def bQ(ls:List (List Nat)):List Str:=ls.map fun l=>⟨⟨l⟩⟩
noncomputable def xm(sep:List Nat)(ls:List (List Nat)):Str:=Builtin.Str.glued ⟨⟨sep⟩⟩ (bQ ls)
theorem jk:∀(ls:List (List Nat)) (vs:List Value),vs.length=ls.length->(∀(i:Nat) (l:List Nat),ls[i]? =some l->∃t,vs[i]? =some (.str ⟨⟨l⟩⟩ t))->∃ps:List (Str×Tok),vs=strValues ps/\ps.map (·.1)=bQ ls
 |[],[],_,_=>⟨[],rfl,rfl⟩
 |[],_::_,h,_=>by simp at h
 |_::_,[],h,_=>by simp at h
 |l::ls,v::vs,h,g=>by
  obtain⟨t,e⟩:=g 0 l rfl
  simp at e
  obtain⟨ps,e1,e2⟩:=jk ls vs (by simpa using h) fun i l' e'=>by simpa using g (i+1) l' (by simpa using e')
  exact⟨(⟨⟨l⟩⟩,t)::ps,by rw [e,e1];rfl,by rw [map_cons,e2];rfl⟩
theorem mO(k:Nat):∀(ls:List Str) (a:Nat),(ls.foldl (fun n (s:Str)=>n+s.length+k) a)=a+(ls.map fun s=>s.length+k).sum
 |[],a=>by simp
 |x::ls,a=>by rw [foldl_cons,mO k ls,map_cons,sum_cons];lia
theorem iw(g:Str):∀(ls:List Str) (a:Array Nat),(ls.foldl (fun acc p=>acc++g.cps++p.cps) a).size=a.size+(ls.map fun s=>s.length+g.length).sum
 |[],a=>by simp
 |x::ls,a=>by
  rw [foldl_cons,iw g ls,map_cons,sum_cons,size_append,size_append]
  show a.size+g.cps.size+x.cps.size+_=a.size+(x.cps.size+g.cps.size+_)
  lia
theorem vZ(g:Str)(ls:List Str):(Builtin.Str.glued g ls).length<=(ls.map fun s=>s.length+g.length).sum:=by
 cases ls with
 |nil=>exact zero_le _
 |cons x ls=>
  show((ls.foldl (fun acc p=>acc++g.cps++p.cps) x.cps)).size<=_
  rw [iw,map_cons,sum_cons]
  show x.cps.size+_<=x.cps.size+g.length+_
  lia
noncomputable def B0:Value->Str
 |.str s _=>s
 |_=>Str.empty
noncomputable def bN(sp:Str)(items:Array Value):Str:=Builtin.Str.glued sp (items.toList.map B0)
def gm(sp:Str)(items:Array Value):Prop:=∃ps:List (Str×Tok),items=(strValues ps).toArray/\((ps.map (·.1)).map fun s=>s.length+sp.length).sum<=5000
theorem iv(sp:Str)(ps:List (Str×Tok)):bN sp (strValues ps).toArray=Builtin.Str.glued sp (ps.map (·.1)):=by
 unfold bN strValues
 rw [map_map];rfl
theorem gg{sp:Str}{lines:Array Value}{ls:List (List Nat)}(h:aX lines ls)(hsz:((bQ ls).map fun s=>s.length+sp.length).sum<=5000):gm sp lines/\bN sp lines=Builtin.Str.glued sp (bQ ls):=by
 obtain⟨ps,e1,e2⟩:=jk ls lines.toList (by simpa using h.1) fun i l e=>by simpa using h.2 i l e
 have e1:lines=(strValues ps).toArray:=by rw [<-e1]
 exact⟨⟨ps,e1,by rw [e2];exact hsz⟩,by rw [e1,iv,e2]⟩
theorem qZ{w:World}{sp:Str}{ts:Tok}{a:Nat}{items:Array Value}{ep:Nat}(h:gm sp items){G:Ctx}{p:Pos}{s:Shared}(hG:G.code=.builtin "str.join" ⟨[.str sp ts,.ref a],[]⟩)(hP:az w.params [(a,((E5 items ep):Obj))] s):
  fP w G [(a,(E5 items ep))] (fun x:cC=>(.ok (.ret (.str (bN sp items) x.t)),[(E5 items ep)],[])) (fun _=>True) p s:=by
 obtain⟨ps,rfl,hsz⟩:=h
 have hl:Builtin.Str.tooLong ((ps.map (·.1)).toArray.foldl (·+·.length+sp.length) 0)=false:=by
  unfold Builtin.Str.tooLong
  rw [List.foldl_toArray',mO]
  ·simp only [zero_add]
   rw [decide_eq_false_iff_not]
   rw [sizeLine_eq];lia
  ·rfl
 have g:=meets_str_join_list sp ts a ps hl
 have hL:s.heap.IsList a (strValues ps).toArray:=⟨_,hP.has.1,rfl,ep,rfl⟩
 have hlen:(Builtin.Str.glued sp (ps.map (·.1))).length<=sizeLine:=by
  have:=vZ sp (ps.map (·.1))
  rw [sizeLine_eq];lia
 have key:∃t s',(joinMade sp ps).post (fun v s''=>(Except.ok (.ret v):Result)=.ok (.ret (.str (bN sp (strValues ps).toArray) t))/\s''=s') s/\(s'=s\/s'={s with toks:=s.toks+1}):=by
  rw [iv]
  match ps,hlen with
  |[q],_=>exact⟨q.2,s,⟨rfl,rfl⟩,.inl rfl⟩
  |[],hlen=>exact⟨s.toks,_,⟨hlen,rfl,rfl⟩,.inr rfl⟩
  |q::q'::r,hlen=>exact⟨s.toks,_,⟨hlen,rfl,rfl⟩,.inr rfl⟩
 obtain⟨t,s',hp,hs⟩:=key
 have R:=bv (pr:=pw) (w:=w) g (Γ:=G) (p:=p) (s:=s) (s':=s') (r:=.ok (.ret (.str (bN sp (strValues ps).toArray) t))) (by rw [hG];rfl) ⟨hL,hp⟩
 refine⟨⟨t⟩,s',by rw [hG,bg PySem.F.entry_str_join];exact R,?_,?_,?_,trivial,(fun y hy=>nomatch hy),nodup_nil,trivial⟩
 ·rcases hs with rfl|rfl
  ·exact hP.rdy
  ·exact⟨hP.rdy.base,hP.rdy.gens,hP.rdy.size,Nat.le_succ_of_le hP.rdy.toks⟩
 ·rcases hs with rfl|rfl
  ·exact af.refl
  ·exact⟨fun _ _ q _=>q,rfl,rfl,Nat.le_refl _⟩
 ·rcases hs with rfl|rfl
  ·exact⟨hP.has.1,trivial⟩
  ·exact⟨hP.has.1,trivial⟩
noncomputable def g8(i mm ro:Nat):bM:=fun Γ p c st K=>wO (BP c) False fun b=>wA (st.T.get i) False fun cl dd items ep sl=>(c=.builtin "str.join" ⟨[.str b.1 b.2,.ref (bm st.L st.n i)],[]⟩/\(⟨cl,dd,.seq items ep,sl⟩:Obj)=(E5 items ep)/\gm b.1 items)/\
   pf (X:=cC) [(bm st.L st.n i,(E5 items ep))] [i] mm ro (fun x=>(.ok (.ret (.str (bN b.1 items) x.t)),[(E5 items ep)],[])) (fun _=>True) st K
theorem fc{w':World}{i:Nat}{V:XV}(hk:V.kt=eG w'.params):bX V (model pw w') (g8 i V.mm V.ro):=by
 intro h0 d os Γ p c st K s H hΓ R
 revert H
 refine fL (P:=(·->_)) (fun h=>h.elim) fun b=>eZ (P:=(·->_)) (fun h=>h.elim) fun cl dd items ep sl e1=>?_
 rintro⟨⟨q,-,hj⟩,H⟩
 rw [<-hΓ]
 exact fy hk (fun hP _=>qZ hj (hΓ.trans q) hP) H R
noncomputable abbrev Y1(a:FA):List nW:=[(.forLoop a.te1 a.i1 a.bo1 a.e1 a.n1,a.p2),(.func a.f1 a.n2,a.p3),(.forLoop a.te2 a.i2 a.bo2 a.e2 a.n3,a.p4),(.func a.f2 a.n4,a.p5),(.builtin "claim.caller" {},a.p6)]
abbrev Hd:=Rf (.type "list":Value)
abbrev OL:=Rf (none:Option Addr)
abbrev Ha a b:=[140,147,(A a),(Y2 b 0),(Y2 b 1),(Y2 b 2),(Y2 b 3),(Y2 b 4),(Y2 b 5),(Y2 b 6),(Y2 b 7),(Y2 b 8),(Y2 b 9),(Y2 b 10)]
noncomputable abbrev cT a:=Nat.add a 0
noncomputable abbrev dE a:=Nat.add a 1
abbrev qS a b:=A (Nat.add a b)
abbrev oX a:=(⟨[.ref (A a)],[]⟩:Args)
noncomputable abbrev EO a:=Str.mk ⟨[a]⟩
abbrev mb a:=(kZ [0,1,2] a)
abbrev Dv a b c d e:=[(140,bD a),(147,bD b),(Yk c d e)]
abbrev HT:=Rf (.type "tuple":Value)
abbrev G6 a b:=(.call (.ref b) (oX a):Code)
abbrev G7 a b:=aQ (.call (.ref b) (oX a))
theorem xi(W:WW)(p0:Pos)(vA:FA)(aS:Nat)(t140 t147:List Value)(sg:Array Value)(cs:List Nat)(ep1 n tb gb:Nat)(Z:ZB)(hX:List Nat)(hhX:hX=((gE [0,0,4,4,300000,6,0,6,60000,100007,0,7,7,6,0,0,0,6,0,6,0,6,0,0,0,6,0,5,5,5,7,7,6,0,0,0,6,0,6,0,6,0,0,0,6,0,5,5,5,0,0,7,7,6,0,0,0,6,0,6,0,6,0,0,0,6,0,5,5,5,7,7,6,0,0,0,6,0,6,0,6,0,0,0,6,0,5,5,5,7,6,0,0,0,6,0,6,0,6,0,0,0,6,0,5,5,5,0,7,180000,10,0,10,70000,40011,0,4000,11,11,10,0,0,0,10,0,10,0,10,0,0,0,10,0,9,9,9,50000,11,0,0,30012,0,10,10,0,120012,0,0,10,0,13,13,40010,7,6,0,0,0,6,0,6,0,6,0,0,0,6,0,5,5,5,4,4,4,3,3,3,14,1000,4,6,0,0,0,6,0,0,0,6,40000,6,5,0,0,0,40015,0,15,6,0,0,0,6,0,0,0,6,40000,6,5,0,0,0,16,16,0,16,6,0,0,0,6,0,0,0,6,6,0,5,10,0,0,0,10,0,0,0,10,40000,10,9,0,0,0,17,17,0,4001,17,10,0,0,0,10,0,0,0,10,40000,10,9,0,0,0,18,18,0,4002,50000,18,0,0,30019,0,10,10,0,120019,0,0,10,0,20,20,10,30016,21,22,21,21,4003,16,6,0,0,0,6,0,0,0,6,6,0,5,10,60000,10,0,10,60000,10,10,0,9,0,16,21,4004,24,24,23,0,23,0,0,60025,0,25,10,0,0,0,10,0,0,0,10,0,0,0,10,9,25,25,10,0,30010,0,0,16,6,0,0,0,6,0,0,0,6,6,0,5,10,60000,27,27,0,0,0,27,10,0,0,0,10,0,0,0,10,0,28,0,0,1,0,0,29,29,27,10,60000,10,0,10,0,0,0,10,10,0,9,40030,31,30030,500,0,500,40028])++(cond W.b2 [] [28,28,28,28])++(gE [10,30028,40026,50032,26,60032,26,60032,26,32,32,34,40029,0,0,29,0,0,29,500,40031,30030,500,0,500,40028,10,28,28,36,500,38,16,6,0,0,0,6,0,0,0,6,6,0,5,10,0,0,0,10,0,0,0,10,40000,10,9,40000,40039,0,50039,10,0,10,0,0,0,10,0,4005,50041,40,40,40010,39,10,0,0,0,10,0,10,0,10,0,0,0,10,0,9,9,9,15,15,6,0,0,0,6,0,0,0,6,6,0,5,7001])))(eX:ae)(heX:eX=(Dv t140 t147 aS sg ep1)):
 cm (ei (Vw W) 3 [ec,ec,ec,(fY 20 21),(lu 23 20),(iO 9 40 39)] [] [km (Vw W) (⟨en (pW W) (A (cT n)) (qS n 10),none,none,eY (pW W) (A (cT n)) ⟨110,16,110,21⟩ vA,none⟩) (bH (pW W) aS (cT n) (dE n) (bK n 2) (bK n 4) (bK n 5) (bK n 6) (bK n 10) (TK tb) (Y8 tb 29) (Y8 tb 11) (Y8 tb 2) (Y8 tb 13) (Y8 tb 3) (Y8 tb 17) (Y8 tb 15) (Y8 tb 19) (Y8 tb 4) (Y8 tb 21) (Y8 tb 28) (Y8 tb 25) t140 t147 sg ep1 [] 2 (ab ⟨[]⟩ 0) (Y8 tb 1) 0 Yx) [0,1,2,3,4,5,7,8,9,13] 3 3 (xT W ⟨110,16,110,21⟩ vA aS (cT n) (dE n) (bK n 2) (bK n 4) (bK n 5) (bK n 6) (bK n 10) (TK tb) (Y8 tb 29) (Y8 tb 11) (Y8 tb 2) (Y8 tb 13) (Y8 tb 3) (Y8 tb 17) (Y8 tb 15) (Y8 tb 19) (Y8 tb 4) (Y8 tb 21) (Y8 tb 28) (Y8 tb 25) sg ep1) (fun x=>aX x.lines (ej cs)),g8 7 3 3] []) 1351 (⟨G6 aS 214,none,none,(Y1 vA),none⟩) (p0) (G7 aS 214) [] hX (cO eX n tb gb) (mb Z)=
ad (lE eX) (A n) gb (sl hX 0 185) (
B6/\ad (lE eX) (A n) gb (sl hX 186 81) (
(Rf (⟨en (pW W) (A (cT n)) (qS n 10),none,none,eY (pW W) (A (cT n)) ⟨110,16,110,21⟩ vA,none⟩:Ctx))/\(Rf (ax (bH (pW W) aS (cT n) (dE n) (bK n 2) (bK n 4) (bK n 5) (bK n 6) (bK n 10) (TK tb) (Y8 tb 29) (Y8 tb 11) (Y8 tb 2) (Y8 tb 13) (Y8 tb 3) (Y8 tb 17) (Y8 tb 15) (Y8 tb 19) (Y8 tb 4) (Y8 tb 21) (Y8 tb 28) (Y8 tb 25) t140 t147 sg ep1 [] 2 (ab ⟨[]⟩ 0) (Y8 tb 1) 0 Yx)))/\Yc/\Yc/\∀(x0:GH) (n0 tb0 gb0:Nat),aX x0.lines (ej cs)->Yc/\ad (Ha aS n) (A n0) gb0 (sl hX 268 80) (
B6/\ad (Ha aS n) (A n0) gb0 (sl hX 349 22) (
B6/\ad (Ha aS n) (A n0) gb0 (sl hX 372 41) (
((Rf (.builtin "tuple.__ne__" ⟨[(dY n0 6),(dY n0 7)],[]⟩:Code))/\(HT/\HT))/\ad (Ha aS n) (A n0) gb0 (sl hX 414 36) (
((Rf (.builtin "list.__iadd__" ⟨[(dY n0 9),(dY n0 6)],[]⟩:Code))/\((Hd/\(OL/\(Rf ({toList:=[]}:Array i8))))/\((HT/\(OL/\(Rf ({toList:=[]}:Array i8))))/\Yc)))/\ad (Ha aS n) (A n0) gb0 (sl hX 451 (jw W 227 231)) (
((Rf (.builtin "list.__setitem__" ⟨[(dY n 6),(dY n0 26),(dY n0 25)],[]⟩:Code))/\(Rf (false:Bool)))/\ad (Ha aS n) (A n0) gb0 (sl hX (jw W 679 683) 43) (
(((Rf (.builtin "str.join" ⟨[.str (EO 124) (TK tb0),.ref (Y2 n 4)],[]⟩:Code))/\(Rf (⟨.type "list",none,.seq (x0.lines) x0.ep2,⟨[]⟩⟩:Obj))/\gm (EO 124) (x0.lines)))/\(Rf (ax ([((Y2 n 4),(⟨.type "list",none,.seq (x0.lines) x0.ep2,⟨[]⟩⟩:Obj))])))/\Yc/\Yc/\∀(x1:cC) (n9 tb1 gb1:Nat),True->Yc/\ad [140,147,(A aS),(Y2 n 0),(Y2 n 1),(Y2 n 2),(Y2 n 3),(Y2 n 4),(Y2 n 5),(Y2 n 6),(Y2 n 7),(Y2 n 8),(Y2 n 9),(Y2 n 10),(Y2 n0 0),(Y2 n0 1),(Y2 n0 2),(Y2 n0 3),(Y2 n0 4),(Y2 n0 5),(Y2 n0 6),(Y2 n0 7),(Y2 n0 8),(Y2 n0 9),(Y2 n0 10),(Y2 n0 11),(Y2 n0 12),(Y2 n0 13),(Y2 n0 14),(Y2 n0 15),(Y2 n0 16),(Y2 n0 17),(Y2 n0 18),(Y2 n0 19),(Y2 n0 20),(Y2 n0 21),(Y2 n0 22),(Y2 n0 23),(Y2 n0 24),(Y2 n0 25),(Y2 n0 26)] (A n9) gb1 (sl hX (jw W 722 726) 0) (
Z (.fin (.ret (.ok (.ret (.str (bN (EO 124) x0.lines) x1.t))))) (Y2 n9 0) (Y8 tb1 0) true (ax ([(140,bD [.int 67 0,.int 19 0,.ref x0.r1]),(147,bD [.int 70 0,.int 32 0,.ref x0.r2]),(Yk aS sg ep1)]))))))))))):=by
 subst hhX;subst heX
 obtain⟨w,b1,b2⟩:=W;cases b1<;>cases b2<;>kernel_rfl
structure fB where
 r1:Addr
 r2:Addr
 t:Tok
theorem mz(k:Nat):∀(cs:List Nat) (ls:List (List Nat)),((bQ (cs.foldl cR ls)).map fun s=>s.length+k).sum<=((bQ ls).map fun s=>s.length+k).sum+cs.length*(1+k)
 |[],ls=>by simp
 |c::cs,ls=>by
  rw [foldl_cons]
  have ih:=mz k cs (cR ls c)
  have st:((bQ (cR ls c)).map fun s=>s.length+k).sum<=((bQ ls).map fun s=>s.length+k).sum+(1+k):=by
   unfold cR bQ
   split
   ·rcases List.eq_nil_or_concat ls with rfl|⟨l0,l,rfl⟩
    ·simp
    ·simp [Str.length]<;>lia
   ·simp [Str.length]<;>lia
  rw [length_cons,Nat.succ_mul];lia
theorem xc(cs:List Nat)(h:cs.length<=60):((bQ (ej cs)).map fun s=>s.length+(⟨⟨[124]⟩⟩:Str).length).sum<=5000:=by
 have:=mz 1 cs []
 show((bQ (ej cs)).map fun s=>s.length+1).sum<=5000
 have e:((bQ ([]:List (List Nat))).map fun s=>s.length+1).sum=0:=rfl
 unfold ej;lia
noncomputable abbrev uh(aS:Nat)(vA:FA):Ctx:=⟨G6 aS 214,none,none,(Y1 vA),none⟩
noncomputable abbrev jd(cs:List Nat):Str:=xm [124] (ej cs)
noncomputable def qb(aS:Nat)(sg:Array Value)(ep1:Nat)(cs:List Nat)(x:fB):Result×List Obj×ae:=(.ok (.ret (.str (jd cs) x.t)),[bD [.int 67 0,.int 19 0,.ref x.r1],bD [.int 70 0,.int 32 0,.ref x.r2],ab sg ep1],[])
theorem p8(W:WW)(vA:FA)(aS:Nat)(t140 t147:List Value)(sg:Array Value)(ep1 c0:Nat)(cs:List Nat)(hs:cQ sg (c0::cs))(h0:c0=49\/c0=127)(hc:∀c∈cs,c=49\/c=127\/c=32)(hlen:cs.length<=50)(htab:t140=[]/\t147=[]\/∃r1 r2,t140=(jH r1)/\t147=(jC r2)):
  cq (Vw W) (uh aS vA) ((Dv t140 t147 aS sg ep1)) (qb aS sg ep1 (c0::cs)) (fun _=>True):=by
 intro p0 s hP
 refine gQ fun Q zQ=>?_
 obtain⟨n,hn⟩:=hP.size
 obtain⟨tb,ht⟩:=hP.toks
 generalize hg:s.gens.size=gb
 have hj:=xc (c0::cs) (by simp;lia)
 have key:∃ev s' l,dA (Yt W) (uh aS vA) p0 (aQ (uh aS vA).code) [] s ev s'/\((∃x:fB,ev=.fin (.ret (.ok (.ret (.str (jd (c0::cs)) x.t))))/\l=ax [(140,bD [.int 67 0,.int 19 0,.ref x.r1]),(147,bD [.int 70 0,.int 32 0,.ref x.r2]),(Yk aS sg ep1)])/\677<=s'.toks)/\f9 l s'.heap/\cN (pW W) s'/\af ((Dv t140 t147 aS sg ep1)) s s':=by
  have H:=Eq.mpr (xi W p0 vA aS t140 t147 sg (c0::cs) ep1 n tb gb (fun ev nk tk fin l=>fin=true/\((∃x:fB,ev=.fin (.ret (.ok (.ret (.str (jd (c0::cs)) x.t))))/\l=ax [(140,bD [.int 67 0,.int 19 0,.ref x.r1]),(147,bD [.int 70 0,.int 32 0,.ref x.r2]),(Yk aS sg ep1)])/\677<=tk)) _ rfl _ rfl) (by
   refine rI (by first|exact⟨rfl,rfl⟩|exact⟨rfl,rfl,rfl⟩|exact⟨rfl,⟨rfl,rfl,rfl⟩,⟨rfl,rfl,rfl⟩,rfl⟩) ?_
   refine ag ⟨rfl,rfl,rfl,rfl,fun x0 n0 tb0 gb0 h0_=>⟨rfl,?_⟩⟩ _
   iterate 5 refine rI (by first|exact⟨rfl,rfl⟩|exact⟨rfl,rfl,rfl⟩|exact⟨rfl,⟨rfl,rfl,rfl⟩,⟨rfl,rfl,rfl⟩,rfl⟩) ?_
   refine ag ⟨⟨rfl,rfl,(gg h0_ hj).1⟩,rfl,rfl,rfl,fun x1 n9 tb1 gb1 h1=>⟨rfl,?_⟩⟩ _
   refine ag ⟨rfl,⟨⟨x0.r1,x0.r2,x1.t⟩,?_,rfl⟩,eU⟩ _
   rw [(gg h0_ hj).2];rfl)
  exact dw (is:=[0,1,2]) (by exact⟨fun _=>cG,fun _=>cG,fun _=>cG,fun _=>ez,fun _=>qH,fun _=>fH,trivial⟩) (by exact⟨jo rfl (ul W ⟨110,16,110,21⟩ vA aS (cT n) (dE n) (bK n 2) (bK n 4) (bK n 5) (bK n 6) (bK n 10) (TK tb) (Y8 tb 29) (Y8 tb 11) (Y8 tb 2) (Y8 tb 13) (Y8 tb 3) (Y8 tb 17) (Y8 tb 15) (Y8 tb 19) (Y8 tb 4) (Y8 tb 21) (Y8 tb 28) (Y8 tb 25) sg ep1 c0 cs hs h0 hc hlen t140 t147 htab 0 (Y8 tb 1) 0),fc rfl,trivial⟩) hP hn ht hg rfl (by rintro ev nk tk l ⟨⟨x,rfl,rfl⟩,h⟩;exact⟨rfl,h⟩) H
 obtain⟨ev,s',l,r,⟨⟨x,rfl,rfl⟩,htk⟩,h3,h4,h5⟩:=key
 refine zQ ?_
 have h3:=ai h3
 exact⟨x,s',by rw [bI];exact r,h4,h5,⟨h3.1,h3.2.1,h3.2.2.1,trivial⟩,trivial,(fun y hy=>nomatch hy),nodup_nil,trivial⟩
noncomputable def fQ(a b:Int):UInt64:=Float64.ofFrac (decide (a<0) !=decide (b<0)) a.natAbs b.natAbs
noncomputable def fR(dx:Int):UInt64:=fQ dx 8
noncomputable def fG(dx dy:Int):UInt64:=fQ (16*dx+dy) 256
noncomputable def Dt(dx:Int):UInt64:=Float64.sub (fR dx) 0
noncomputable def O0(dx:Int):UInt64:=Float64.div (Dt dx) (fR dx)
noncomputable def N4(dx:Int):UInt64:=Float64.sub (fR dx) (fR dx)
noncomputable def Pp(dx:Int):UInt64:=Float64.div (N4 dx) (Dt dx)
noncomputable def KY(dx dy:Int):UInt64:=Float64.sub (fR dx) (fG dx dy)
noncomputable def LH(dx dy:Int):UInt64:=Float64.div (KY dx dy) (Dt dx)
noncomputable def LE(dx:Int):UInt64:=Float64.div (Dt dx) (Dt dx)
noncomputable def OH(dx dy:Int):UInt64:=Float64.sub (LE dx) (LH dx dy)
noncomputable def Ml(dx dy:Int):UInt64:=Float64.div (OH dx dy) 4618441417868443648
noncomputable def bf(dx dy:Int):UInt64:=(Float64.divmod (Ml dx dy) 4607182418800017408).snd
noncomputable def sS(dx dy:Int):Bool:=
 !Float64.isInf (fR dx)&& !Float64.isInf (fG dx dy)&& !Float64.isZero (fR dx)&& !Float64.isZero (Dt dx)&&
 ((Float64.cmp (fG dx dy) (fR dx)==some .gt)==false)&&((Float64.cmp 0 (fR dx)==some .gt)==false)&&((Float64.cmp (fG dx dy) (fR dx)==some .lt)==true)&&((Float64.cmp 0 (fG dx dy)==some .lt)==true)&&
 ((Float64.cmp 0 (fR dx)==some .eq)==false)&&((Float64.cmp (fR dx) (fR dx)==some .eq)==true)
def eW(dx dy:Int):Prop:=1<=dx/\dx<=5/\-12<=dy/\dy<=12
theorem Bb:((List.range 5).all fun i=>(List.range 25).all fun j=>sS (Int.ofNat i+1) (Int.ofNat j-12))=true:=by decide+kernel
theorem PD:Float64.isZero 4618441417868443648=false:=by decide+kernel
theorem O1:Float64.isZero 4607182418800017408=false:=by decide+kernel
noncomputable def a9(l:List Value)(ep:Nat):Obj:=⟨.type "tuple",none,.seq ⟨l⟩ ep,⟨[]⟩⟩
theorem px{dx dy:Int}(h:eW dx dy):sS dx dy=true:=by
 obtain⟨h1,h2,h3,h4⟩:=h
 have a:=List.all_eq_true.mp Bb (dx-1).toNat (List.mem_range.mpr (by lia))
 have b:=List.all_eq_true.mp a (dy+12).toNat (List.mem_range.mpr (by lia))
 rwa [show Int.ofNat (dx-1).toNat+1=dx by have:Int.ofNat (dx-1).toNat=dx-1:=toNat_of_nonneg (by lia);lia,
  show Int.ofNat (dy+12).toNat-12=dy by have:Int.ofNat (dy+12).toNat=dy+12:=toNat_of_nonneg (by lia);lia] at b
theorem g9{a b:Int}{t u:Tok}{l}(hb:¬(b==0)=true)(h:Float64.isInf (fQ a b)=false):av (.builtin "int.__truediv__" ⟨[.int a t,.int b u],[]⟩) l (.float (fQ a b)):=
 av.mk PySem.F.entry_int_truediv (PySem.AutoIntG4.int___truediv___int_int_2 a t b u hb (by rw [show Float64.isInf (Float64.ofFrac (decide (a<0) !=decide (b<0)) a.natAbs b.natAbs)=false from h];decide)) trivial
theorem gX{a b:Int}{t u:Tok}{l}(h:IntMulOk a b):av (.builtin "int.__mul__" ⟨[.int a t,.int b u],[]⟩) l (.int (a*b)):=av.mk PySem.F.entry_int_mul (gives_int_mul a b t u h) trivial
theorem mK{a b:UInt64}{t u:Tok}{l}:av (.builtin "float.__sub__" ⟨[.float a t,.float b u],[]⟩) l (.float (Float64.sub a b)):=av.mk PySem.F.entry_float_sub (PySem.AutoFloatG0.float___sub___float_float_0 a t b u) trivial
theorem eO{a b:UInt64}{t u:Tok}{l}(h:Float64.isZero b=false):av (.builtin "float.__truediv__" ⟨[.float a t,.float b u],[]⟩) l (.float (Float64.div a b)):=av.mk PySem.F.entry_float_truediv (PySem.AutoFloatG1.float___truediv___float_float_1 a t b u (by rw [h];decide)) trivial
theorem m6{a b:UInt64}{t u:Tok}{l}(h:Float64.isZero b=false):av (.builtin "float.__mod__" ⟨[.float a t,.float b u],[]⟩) l (.float (Float64.divmod a b).snd):=av.mk PySem.F.entry_float_mod (PySem.AutoFloatG2.float___mod___float_float_1 a t b u (by rw [h];decide)) trivial
theorem ju{a b:UInt64}{t u:Tok}{v:Bool}{l}(h:(Float64.cmp a b==some .gt)=v):av (.builtin "float.__gt__" ⟨[.float a t,.float b u],[]⟩) l (.val (.bool v)):=by
 subst h;exact av.mk PySem.F.entry_float_gt (PySem.AutoFloatG4.float___gt___float_float_0 a t b u) trivial
theorem fN{a b:UInt64}{t u:Tok}{v:Bool}{l}(h:(Float64.cmp a b==some .lt)=v):av (.builtin "float.__lt__" ⟨[.float a t,.float b u],[]⟩) l (.val (.bool v)):=by
 subst h;exact av.mk PySem.F.entry_float_lt (PySem.AutoFloatG5.float___lt___float_float_0 a t b u) trivial
theorem ek{a b:UInt64}{t u:Tok}{v:Bool}{l}(h:(Float64.cmp a b==some .eq)=v):av (.builtin "float.__eq__" ⟨[.float a t,.float b u],[]⟩) l (.val (.bool v)):=by
 subst h;exact av.mk PySem.F.entry_float_eq (PySem.AutoFloatG5.float___eq___float_float_0 a t b u) trivial
structure FE where mk::(p5 p6:Pos) (n4:Env) (f2:List Stmt)
abbrev kq a b c:=(.float (a) (Y8 b c):Value)
noncomputable abbrev iU a b:=(.int (a) b:Value)
abbrev MF a b c d e f:=av (.builtin "float.__truediv__" ⟨[(kq a b e),(kq c b f)],[]⟩) [] (Made.float d)/\Yc
abbrev Pb(a:Int)(b:Tok)(c:Nat)(d:UInt64)(e:ae)(f g:Nat)(h:List Nat)(i:Int)(j k l m o p q r t u v:UInt64)(x:ZB)(y:Nat)(z:Tok)(a1:Nat):=(av (.builtin "int.__truediv__" ⟨[(iU a b),(.int (Int.ofNat 8) (Y8 c 2))],[]⟩) [] (Made.float d)/\Yc)/\ad (lE e) (A f) g (sl h 13 6) ((av (.builtin "int.__mul__" ⟨[(.int (Int.ofNat 16) (Y8 c 4)),(iU a b)],[]⟩) [] (Made.int (16*a))/\Yc)/\ad (lE e) (A f) g (sl h 20 6) ((av (.builtin "int.__truediv__" ⟨[(.int (16*a+i) (Y8 c 8)),(.int (Int.ofNat 256) (Y8 c 9))],[]⟩) [] (Made.float j)/\Yc)/\ad (lE e) (A f) g (sl h 28 38) ((av (.builtin "float.__gt__" ⟨[(kq j c 10),(kq d c 3)],[]⟩) [] (Made.val (Value.bool false))/\Yc)/\ad (lE e) (A f) g (sl h 67 8) ((av (.builtin "float.__gt__" ⟨[(.float (0) (Y8 c 11)),(kq d c 3)],[]⟩) [] (Made.val (Value.bool false))/\Yc)/\ad (lE e) (A f) g (sl h 76 42) ((av (.builtin "float.__lt__" ⟨[(kq j c 10),(kq d c 3)],[]⟩) [] (Made.val (Value.bool true))/\Yc)/\ad (lE e) (A f) g (sl h 119 11) ((av (.builtin "float.__lt__" ⟨[(.float (0) (Y8 c 11)),(kq j c 10)],[]⟩) [] (Made.val (Value.bool true))/\Yc)/\ad (lE e) (A f) g (sl h 131 19) ((av (.builtin "float.__sub__" ⟨[(kq d c 3),(.float (0) (Y8 c 11))],[]⟩) [] (Made.float k)/\Yc)/\ad (lE e) (A f) g (sl h 151 7) ((av (.builtin "float.__eq__" ⟨[(.float (0) (Y8 c 11)),(kq d c 3)],[]⟩) [] (Made.val (Value.bool false))/\Yc)/\ad (lE e) (A f) g (sl h 159 2) ((MF k c d l 17 3)/\ad (lE e) (A f) g (sl h 162 4) ((av (.builtin "float.__sub__" ⟨[(kq d c 3),(kq d c 3)],[]⟩) [] (Made.float m)/\Yc)/\ad (lE e) (A f) g (sl h 167 1) ((MF m c k o 22 17)/\ad (lE e) (A f) g (sl h 169 4) ((av (.builtin "float.__sub__" ⟨[(kq d c 3),(kq j c 10)],[]⟩) [] (Made.float p)/\Yc)/\ad (lE e) (A f) g (sl h 174 1) ((MF p c k q 25 17)/\ad (lE e) (A f) g (sl h 176 4) ((av (.builtin "float.__sub__" ⟨[(kq d c 3),(.float (0) (Y8 c 11))],[]⟩) [] (Made.float k)/\Yc)/\ad (lE e) (A f) g (sl h 181 1) ((av (.builtin "float.__truediv__" ⟨[(kq k c 28),(kq k c 17)],[]⟩) [] (Made.float r)/\Yc)/\ad (lE e) (A f) g (sl h 183 4) ((av (.builtin "float.__eq__" ⟨[(kq d c 3),(kq d c 3)],[]⟩) [] (Made.val (Value.bool true))/\Yc)/\ad (lE e) (A f) g (sl h 188 2) ((av (.builtin "float.__sub__" ⟨[(kq r c 29),(kq q c 26)],[]⟩) [] (Made.float t)/\Yc)/\ad (lE e) (A f) g (sl h 191 3) ((av (.builtin "float.__truediv__" ⟨[(kq t c 31),(.float (4618441417868443648) (Y8 c 33))],[]⟩) [] (Made.float u)/\Yc)/\ad (lE e) (A f) g (sl h 194 0) ((av (.builtin "float.__mod__" ⟨[(kq u c 34),(.float (4607182418800017408) (Y8 c 35))],[]⟩) [] (Made.float v)/\Yc)/\ad (lE e) (A f) g (sl h 196 10) (x (.fin (.ret (.ok (.ret (kq v c 36))))) (Y2 f 13) (Y8 c 39) true (ax ([(A y,⟨.type "tuple",none,.seq ⟨[.int a b,.int i z]⟩ a1,⟨[]⟩⟩)]))))))))))))))))))))))
abbrev Pn:=(gE [0,0,2,2,0,0,2,50001,4000,2,50001,4001,2,50001,3001,4002,0,0,0,60003,0,0,0,3,3,3,4,4,4,5,6,40005,4,5,5,40006,40005,4,5,5,4003,6,40005,4,5,5,4004,6,40005,4,5,5,8,6,6,6,3,3,0,0,3,3,3,9,9,9,10,11,40010,9,10,10,40011,40010,9,10,10,4005,40011,40010,9,10,10,4006,40011,40010,9,10,10,13,30011,40003,4007,70003,4008,3,3,4009,40003,4010,3,4011,40003,4012,3,4013,40003,4014,3,4015,40003,4016,3,3,4017,3,3,3,4018,4019,50003,50014])
abbrev pn:=f7 [] (.val (.bool true))
abbrev jX a:=f7 [] (.float a)
abbrev OK(a:Nat)(b:Expr)(c:List Comprehension)(d:Scope)(e:Pos)(f:Nat)(g h:Value)(i:Env)(j:Pos)(k:FE):Ctx:=⟨.call (.ref 226) (oX a),none,none,[(.compLoop (.ListComp b c d e) f g h i,j),(.func k.f2 k.n4,k.p5),(Y7,k.p6)],none⟩
section
variable(W:WW)(p0:Pos)(cel:Expr)(cgs:List Comprehension)(csc:Scope)(cps:Pos)(cd:Nat)(ci ca:Value)(cenv:Env)
include W p0 cel cgs csc cps cd ci ca cenv
theorem rs(p2:Pos)(vE:FE)(aT:Nat)(dx dy:Int)(tx ty:Tok)(ep:Nat)(r g v0 v1 v2 v3 v4 v5 v6 v7 v8 hh:UInt64)(n tb gb:Nat)(Z:ZB)(hX:List Nat)(hhX:hX=Pn)(eX:ae)(heX:eX=[(A aT,⟨.type "tuple",none,.seq ⟨[.int dx tx,.int dy ty]⟩ ep,⟨[]⟩⟩)]):
 cm (ei (Vw W) 1 [(jX r),(f7 [] (.int (16*dx))),(jX g),mx,mx,pn,pn,(jX v0),mx,(jX v1),(jX v2),(jX v3),(jX v4),(jX v5),(jX v0),(jX v6),pn,(jX v7),(jX v8),(jX hh)] [] [] []) 555 ((OK aT cel cgs csc cps cd ci ca cenv p2 vE)) (p0) (G7 aT 226) [] hX (cO eX n tb gb) (kZ [0] Z)=
ad (lE eX) (A n) gb (sl hX 0 12) (Pb dx tx tb r eX n gb hX dy g v0 v1 v2 v3 v4 v5 v6 v7 v8 hh Z aT ty ep):=by
 subst hhX;subst heX
 obtain⟨w,b1,b2⟩:=W;cases b1<;>kernel_rfl
structure FB where mk::(p2 p3 p4 p5 p6 p7:Pos) (wt:Expr) (wb we:List Stmt) (wenv:Env) (f1:List Stmt) (n1:Env) (te:Expr) (i1:Value) (bo1 e1:List Stmt) (n3 n4:Env) (f2:List Stmt)
noncomputable abbrev Yz(a:FB):Code×Pos:=(.forLoop a.te a.i1 a.bo1 a.e1 a.n3,a.p7)
noncomputable abbrev Pi(a:FB):Code×Pos:=(.whileLoop a.wt a.wb a.we a.wenv,a.p3)
abbrev Op a b c d e f g h i j:=(⟨G6 a 226,none,none,[(.compLoop (.ListComp b c d e) f g h i,j.p2),(Pi j),(.func j.f1 j.n1,j.p4),(Yz j),(.func j.f2 j.n4,j.p5),(Y7,j.p6)],none⟩:Ctx)
theorem nS(vB:FB)(aT:Nat)(dx dy:Int)(tx ty:Tok)(ep:Nat)(r g v0 v1 v2 v3 v4 v5 v6 v7 v8 hh:UInt64)(n tb gb:Nat)(Z:ZB)(hX:List Nat)(hhX:hX=Pn)(eX:ae)(heX:eX=[(A aT,⟨.type "tuple",none,.seq ⟨[.int dx tx,.int dy ty]⟩ ep,⟨[]⟩⟩)]):
 cm (ei (Vw W) 1 [(jX r),(f7 [] (.int (16*dx))),(jX g),mx,mx,pn,pn,(jX v0),mx,(jX v1),(jX v2),(jX v3),(jX v4),(jX v5),(jX v0),(jX v6),pn,(jX v7),(jX v8),(jX hh)] [] [] []) 555 ((Op aT cel cgs csc cps cd ci ca cenv vB)) (p0) (G7 aT 226) [] hX (cO eX n tb gb) (kZ [0] Z)=
ad (lE eX) (A n) gb (sl hX 0 12) (Pb dx tx tb r eX n gb hX dy g v0 v1 v2 v3 v4 v5 v6 v7 v8 hh Z aT ty ep):=by
 subst hhX;subst heX
 obtain⟨w,b1,b2⟩:=W;cases b1<;>kernel_rfl
end
abbrev fh a b c d e f:=(A a,a9 [.int b c,.int d e] f)
theorem gC(W:WW)(cel:Expr)(cgs:List Comprehension)(csc:Scope)(cps:Pos)(cd:Nat)(ci ca:Value)(cenv:Env)(vB:FB)(aT:Nat)(dx dy:Int)(tx ty:Tok)(ep:Nat)(hr:eW dx dy):
  cq (Vw W) (Op aT cel cgs csc cps cd ci ca cenv vB) ([(fh aT dx tx dy ty ep)]) (fun x:cC=>(.ok (.ret (.float (bf dx dy) x.t)),[a9 [.int dx tx,.int dy ty] ep],[])) (fun _=>True):=by
 intro p0 s hP
 refine gQ fun Q zQ=>?_
 obtain⟨n,hn⟩:=hP.size
 obtain⟨tb,ht⟩:=hP.toks
 generalize hg:s.gens.size=gb
 have k:=px hr
 unfold sS at k
 simp only [Bool.and_eq_true,Bool.not_eq_true',beq_iff_eq] at k
 obtain⟨⟨⟨⟨⟨⟨⟨⟨⟨k1,k2⟩,k3⟩,k4⟩,k5⟩,k6⟩,k7⟩,k8⟩,k9⟩,k10⟩:=k
 have hd:IntMulOk 16 dx:=IntMulOk.of_left (by decide)
 have key:∃ev s' l,dA (Yt W) (Op aT cel cgs csc cps cd ci ca cenv vB) p0 (G7 aT 226) [] s ev s'/\((∃x:cC,ev=.fin (.ret (.ok (.ret (.float (bf dx dy) x.t))))/\l=ax ([(fh aT dx tx dy ty ep)]))/\677<=s'.toks)/\f9 l s'.heap/\cN (pW W) s'/\af ([(fh aT dx tx dy ty ep)]) s s':=by
  have H:=Eq.mpr (nS W p0 cel cgs csc cps cd ci ca cenv vB aT dx dy tx ty ep (fR dx) (fG dx dy) (Dt dx) (O0 dx) (N4 dx) (Pp dx) (KY dx dy) (LH dx dy) (LE dx) (OH dx dy) (Ml dx dy) (bf dx dy) n tb gb (fun ev nk tk fin l=>fin=true/\((∃x:cC,ev=.fin (.ret (.ok (.ret (.float (bf dx dy) x.t))))/\l=ax ([(fh aT dx tx dy ty ep)]))/\677<=tk)) _ rfl _ rfl) (by
   iterate 20 refine rI ⟨by first|exact g9 (by decide) k1|exact g9 (by decide) k2|exact gX hd|exact mK|exact ju k5|exact ju k6|exact fN (beq_iff_eq.mpr k7)|exact fN (beq_iff_eq.mpr k8)|exact ek k9|exact ek (beq_iff_eq.mpr k10)|exact eO k3|exact eO k4|exact eO PD|exact m6 O1,rfl⟩ ?_
   exact ag ⟨rfl,⟨⟨_⟩,rfl,rfl⟩,eU⟩ _)
  exact dw (is:=[0]) (by exact⟨fun _=>au,fun _=>au,fun _=>au,fun _=>au,fun _=>au,fun _=>au,fun _=>au,fun _=>au,fun _=>au,fun _=>au,fun _=>au,fun _=>au,fun _=>au,fun _=>au,fun _=>au,fun _=>au,fun _=>au,fun _=>au,fun _=>au,fun _=>au,trivial⟩) (by exact trivial) hP hn ht hg rfl (by rintro ev nk tk l ⟨⟨x,rfl,rfl⟩,h⟩;exact⟨rfl,h⟩) H
 obtain⟨ev,s',l,r,⟨⟨x,rfl,rfl⟩,htk⟩,h3,h4,h5⟩:=key
 refine zQ ?_
 have h3:=ai h3
 exact⟨x,s',by rw [bI];exact r,h4,h5,⟨h3.1,trivial⟩,trivial,(fun y hy=>nomatch hy),nodup_nil,trivial⟩
noncomputable abbrev Bg:List Nat:=Yq
noncomputable abbrev HL:List Nat:=[101,100,103,101]
noncomputable abbrev Fl:List Nat:=my
noncomputable abbrev Co:List Nat:=[104,101,105,103,104,116]
noncomputable abbrev bp:List Nat:=mf
noncomputable abbrev g4:List Nat:=wB
noncomputable abbrev nX:List Nat:=[120]
noncomputable abbrev nY:List Nat:=[121]
structure FC where mk::(p5 p6 p7:Pos) (te:Expr) (i1:Value) (bo1 e1:List Stmt) (n3 n4:Env) (f2:List Stmt)
noncomputable abbrev Dy(a:FC):List (Code×Pos):=[(.forLoop a.te a.i1 a.bo1 a.e1 a.n3,a.p7),(.func a.f2 a.n4,a.p5),(Y7,a.p6)]
noncomputable abbrev fD(vC:FC):List nW:=(Dy vC)
noncomputable abbrev gV(P:Params)(L it:Addr)(p1 p2:Pos)(vC:FC):List nW:=(gH P L it,p1)::(gB (i5 P) L 238,p2)::fD vC
noncomputable def bP(P:Params)(aP aE:Nat)(uP uE uL uH:Tok)(pl he:Value)(rest:List DictEntry)(ep:Nat):Obj:=
 ah "frame" (aa P Bg uP (Yp aP)::aa P HL uE (Yp aE)::aa P Fl uL pl::aa P Co uH he::rest) ep
theorem gM{a b:Int}{t u:Tok}{v:Bool}{l}(h:decide (a<b)=v):av (.builtin "int.__lt__" ⟨[.int a t,.int b u],[]⟩) l (.val (.bool v)):=by
 subst h;exact av.mk PySem.F.entry_int_lt (gives_int_lt a b t u) trivial
abbrev Y5 a b c:=(A a,aK "list_iterator" [.ref (A b),.int (Int.ofNat c) 0])
noncomputable abbrev Ye a:=(.int (Int.ofNat a) 0:Value)
abbrev kc a b:=(A a,aK "list_iterator" [.none,Ye b])
theorem nM(W:WW)(p0 p1 p2:Pos)(vC:FC)(aF aP aE aI aJ:Nat)(uP uE uL uH tl th:Tok)(pl he:Value)(rest:List DictEntry)(pts:Array Value)(ef ep1 k:Nat)(n tb gb:Nat)(Z:ZB)(hX:List Nat)(hhX:hX=[3,3,4000,3,3,5])(eX:ae)(heX:eX=[(A aF,bP (pW W) aP aE uP uE uL uH pl he rest ef),(Yk aP pts ep1),(Y5 aI aP k)]):
 cm (vd W 3 2 1) 54 (⟨io (pW W) (A aF) (A aI),none,none,gV (pW W) (A aF) aJ p1 p2 vC,none⟩) (p0) (aQ (io (pW W) (A aF) (A aI))) [] hX (cO eX n tb gb) (mb Z)=
ad (lE eX) (A n) gb (sl hX 0 2) (
(vR aI aP pts k)/\ad (lE eX) (A n) gb (sl hX 3 3) (
Z oY (Y2 n 2) (Y8 tb 0) true (ax ([(A aF,bP (pW W) aP aE uP uE uL uH pl he rest ef),(Yk aP pts ep1),(kc aI k)])))):=by
 subst hhX;subst heX
 kernel_rfl
abbrev lS a b c:=(A a,aK "list_iterator" [fC b,.int (Int.ofNat c+1) 0])
abbrev DP(a b:Nat)(c:Array Value)(d e:Nat):=(Yo a)/\((zv b)/\(((yY c d):i8)=(some (Yp e))))
abbrev m4 a:=(kZ [0,1,2,3] a)
theorem tF(W:WW)(b7:Bool)(p0 p1 p2:Pos)(vC:FC)(aF aP aE aI aT aJ:Nat)(uP uE uL uH uA uU uX uY tl th ta tu tx ty:Tok)(pl he ac up x y:Int)(vx vy:Value)(pts:Array Value)(ep0 ep1 k et:Nat)(s:Shared)(hit:pts[(Yh k).toNat]? =some (Yp aT))(hm1:IntMulOk ac (y-he))(hm2:IntMulOk up (x-pl))(hlt:¬(ac*(y-he)<up*(x-pl)))(hP:az (pW W) ([(A aF,bP (pW W) aP aE uP uE uL uH (b8 pl tl) (b8 he th) ([aa (pW W) bp uA (.int ac ta),aa (pW W) g4 uU (b8 up tu)]++(cond b7 [] [aa (pW W) nX uX vx,aa (pW W) nY uY vy])) (cond b7 6 8)),(Yk aP pts ep1),(Y5 aI aP k),(fh aT x tx y ty et)]) s){Q:Prop}(kQ:∀(n tb:Nat) (s':Shared),Hn s n->Ht s tb->br (Yt W) (⟨io (pW W) (A aF) (A aI),none,none,gV (pW W) (A aF) aJ p1 p2 vC,none⟩) p0 s s'->az (pW W) ([(A aF,bP (pW W) aP aE uP uE uL uH (b8 pl tl) (b8 he th) [aa (pW W) bp uA (.int ac ta),aa (pW W) g4 uU (b8 up tu),aa (pW W) nX (cond b7 (TK tb) uX) (b8 x tx),aa (pW W) nY (cond b7 (Y8 tb 1) uY) (b8 y ty)] 8),(Yk aP pts ep1),(lS aI aP k),(fh aT x tx y ty et)]) s'->af ([(A aF,bP (pW W) aP aE uP uE uL uH (b8 pl tl) (b8 he th) ([aa (pW W) bp uA (.int ac ta),aa (pW W) g4 uU (b8 up tu)]++(cond b7 [] [aa (pW W) nX uX vx,aa (pW W) nY uY vy])) (cond b7 6 8)),(Yk aP pts ep1),(Y5 aI aP k),(fh aT x tx y ty et)]) s s'->Q):Q:=by
 obtain⟨n,tb,gb,hn,ht,hg⟩:=hP.nt
 have hE:= @rfl pQ fun W=>[(A aF,bP (pW W) aP aE uP uE uL uH (b8 pl tl) (b8 he th) ([aa (pW W) bp uA (.int ac ta),aa (pW W) g4 uU (b8 up tu)]++(cond b7 [] [aa (pW W) nX uX vx,aa (pW W) nY uY vy])) (cond b7 6 8)),(Yk aP pts ep1),(Y5 aI aP k),(fh aT x tx y ty et)]
 refine bT hE hP hn ht hg (fun eX W Z hX=>cm (ei (Vw W) 4 [(bG 2 1 (Yp aT)),(f7 [] (.int ((ac)*(y-he)))),(f7 [] (.int ((up)*(x-pl)))),mx] [] [] []) 148 (⟨io (pW W) (A aF) (A aI),none,none,gV (pW W) (A aF) aJ p1 p2 vC,none⟩) (p0) (aQ (io (pW W) (A aF) (A aI))) [] hX (cO eX n tb gb) (m4 Z)) (fun eX W Z hX=>ad (lE eX) (A n) gb (sl hX 0 2) ((DP aI aP pts k aT)/\ad (lE eX) (A n) gb (sl hX 3 37) ((av (.builtin "int.__mul__" ⟨[(iU ac ta),(.int (y-he) (Y8 tb 2))],[]⟩) [] (Made.int (ac*(y-he)))/\Yc)/\ad (lE eX) (A n) gb (sl hX 42 3) ((av (.builtin "int.__mul__" ⟨[(iU up tu),(.int (x-pl) (Y8 tb 4))],[]⟩) [] (Made.int (up*(x-pl)))/\Yc)/\ad (lE eX) (A n) gb (sl hX 45 0) ((av (.builtin "int.__lt__" ⟨[(.int (ac*(y-he)) (Y8 tb 3)),(.int (up*(x-pl)) (Y8 tb 5))],[]⟩) [] wu/\Yc)/\ad (lE eX) (A n) gb (sl hX 45 0) (Z (.again (io (pW W) (A aF) (A aI))) (Y2 n 3) (Y8 tb 6) true (ax ([(A aF,bP (pW W) aP aE uP uE uL uH (b8 pl tl) (b8 he th) [aa (pW W) bp uA (.int ac ta),aa (pW W) g4 uU (b8 up tu),aa (pW W) nX (cond b7 (TK tb) uX) (b8 x tx),aa (pW W) nY (cond b7 (Y8 tb 1) uY) (b8 y ty)] 8),(Yk aP pts ep1),(lS aI aP k),(fh aT x tx y ty et)])))))))) (fun _=>(gE [3,3,4000,3,3,3,40004,50005,4,60005,4,60005,4,5,5,7,70001,3001,4001,1,1,1,3001,4002,4003,3000])) (by apply iW b7<;>exact iY (by kernel_rfl)) rfl ⟨fun _=>bi,fun _=>au,fun _=>au,fun _=>au,trivial⟩ trivial rfl fun hX=>?_
 iterate 4 refine rI (by first|exact⟨rfl,rfl,hit⟩|exact⟨gX hm1,rfl⟩|exact⟨gX hm2,rfl⟩|exact⟨gM (decide_eq_false hlt),rfl⟩|exact⟨rfl,rfl⟩|exact⟨rfl,rfl,rfl⟩|exact⟨rfl,⟨rfl,rfl,rfl⟩,⟨rfl,rfl,rfl⟩,rfl⟩) ?_
 exact rF fun s' r _ h3 h4 h5=>kQ n tb s' hn ht (am rfl r) ⟨h4,ai h3,hP.nd,hP.lo⟩ h5
theorem wo(W:WW)(p0 p1 p2:Pos)(vC:FC)(aF aP aE aI aJ:Nat)(uP uE uL uH tl th:Tok)(pl he:Value)(rest:List DictEntry)(pts:Array Value)(ef ep1 k:Nat)(s:Shared)(hit:pts[(Yh k).toNat]? =none)(hP:az (pW W) ([(A aF,bP (pW W) aP aE uP uE uL uH pl he rest ef),(Yk aP pts ep1),(Y5 aI aP k)]) s){Q:Prop}(kQ:∀(n tb:Nat) (s':Shared),Hn s n->Ht s tb->Runs (Yt W) (⟨io (pW W) (A aF) (A aI),none,none,gV (pW W) (A aF) aJ p1 p2 vC,none⟩) p0 ((Yt W).den (io (pW W) (A aF) (A aI))) [] s fu s'->cN (pW W) s'->cI ([(A aF,bP (pW W) aP aE uP uE uL uH pl he rest ef),(Yk aP pts ep1),(kc aI k)]) s'.heap->af ([(A aF,bP (pW W) aP aE uP uE uL uH pl he rest ef),(Yk aP pts ep1),(Y5 aI aP k)]) s s'->Q):Q:=by
 obtain⟨n,hn⟩:=hP.size
 obtain⟨tb,ht⟩:=hP.toks
 generalize hg:s.gens.size=gb
 ·have H:=Eq.mpr (nM W p0 p1 p2 vC aF aP aE aI aJ uP uE uL uH tl th pl he rest pts ef ep1 k n tb gb (fun ev nk tk fin l=>fin=true/\((ev=oY/\l=ax ([(A aF,bP (pW W) aP aE uP uE uL uH pl he rest ef),(Yk aP pts ep1),(kc aI k)]))/\677<=tk)) _ rfl _ rfl) (by
   refine rI (by first|exact⟨rfl,rfl,hit⟩|exact⟨rfl,rfl⟩|exact⟨rfl,rfl,rfl⟩|exact⟨rfl,⟨rfl,rfl,rfl⟩,⟨rfl,rfl,rfl⟩,rfl⟩) ?_
   exact ag ⟨rfl,⟨rfl,rfl⟩,eU⟩ _)
  obtain⟨ev,s',l,r,⟨⟨rfl,rfl⟩,htk⟩,h3,h4,h5⟩:=dw (is:=[0,1,2]) (by exact⟨fun _=>cg,trivial⟩) (by exact trivial) hP hn ht hg rfl (by rintro ev nk tk l ⟨⟨rfl,rfl⟩,h⟩;exact⟨rfl,h⟩) H
  exact kQ n tb s' hn ht (by rw [bI];exact r) h4 (ai h3) h5
theorem cj:∀{E E':ae} {h:Heap},cI (E++E') h↔cI E h/\cI E' h
 |[],_,_=>⟨fun H=>⟨trivial,H⟩,fun H=>H.2⟩
 |x::E,E',h=>by
  show(_/\cI (E++E') h)↔((_/\cI E h)/\_)
  rw [cj (E:=E)]
  exact⟨fun⟨a,b,c⟩=>⟨⟨a,b⟩,c⟩,fun⟨⟨a,b⟩,c⟩=>⟨a,b,c⟩⟩
theorem az.add{P:Params}{E:ae}{s:Shared}{fz:List (Nat×Obj)}{x:Nat×Obj}(hP:az P E s)(hf:cH fz E s)(hx:x∈fz)(ha:245<=x.1):az P (E++[x]) s:=by
 refine⟨hP.rdy,cj.mpr ⟨hP.has,(hf x hx).1,trivial⟩,?_,?_⟩
 ·rw [map_append]
  refine List.nodup_append.mpr ⟨hP.nd,by simp,fun a h1 b h2=>?_⟩
  have h2:b=x.1:=List.mem_singleton.mp h2
  subst h2
  intro e
  subst e
  exact(hf x hx).2 h1
 ·intro a h
  rw [map_append] at h
  rcases List.mem_append.mp h with h|h
  ·exact hP.lo a h
  ·have h:a=x.1:=List.mem_singleton.mp h
   subst h
   exact jg (.inl (by lia))
theorem az.cut{P:Params}{E:ae}{s:Shared}{x:Nat×Obj}(hP:az P (E++[x]) s):az P E s:=by
 refine⟨hP.rdy,(cj.mp hP.has).1,?_,fun a h=>hP.lo a (by rw [map_append];exact mem_append_left _ h)⟩
 have:=hP.nd
 rw [map_append] at this
 exact(List.nodup_append.mp this).1
theorem af.cut{E:ae}{s s':Shared}{x:Nat×Obj}(h:af (E++[x]) s s')(h1:s.heap.get? x.1=some x.2)(h2:s'.heap.get? x.1=some x.2):af E s s':=by
 refine⟨fun b o e hb=>?_,h.drawn,h.os,h.size⟩
 by_cases q:b=x.1
 ·subst q;rw [h1] at e;cases e;exact h2
 ·refine h.keep b o e fun hm=>?_
  rw [map_append] at hm
  rcases List.mem_append.mp hm with hm|hm
  ·exact hb hm
  ·exact q (List.mem_singleton.mp hm)
theorem cH.keep{fz:List (Nat×Obj)}{E E':ae}{s s':Shared}(h:cH fz E s)(k:af E s s')(e:E.map (·.1)=E'.map (·.1)):cH fz E' s':=
 fun x hx=>⟨k.keep _ _ (h x hx).1 (h x hx).2,by rw [<-e];exact(h x hx).2⟩
def aw(items:Array Value)(fz:List (Nat×Obj))(ps:List (Int×Int)):Prop:=∀i:Nat,match ps[i]? with
 |some p=>∃a tx ty et,items[i]? =some (.ref (A a))/\(A a,a9 [.int p.1 tx,.int p.2 ty] et)∈fz
 |none=>items[i]? =none
theorem aw.none{items:Array Value}{fz}{ps:List (Int×Int)}(h:aw items fz ps){k:Nat}(e:ps.drop k=[]):items[(Int.ofNat k).toNat]? =none:=by
 have z:=h k
 rw [List.getElem?_eq_none (List.drop_eq_nil_iff.mp e)] at z
 exact z
theorem bw{α:Type}{ps:List α}{k:Nat}{c:α}{rest:List α}(e:ps.drop k=c::rest):ps[k]? =some c/\ps.drop (k+1)=rest:=by
 refine⟨?_,?_⟩
 ·have:=getElem?_drop (xs:=ps) (i:=k) (j:=0)
  rw [e] at this;simpa using this.symm
 ·rw [<-drop_drop,e];rfl
theorem aw.some{items:Array Value}{fz}{ps:List (Int×Int)}(h:aw items fz ps){k:Nat}{p:Int×Int}(e:ps[k]? =some p):∃a tx ty et,items[(Int.ofNat k).toNat]? =some (.ref (A a))/\(A a,a9 [.int p.1 tx,.int p.2 ty] et)∈fz:=by
 have z:=h k
 rw [e] at z
 exact z
theorem kx{a b:Int}(h:Builtin.Int.intBits a<=64):IntMulOk a b:=.of_left h
structure FU where
 uX:Tok
 vx:Value
 uY:Tok
 vy:Value
 k:Nat
abbrev cA:=Int×Int
abbrev O6(a:FU):=aK "list_iterator" [.none,.int (Int.ofNat a.k) 0]
section
variable(W:WW)(p1 p2:Pos)(vC:FC)(aF aP aE aI aJ:Nat)(uP uE uL uH uA uU tl th ta tu:Tok)(pl he ac up:Int)(pts:Array Value)(ep1:Nat)(fz:List dh)(ps:List cA)(hps:aw pts fz ps)(ha:Builtin.Int.intBits ac<=64)(hu:Builtin.Int.intBits up<=64)
include W p1 p2 vC aF aP aE aI aJ uP uE uL uH uA uU tl th ta tu pl he ac up pts ep1 fz ps hps ha hu
theorem tV:∀(rest:List cA) (k:Nat) (uX uY:Tok) (vx vy:Value) (p0:Pos) (s:Shared),ps.drop k=rest->(∀q∈rest,¬(ac*(q.2-he)<up*(q.1-pl)))->az (pW W) ([(A aF,bP (pW W) aP aE uP uE uL uH (.int pl tl) (.int he th) [aa (pW W) bp uA (.int ac ta),aa (pW W) g4 uU (.int up tu),aa (pW W) nX uX vx,aa (pW W) nY uY vy] 8),(Yk aP pts ep1),(Y5 aI aP k)]) s->cH fz ([(A aF,bP (pW W) aP aE uP uE uL uH (.int pl tl) (.int he th) [aa (pW W) bp uA (.int ac ta),aa (pW W) g4 uU (.int up tu),aa (pW W) nX uX vx,aa (pW W) nY uY vy] 8),(Yk aP pts ep1),(Y5 aI aP k)]) s->
  ∀Q:Prop,(∀(s':Shared) (x:FU),Runs (Yt W) ⟨io (pW W) (A aF) (A aI),none,none,gV (pW W) (A aF) aJ p1 p2 vC,none⟩ p0 ((Yt W).den (io (pW W) (A aF) (A aI))) [] s fu s'->cN (pW W) s'->cI ([(A aF,bP (pW W) aP aE uP uE uL uH (b8 pl tl) (b8 he th) [aa (pW W) bp uA (.int ac ta),aa (pW W) g4 uU (b8 up tu),aa (pW W) nX x.uX x.vx,aa (pW W) nY x.uY x.vy] 8),(Yk aP pts ep1),(A aI,O6 x)]) s'.heap->af ([(A aF,bP (pW W) aP aE uP uE uL uH (.int pl tl) (.int he th) [aa (pW W) bp uA (.int ac ta),aa (pW W) g4 uU (.int up tu),aa (pW W) nX uX vx,aa (pW W) nY uY vy] 8),(Yk aP pts ep1),(Y5 aI aP k)]) s s'->Q)->Q:=by
 intro rest0
 induction rest0 with
 |nil=>
  intro k uX uY vx vy p0 s hd hn hP hf Q kQ
  apply wo (W:=W) (hit:=hps.none hd) (hP:=hP) (p0:=p0) (tl:=tl) (th:=th) (kQ:=?kz11) ..
  case' kz11=>intro n tb s' _ _ r h1 h2 h3
  exact kQ s' ⟨uX,vx,uY,vy,k⟩ r h1 h2 h3
 |cons q rest ih=>
  intro k uX uY vx vy p0 s hd hn hP hf Q kQ
  obtain⟨hk,hd'⟩:=bw hd
  obtain⟨aT,tx,ty,et,hit,hx⟩:=hps.some hk
  have hP4:=hP.add hf hx (by show 245<=aT+245;lia)
  apply tF (b7:=false) (W:=W) (hit:=hit) (hm1:=kx ha) (hm2:=kx hu) (hlt:=hn q (mem_cons_self ..)) (hP:=hP4) (p0:=p0) (ep0:=0) (kQ:=?k4) ..
  case' k4=>intro n tb s1 _ _ H hP' K
  have K3:=af.cut (E:=[(A aF,bP (pW W) aP aE uP uE uL uH (.int pl tl) (.int he th) [aa (pW W) bp uA (.int ac ta),aa (pW W) g4 uU (.int up tu),aa (pW W) nX uX vx,aa (pW W) nY uY vy] 8),(Yk aP pts ep1),(Y5 aI aP k)]) (x:=(A aT,a9 [.int q.1 tx,.int q.2 ty] et)) K (hf _ hx).1 hP'.has.2.2.2.1
  obtain⟨p',H⟩:=H
  refine ih (k+1) _ _ _ _ p' s1 hd' (fun q' hq=>hn q' (mem_cons_of_mem _ hq)) (az.cut (x:=(A aT,a9 [.int q.1 tx,.int q.2 ty] et)) hP') (hf.keep K3 rfl) _ fun s2 x r h1 h2 h3=>?_
  exact kQ s2 x (H _ _ r) h1 h2 (K3.trans (h3.cast rfl))
noncomputable def oc(W:WW)(p1 p2:Pos)(vC:FC)(aF aP aE aI aJ:Nat)(uP uE uL uH uA uU tl th ta tu:Tok)(pl he ac up:Int)(pts:Array Value)(ep1:Nat)(fz:List dh)(ps:List cA)(x:FU):Result×List Obj×ae:=(m8,[bP (pW W) aP aE uP uE uL uH (b8 pl tl) (b8 he th) [aa (pW W) bp uA (.int ac ta),aa (pW W) g4 uU (b8 up tu),aa (pW W) nX x.uX x.vx,aa (pW W) nY x.uY x.vy] 8,ab pts ep1,O6 x],[])
abbrev Yf a:=aK "list_iterator" [.ref (A a),.int (Int.ofNat 0) 0]
section
variable(hn:(∀q∈ps,¬(ac*(q.2-he)<up*(q.1-pl))))
include hn
theorem kg(uX uY:Tok)(vx vy:Value):
  bY (Vw W) ⟨io (pW W) (A aF) (A aI),none,none,gV (pW W) (A aF) aJ p1 p2 vC,none⟩ ([(A aF,bP (pW W) aP aE uP uE uL uH (.int pl tl) (.int he th) [aa (pW W) bp uA (.int ac ta),aa (pW W) g4 uU (.int up tu),aa (pW W) nX uX vx,aa (pW W) nY uY vy] 8),(Yk aP pts ep1),(A aI,Yf aP)]) fz (oc W p1 p2 vC aF aP aE aI aJ uP uE uL uH uA uU tl th ta tu pl he ac up pts ep1 fz ps) (fun _=>True):=by
 intro p0 s hP hf
 refine tV W p1 p2 vC aF aP aE aI aJ uP uE uL uH uA uU tl th ta tu pl he ac up pts ep1 fz ps hps ha hu ps 0 uX uY vx vy p0 s rfl hn hP hf _ fun s2 x r h1 h2 h3=>?_
 exact⟨x,s2,r,h1,h3,⟨h2.1,h2.2.1,h2.2.2.1,trivial⟩,trivial,(fun y hy=>nomatch hy),nodup_nil,trivial⟩
theorem kk(hne:ps≠[]):
  bY (Vw W) ⟨io (pW W) (A aF) (A aI),none,none,gV (pW W) (A aF) aJ p1 p2 vC,none⟩ ([(A aF,bP (pW W) aP aE uP uE uL uH (b8 pl tl) (b8 he th) [aa (pW W) bp uA (.int ac ta),aa (pW W) g4 uU (b8 up tu)] 6),(Yk aP pts ep1),(A aI,Yf aP)]) fz (oc W p1 p2 vC aF aP aE aI aJ uP uE uL uH uA uU tl th ta tu pl he ac up pts ep1 fz ps) (fun _=>True):=by
 intro p0 s hP hf
 refine gQ fun Q zQ=>?_
 obtain⟨q,rest,rfl⟩:∃q rest,ps=q::rest:=by cases ps with|nil=>exact(hne rfl).elim|cons q r=>exact⟨q,r,rfl⟩
 obtain⟨aT,tx,ty,et,hit,hx⟩:=hps.some (k:=0) rfl
 refine zQ ?_
 have hP4:=hP.add hf hx (by show 245<=aT+245;lia)
 apply tF (b7:=true) (W:=W) (hit:=hit) (hm1:=kx ha) (hm2:=kx hu) (hlt:=hn q (mem_cons_self ..)) (hP:=hP4) (p0:=p0) (ep0:=0) (uX:=0) (uY:=0) (vx:=.none) (vy:=.none) (kQ:=?k5) ..
 case' k5=>intro n tb s1 _ _ H hP' K
 have K3:=af.cut (E:=[(A aF,bP (pW W) aP aE uP uE uL uH (b8 pl tl) (b8 he th) [aa (pW W) bp uA (.int ac ta),aa (pW W) g4 uU (b8 up tu)] 6),(Yk aP pts ep1),(A aI,Yf aP)]) (x:=(A aT,a9 [.int q.1 tx,.int q.2 ty] et)) K (hf _ hx).1 hP'.has.2.2.2.1
 obtain⟨p',H⟩:=H
 refine tV W p1 p2 vC aF aP aE aI aJ uP uE uL uH uA uU tl th ta tu pl he ac up pts ep1 fz (q::rest) hps ha hu rest 1 _ _ _ _ p' s1 rfl (fun q' hq=>hn q' (mem_cons_of_mem _ hq)) (az.cut (x:=(A aT,a9 [.int q.1 tx,.int q.2 ty] et)) hP') (hf.keep K3 rfl) _ fun s2 x r h1 h2 h3=>?_
 have h3:=K3.trans (h3.cast rfl)
 exact⟨x,s2,H _ _ r,h1,h3,⟨h2.1,h2.2.1,h2.2.2.1,trivial⟩,trivial,(fun y hy=>nomatch hy),nodup_nil,trivial⟩
end
end
section
variable(W:WW)(p0 p2:Pos)(vC:FC)(aF aP aE aI:Nat)
include W p0 p2 vC aF aP aE aI
theorem oN(uP uE uL uH:Tok)(pl he:Value)(rest:List DictEntry)(pts eds:Array Value)(ef ep0 ep1 k:Nat)(n tb gb:Nat)(Z:ZB)(hX:List Nat)(hhX:hX=[4,4,4000,4,4,6])(eX:ae)(heX:eX=[(A aF,bP (pW W) aP aE uP uE uL uH pl he rest ef),(Yk aP pts ep1),(Yk aE eds ep0),(Y5 aI aE k)]):
 cm (vd W 4 3 2) 54 (⟨gH (pW W) (A aF) (A aI),none,none,(gB (i5 (pW W)) (A aF) 238,p2)::fD vC,none⟩) (p0) (aQ (gH (pW W) (A aF) (A aI))) [] hX (cO eX n tb gb) (m4 Z)=
ad (lE eX) (A n) gb (sl hX 0 2) (
(vR aI aE eds k)/\ad (lE eX) (A n) gb (sl hX 3 3) (
Z oY (Y2 n 2) (Y8 tb 0) true (ax ([(A aF,bP (pW W) aP aE uP uE uL uH pl he rest ef),(Yk aP pts ep1),(Yk aE eds ep0),(kc aI k)])))):=by
 subst hhX;subst heX
 kernel_rfl
abbrev df a b:=A (Nat.add a b)
abbrev Pl:=(gE [4,4,4000,4,4,4,40005,50006,5,60006,5,60006,5,6,6,8,50001,2,2,2,9,1000,40001,40010,50011,10,60011,10,60011,10,11,11,13,40001,3000])
noncomputable abbrev Dp:=(⟨147,20,147,26⟩:Pos)
section
variable(aT:Nat)(uP uE uL uH uA uU uX uY tl th ta0 tu0 ta tu:Tok)(pl he ac0 up0 ac up:Int)(vx vy:Value)(pts eds:Array Value)(ep0 ep1 k et:Nat)(fz:List dh)(ps:List cA)(s:Shared)(hit:eds[(Yh k).toNat]? =some (Yp aT))(hps:aw pts fz ps)(ha:Builtin.Int.intBits ac<=64)(hu:Builtin.Int.intBits up<=64)(hnb:∀q∈ps,¬(ac*(q.2-he)<up*(q.1-pl)))
include aT uP uE uL uH uA uU uX uY tl th ta0 tu0 ta tu pl he ac0 up0 ac up vx vy pts eds ep0 ep1 k et fz ps s hit hps ha hu hnb
theorem qd(hne:ps≠[])(hP:az (pW W) ([(A aF,bP (pW W) aP aE uP uE uL uH (b8 pl tl) (b8 he th) [] 4),(Yk aP pts ep1),(Yk aE eds ep0),(Y5 aI aE k),(fh aT ac ta up tu et)]) s)(hfz:cH fz ([(A aF,bP (pW W) aP aE uP uE uL uH (b8 pl tl) (b8 he th) [] 4),(Yk aP pts ep1),(Yk aE eds ep0),(Y5 aI aE k),(fh aT ac ta up tu et)]) s){Q:Prop}(kQ:∀(n tb:Nat) (s':Shared) (x0:FU) (tb0:Nat),Hn s n->Ht s tb->br (Yt W) (⟨gH (pW W) (A aF) (A aI),none,none,(gB (i5 (pW W)) (A aF) 238,p2)::fD vC,none⟩) p0 s s'->az (pW W) ([(A aF,bP (pW W) aP aE uP uE uL uH (.int (pl+ac) (TK tb0)) (.int (he+up) (Y8 tb0 1)) [aa (pW W) bp (TK tb) (b8 ac ta),aa (pW W) g4 (Y8 tb 1) (b8 up tu),aa (pW W) nX x0.uX x0.vx,aa (pW W) nY x0.uY x0.vy] 8),(Yk aP pts ep1),(Yk aE eds ep0),(lS aI aE k),(fh aT ac ta up tu et)]) s'->af ([(A aF,bP (pW W) aP aE uP uE uL uH (b8 pl tl) (b8 he th) [] 4),(Yk aP pts ep1),(Yk aE eds ep0),(Y5 aI aE k),(fh aT ac ta up tu et)]) s s'->Q):Q:=by
 obtain⟨n,tb,gb,hn,ht,hg⟩:=hP.nt
 have hE:= @rfl pQ fun W=>[(A aF,bP (pW W) aP aE uP uE uL uH (b8 pl tl) (b8 he th) [] 4),(Yk aP pts ep1),(Yk aE eds ep0),(Y5 aI aE k),(fh aT ac ta up tu et)]
 refine Fe hE hP hn ht hg (fun eX W Z hX=>cm (fg (Vw W) 5 [(bG 3 2 (Yp aT))] [] [km (Vw W) (⟨io (pW W) (A aF) (qS n 3),none,none,gV (pW W) (A aF) (A aI) Dp p2 vC,none⟩) ([(A aF,bP (pW W) aP aE uP uE uL uH (b8 pl tl) (b8 he th) [aa (pW W) bp (TK tb) (b8 ac ta),aa (pW W) g4 (Y8 tb 1) (b8 up tu)] 6),(Yk aP pts ep1),(df n 3,Yf aP)]) [0,1,8] 5 5 (oc W Dp p2 vC aF aP aE (bK n 3) (A aI) uP uE uL uH (TK tb) (Y8 tb 1) tl th ta tu pl he ac up pts ep1 fz ps) (fun _=>True)] [] fz) 203 (⟨gH (pW W) (A aF) (A aI),none,none,(gB (i5 (pW W)) (A aF) 238,p2)::fD vC,none⟩) (p0) (aQ (gH (pW W) (A aF) (A aI))) [] hX (cO eX n tb gb) (kZ [0,1,2,3,4] Z)) (fun eX W Z hX=>ad (lE eX) (A n) gb (sl hX 0 2) ((DP aI aE eds k aT)/\ad (lE eX) (A n) gb (sl hX 3 39) ((Rf (⟨io (pW W) (A aF) (qS n 3),none,none,gV (pW W) (A aF) (A aI) Dp p2 vC,none⟩:Ctx))/\(Rf (ax ([(A aF,bP (pW W) aP aE uP uE uL uH (b8 pl tl) (b8 he th) [aa (pW W) bp (TK tb) (b8 ac ta),aa (pW W) g4 (Y8 tb 1) (b8 up tu)] 6),(Yk aP pts ep1),(df n 3,Yf aP)])))/\Yc/\Yc/\∀(x0:FU) (n0 tb0 gb0:Nat),True->Yc/\ad [(A aF),(A aP),(A aE),(A aI),(A aT),(Y2 n 0),(Y2 n 1),(Y2 n 2),(Y2 n 3)] (A n0) gb0 (sl hX 43 35) (Z (.again (gH (pW W) (A aF) (A aI))) (Y2 n0 4) (Y8 tb0 4) true (ax ([(A aF,bP (pW W) aP aE uP uE uL uH (.int (pl+ac) (TK tb0)) (.int (he+up) (Y8 tb0 1)) [aa (pW W) bp (TK tb) (b8 ac ta),aa (pW W) g4 (Y8 tb 1) (b8 up tu),aa (pW W) nX x0.uX x0.vx,aa (pW W) nY x0.uY x0.vy] 8),(Yk aP pts ep1),(Yk aE eds ep0),(lS aI aE k),(fh aT ac ta up tu et)])))))) (fun _=>Pl) (iY (by kernel_rfl)) rfl ⟨fun _=>bi,trivial⟩ ⟨jc rfl (kk W Dp p2 vC aF aP aE (bK n 3) (A aI) uP uE uL uH (TK tb) (Y8 tb 1) tl th ta tu pl he ac up pts ep1 fz ps hps ha hu hnb hne),trivial⟩ rfl hfz fun hX=>?_
 refine rI (by first|exact⟨rfl,rfl,hit⟩|exact⟨rfl,rfl⟩|exact⟨rfl,rfl,rfl⟩|exact⟨rfl,⟨rfl,rfl,rfl⟩,⟨rfl,rfl,rfl⟩,rfl⟩) ?_
 refine ag ⟨rfl,rfl,rfl,rfl,fun x0 n0 tb0 gb0 hx0=>⟨rfl,?_⟩⟩ _
 exact rF fun s' r _ h3 h4 h5=>kQ n tb s' x0 tb0 hn ht (am rfl r) ⟨h4,ai h3,hP.nd,hP.lo⟩ h5
theorem qA(hP:az (pW W) ([(A aF,bP (pW W) aP aE uP uE uL uH (.int pl tl) (.int he th) [aa (pW W) bp uA (.int ac0 ta0),aa (pW W) g4 uU (.int up0 tu0),aa (pW W) nX uX vx,aa (pW W) nY uY vy] 8),(Yk aP pts ep1),(Yk aE eds ep0),(Y5 aI aE k),(fh aT ac ta up tu et)]) s)(hfz:cH fz ([(A aF,bP (pW W) aP aE uP uE uL uH (.int pl tl) (.int he th) [aa (pW W) bp uA (.int ac0 ta0),aa (pW W) g4 uU (.int up0 tu0),aa (pW W) nX uX vx,aa (pW W) nY uY vy] 8),(Yk aP pts ep1),(Yk aE eds ep0),(Y5 aI aE k),(fh aT ac ta up tu et)]) s){Q:Prop}(kQ:∀(n tb:Nat) (s':Shared) (x0:FU) (tb0:Nat),Hn s n->Ht s tb->br (Yt W) (⟨gH (pW W) (A aF) (A aI),none,none,(gB (i5 (pW W)) (A aF) 238,p2)::fD vC,none⟩) p0 s s'->az (pW W) ([(A aF,bP (pW W) aP aE uP uE uL uH (.int (pl+ac) (TK tb0)) (.int (he+up) (Y8 tb0 1)) [aa (pW W) bp uA (.int ac ta),aa (pW W) g4 uU (b8 up tu),aa (pW W) nX x0.uX x0.vx,aa (pW W) nY x0.uY x0.vy] 8),(Yk aP pts ep1),(Yk aE eds ep0),(lS aI aE k),(fh aT ac ta up tu et)]) s'->af ([(A aF,bP (pW W) aP aE uP uE uL uH (.int pl tl) (.int he th) [aa (pW W) bp uA (.int ac0 ta0),aa (pW W) g4 uU (.int up0 tu0),aa (pW W) nX uX vx,aa (pW W) nY uY vy] 8),(Yk aP pts ep1),(Yk aE eds ep0),(Y5 aI aE k),(fh aT ac ta up tu et)]) s s'->Q):Q:=by
 obtain⟨n,tb,gb,hn,ht,hg⟩:=hP.nt
 have hE:= @rfl pQ fun W=>[(A aF,bP (pW W) aP aE uP uE uL uH (.int pl tl) (.int he th) [aa (pW W) bp uA (.int ac0 ta0),aa (pW W) g4 uU (.int up0 tu0),aa (pW W) nX uX vx,aa (pW W) nY uY vy] 8),(Yk aP pts ep1),(Yk aE eds ep0),(Y5 aI aE k),(fh aT ac ta up tu et)]
 refine Fe hE hP hn ht hg (fun eX W Z hX=>cm (fg (Vw W) 5 [(bG 3 2 (Yp aT))] [] [km (Vw W) (⟨io (pW W) (A aF) (qS n 3),none,none,gV (pW W) (A aF) (A aI) Dp p2 vC,none⟩) ([(A aF,bP (pW W) aP aE uP uE uL uH (.int pl tl) (.int he th) [aa (pW W) bp uA (.int ac ta),aa (pW W) g4 uU (.int up tu),aa (pW W) nX uX vx,aa (pW W) nY uY vy] 8),(Yk aP pts ep1),(df n 3,Yf aP)]) [0,1,8] 5 5 (oc W Dp p2 vC aF aP aE (bK n 3) (A aI) uP uE uL uH uA uU tl th ta tu pl he ac up pts ep1 fz ps) (fun _=>True)] [] fz) 203 (⟨gH (pW W) (A aF) (A aI),none,none,(gB (i5 (pW W)) (A aF) 238,p2)::fD vC,none⟩) (p0) (aQ (gH (pW W) (A aF) (A aI))) [] hX (cO eX n tb gb) (kZ [0,1,2,3,4] Z)) (fun eX W Z hX=>ad (lE eX) (A n) gb (sl hX 0 2) ((DP aI aE eds k aT)/\ad (lE eX) (A n) gb (sl hX 3 39) ((Rf (⟨io (pW W) (A aF) (qS n 3),none,none,gV (pW W) (A aF) (A aI) Dp p2 vC,none⟩:Ctx))/\(Rf (ax ([(A aF,bP (pW W) aP aE uP uE uL uH (.int pl tl) (.int he th) [aa (pW W) bp uA (.int ac ta),aa (pW W) g4 uU (.int up tu),aa (pW W) nX uX vx,aa (pW W) nY uY vy] 8),(Yk aP pts ep1),(df n 3,Yf aP)])))/\Yc/\Yc/\∀(x0:FU) (n0 tb0 gb0:Nat),True->Yc/\ad [(A aF),(A aP),(A aE),(A aI),(A aT),(Y2 n 0),(Y2 n 1),(Y2 n 2),(Y2 n 3)] (A n0) gb0 (sl hX 43 35) (Z (.again (gH (pW W) (A aF) (A aI))) (Y2 n0 4) (Y8 tb0 4) true (ax ([(A aF,bP (pW W) aP aE uP uE uL uH (.int (pl+ac) (TK tb0)) (.int (he+up) (Y8 tb0 1)) [aa (pW W) bp uA (.int ac ta),aa (pW W) g4 uU (b8 up tu),aa (pW W) nX x0.uX x0.vx,aa (pW W) nY x0.uY x0.vy] 8),(Yk aP pts ep1),(Yk aE eds ep0),(lS aI aE k),(fh aT ac ta up tu et)])))))) (fun _=>Pl) (iY (by kernel_rfl)) rfl ⟨fun _=>bi,trivial⟩ ⟨jc rfl (kg W Dp p2 vC aF aP aE (bK n 3) (A aI) uP uE uL uH uA uU tl th ta tu pl he ac up pts ep1 fz ps hps ha hu hnb uX uY vx vy),trivial⟩ rfl hfz fun hX=>?_
 refine rI (by first|exact⟨rfl,rfl,hit⟩|exact⟨rfl,rfl⟩|exact⟨rfl,rfl,rfl⟩|exact⟨rfl,⟨rfl,rfl,rfl⟩,⟨rfl,rfl,rfl⟩,rfl⟩) ?_
 refine ag ⟨rfl,rfl,rfl,rfl,fun x0 n0 tb0 gb0 hx0=>⟨rfl,?_⟩⟩ _
 exact rF fun s' r _ h3 h4 h5=>kQ n tb s' x0 tb0 hn ht (am rfl r) ⟨h4,ai h3,hP.nd,hP.lo⟩ h5
end
theorem uC(uP uE uL uH:Tok)(pl he:Value)(rest:List DictEntry)(pts eds:Array Value)(ef ep0 ep1 k:Nat)(s:Shared)(hit:eds[(Yh k).toNat]? =none)(hP:az (pW W) ([(A aF,bP (pW W) aP aE uP uE uL uH pl he rest ef),(Yk aP pts ep1),(Yk aE eds ep0),(Y5 aI aE k)]) s){Q:Prop}(kQ:∀(n tb:Nat) (s':Shared),Hn s n->Ht s tb->Runs (Yt W) (⟨gH (pW W) (A aF) (A aI),none,none,(gB (i5 (pW W)) (A aF) 238,p2)::fD vC,none⟩) p0 ((Yt W).den (gH (pW W) (A aF) (A aI))) [] s fu s'->cN (pW W) s'->cI ([(A aF,bP (pW W) aP aE uP uE uL uH pl he rest ef),(Yk aP pts ep1),(Yk aE eds ep0),(kc aI k)]) s'.heap->af ([(A aF,bP (pW W) aP aE uP uE uL uH pl he rest ef),(Yk aP pts ep1),(Yk aE eds ep0),(Y5 aI aE k)]) s s'->Q):Q:=by
 obtain⟨n,hn⟩:=hP.size
 obtain⟨tb,ht⟩:=hP.toks
 generalize hg:s.gens.size=gb
 ·have H:=Eq.mpr (oN W p0 p2 vC aF aP aE aI uP uE uL uH pl he rest pts eds ef ep0 ep1 k n tb gb (fun ev nk tk fin l=>fin=true/\((ev=oY/\l=ax ([(A aF,bP (pW W) aP aE uP uE uL uH pl he rest ef),(Yk aP pts ep1),(Yk aE eds ep0),(kc aI k)]))/\677<=tk)) _ rfl _ rfl) (by
   refine rI (by first|exact⟨rfl,rfl,hit⟩|exact⟨rfl,rfl⟩|exact⟨rfl,rfl,rfl⟩|exact⟨rfl,⟨rfl,rfl,rfl⟩,⟨rfl,rfl,rfl⟩,rfl⟩) ?_
   exact ag ⟨rfl,⟨rfl,rfl⟩,eU⟩ _)
  obtain⟨ev,s',l,r,⟨⟨rfl,rfl⟩,htk⟩,h3,h4,h5⟩:=dw (is:=[0,1,2,3]) (by exact⟨fun _=>cg,trivial⟩) (by exact trivial) hP hn ht hg rfl (by rintro ev nk tk l ⟨⟨rfl,rfl⟩,h⟩;exact⟨rfl,h⟩) H
  exact kQ n tb s' hn ht (by rw [bI];exact r) h4 (ai h3) h5
end
structure I1 where
 tl:Tok
 th:Tok
 uA:Tok
 va:Value
 uU:Tok
 vu:Value
 uX:Tok
 vx:Value
 uY:Tok
 vy:Value
 k:Nat
noncomputable def gJ(a:Int):List (Int×Int)->Int
 |[]=>a
 |e::r=>gJ (a+e.1) r
noncomputable def gU(a:Int):List (Int×Int)->Int
 |[]=>a
 |e::r=>gU (a+e.2) r
def il(ps:List (Int×Int)):Int->Int->List (Int×Int)->Prop
 |_,_,[]=>True
 |pl,he,e::r=>(∀q∈ps,¬(e.1*(q.2-he)<e.2*(q.1-pl)))/\il ps (pl+e.1) (he+e.2) r
theorem pq{fz:List (Nat×Obj)}{E:ae}{s:Shared}{x:Nat×Obj}(h:cH fz E s)(g:∀y∈fz,y.1≠x.1):cH fz (E++[x]) s:=fun y hy=>by
 refine⟨(h y hy).1,fun hm=>?_⟩
 rw [map_append] at hm
 rcases List.mem_append.mp hm with hm|hm
 ·exact(h y hy).2 hm
 ·exact g y hy (List.mem_singleton.mp hm)
def og(es:List cA):Prop:=∀e∈es,Builtin.Int.intBits e.1<=64/\Builtin.Int.intBits e.2<=64
section
variable(W:WW)(p2:Pos)(vC:FC)(aF aP aE aI:Nat)(uP uE uL uH:Tok)(pts eds:Array Value)(ep0 ep1:Nat)(fzP fzE:List dh)(ps es:List cA)(hps:aw pts fzP ps)(hes:aw eds fzE es)(hdis:∀x∈fzP,∀y∈fzE,x.1≠y.1)(hb:og es)
include W p2 vC aF aP aE aI uP uE uL uH pts eds ep0 ep1 fzP fzE ps es hps hes hdis hb
theorem Ct:∀(rest:List cA) (k:Nat) (pl he ac up:Int) (tl th uA uU uX uY ta tu:Tok) (vx vy:Value) (p0:Pos) (s:Shared),es.drop k=rest->(∀e∈rest,e∈es)->il ps pl he rest->az (pW W) ([(A aF,bP (pW W) aP aE uP uE uL uH (.int pl tl) (.int he th) [aa (pW W) bp uA (.int ac ta),aa (pW W) g4 uU (.int up tu),aa (pW W) nX uX vx,aa (pW W) nY uY vy] 8),(Yk aP pts ep1),(Yk aE eds ep0),(Y5 aI aE k)]) s->cH fzP ([(A aF,bP (pW W) aP aE uP uE uL uH (.int pl tl) (.int he th) [aa (pW W) bp uA (.int ac ta),aa (pW W) g4 uU (.int up tu),aa (pW W) nX uX vx,aa (pW W) nY uY vy] 8),(Yk aP pts ep1),(Yk aE eds ep0),(Y5 aI aE k)]) s->cH fzE ([(A aF,bP (pW W) aP aE uP uE uL uH (.int pl tl) (.int he th) [aa (pW W) bp uA (.int ac ta),aa (pW W) g4 uU (.int up tu),aa (pW W) nX uX vx,aa (pW W) nY uY vy] 8),(Yk aP pts ep1),(Yk aE eds ep0),(Y5 aI aE k)]) s->
  ∀Q:Prop,(∀(s':Shared) (x:I1),Runs (Yt W) ⟨gH (pW W) (A aF) (A aI),none,none,(gB (i5 (pW W)) (A aF) 238,p2)::fD vC,none⟩ p0 ((Yt W).den (gH (pW W) (A aF) (A aI))) [] s fu s'->cN (pW W) s'->cI ([(A aF,bP (pW W) aP aE uP uE uL uH (.int (gJ pl (rest)) x.tl) (.int (gU he (rest)) x.th) [aa (pW W) bp x.uA x.va,aa (pW W) g4 x.uU x.vu,aa (pW W) nX x.uX x.vx,aa (pW W) nY x.uY x.vy] 8),(Yk aP pts ep1),(Yk aE eds ep0),(A aI,aK "list_iterator" [.none,.int (Int.ofNat x.k) 0])]) s'.heap->af ([(A aF,bP (pW W) aP aE uP uE uL uH (.int pl tl) (.int he th) [aa (pW W) bp uA (.int ac ta),aa (pW W) g4 uU (.int up tu),aa (pW W) nX uX vx,aa (pW W) nY uY vy] 8),(Yk aP pts ep1),(Yk aE eds ep0),(Y5 aI aE k)]) s s'->Q)->Q:=by
 intro rest0
 induction rest0 with
 |nil=>
  intro k pl he ac up tl th uA uU uX uY ta tu vx vy p0 s hd hm hn hP hf hg Q kQ
  apply uC (W:=W) (hit:=hes.none hd) (hP:=hP) (p0:=p0) (kQ:=?kz12) ..
  case' kz12=>intro n tb s' _ _ r h1 h2 h3
  exact kQ s' ⟨tl,th,uA,.int ac ta,uU,.int up tu,uX,vx,uY,vy,k⟩ r h1 h2 h3
 |cons q rest ih=>
  intro k pl he ac up tl th uA uU uX uY ta tu vx vy p0 s hd hm hn hP hf hg Q kQ
  obtain⟨hk,hd'⟩:=bw hd
  obtain⟨aT,tx,ty,et,hit,hx⟩:=hes.some hk
  have hP4:=hP.add hg hx (by show 245<=aT+245;lia)
  have hq:=hb q (hm q (mem_cons_self ..))
  have hf5:cH fzP ([(A aF,bP (pW W) aP aE uP uE uL uH (.int pl tl) (.int he th) [aa (pW W) bp uA (.int ac ta),aa (pW W) g4 uU (.int up tu),aa (pW W) nX uX vx,aa (pW W) nY uY vy] 8),(Yk aP pts ep1),(Yk aE eds ep0),(Y5 aI aE k)]++[(A aT,a9 [.int q.1 tx,.int q.2 ty] et)]) s:=pq hf fun x h=>hdis x h _ hx
  apply qA (W:=W) (hit:=hit) (hps:=hps) (ha:=hq.1) (hu:=hq.2) (hnb:=hn.1) (hP:=hP4) (hfz:=hf5) (p0:=p0) (kQ:=?k6) ..
  case' k6=>intro n tb s1 x0 tb0 _ _ H hP' K
  have K3:=af.cut (E:=[(A aF,bP (pW W) aP aE uP uE uL uH (.int pl tl) (.int he th) [aa (pW W) bp uA (.int ac ta),aa (pW W) g4 uU (.int up tu),aa (pW W) nX uX vx,aa (pW W) nY uY vy] 8),(Yk aP pts ep1),(Yk aE eds ep0),(Y5 aI aE k)]) (x:=(A aT,a9 [.int q.1 tx,.int q.2 ty] et)) K (hg _ hx).1 hP'.has.2.2.2.2.1
  obtain⟨p',H⟩:=H
  refine ih (k+1) (pl+q.1) (he+q.2) q.1 q.2 _ _ _ _ _ _ _ _ _ _ p' s1 hd' (fun e h=>hm e (mem_cons_of_mem _ h)) hn.2 (az.cut (x:=(A aT,a9 [.int q.1 tx,.int q.2 ty] et)) hP') (hf.keep K3 rfl) (hg.keep K3 rfl) _ fun s2 x r h1 h2 h3=>?_
  exact kQ s2 x (H _ _ r) h1 h2 (K3.trans (h3.cast rfl))
noncomputable def oq(W:WW)(p2:Pos)(vC:FC)(aF aP aE aI:Nat)(uP uE uL uH:Tok)(pts eds:Array Value)(ep0 ep1:Nat)(fzP fzE:List dh)(ps es:List cA)(pl he:Int)(x:I1):Result×List Obj×ae:=(m8,([(A aF,bP (pW W) aP aE uP uE uL uH (.int (gJ pl (es)) x.tl) (.int (gU he (es)) x.th) [aa (pW W) bp x.uA x.va,aa (pW W) g4 x.uU x.vu,aa (pW W) nX x.uX x.vx,aa (pW W) nY x.uY x.vy] 8),(Yk aP pts ep1),(Yk aE eds ep0),(A aI,aK "list_iterator" [.none,.int (Int.ofNat x.k) 0])]).map (·.2),[])
theorem wl(pl he:Int)(tl th:Tok)(hn:il ps pl he es)(hpn:ps≠[])(hen:es≠[]):
  bY (Vw W) ⟨gH (pW W) (A aF) (A aI),none,none,(gB (i5 (pW W)) (A aF) 238,p2)::fD vC,none⟩ ([(A aF,bP (pW W) aP aE uP uE uL uH (b8 pl tl) (b8 he th) [] 4),(Yk aP pts ep1),(Yk aE eds ep0),(A aI,Yf aE)]) (fzP++fzE) (oq W p2 vC aF aP aE aI uP uE uL uH pts eds ep0 ep1 fzP fzE ps es pl he) (fun _=>True):=by
 intro p0 s hP hfg
 have hf:cH fzP _ s:=fun x h=>hfg x (mem_append_left _ h)
 have hg:cH fzE _ s:=fun x h=>hfg x (mem_append_right _ h)
 refine gQ fun Q zQ=>?_
 obtain⟨q,rest,rfl⟩:∃q rest,es=q::rest:=by cases es with|nil=>exact(hen rfl).elim|cons q r=>exact⟨q,r,rfl⟩
 obtain⟨aT,tx,ty,et,hit,hx⟩:=hes.some (k:=0) rfl
 refine zQ ?_
 have hP4:=hP.add hg hx (by show 245<=aT+245;lia)
 have hq:=hb q (mem_cons_self ..)
 have hf5:cH fzP ([(A aF,bP (pW W) aP aE uP uE uL uH (b8 pl tl) (b8 he th) [] 4),(Yk aP pts ep1),(Yk aE eds ep0),(A aI,Yf aE)]++[(A aT,a9 [.int q.1 tx,.int q.2 ty] et)]) s:=pq hf fun x h=>hdis x h _ hx
 apply qd (W:=W) (hit:=hit) (hps:=hps) (ha:=hq.1) (hu:=hq.2) (hnb:=hn.1) (hne:=hpn) (hP:=hP4) (hfz:=hf5) (p0:=p0) (uA:=0) (uU:=0) (uX:=0) (uY:=0) (ta0:=0) (tu0:=0) (ac0:=0) (up0:=0) (vx:=.none) (vy:=.none) (kQ:=?k7) ..
 case' k7=>intro n tb s1 x0 tb0 _ _ H hP' K
 have K3:=af.cut (E:=[(A aF,bP (pW W) aP aE uP uE uL uH (b8 pl tl) (b8 he th) [] 4),(Yk aP pts ep1),(Yk aE eds ep0),(A aI,Yf aE)]) (x:=(A aT,a9 [.int q.1 tx,.int q.2 ty] et)) K (hg _ hx).1 hP'.has.2.2.2.2.1
 obtain⟨p',H⟩:=H
 refine Ct W p2 vC aF aP aE aI uP uE uL uH pts eds ep0 ep1 fzP fzE ps (q::rest) hps hes hdis hb rest 1 (pl+q.1) (he+q.2) q.1 q.2 _ _ _ _ _ _ _ _ _ _ p' s1 rfl (fun e h=>mem_cons_of_mem _ h) hn.2 (az.cut (x:=(A aT,a9 [.int q.1 tx,.int q.2 ty] et)) hP') (hf.keep K3 rfl) (hg.keep K3 rfl) _ fun s2 x r h1 h2 h3=>?_
 have h3:=K3.trans (h3.cast rfl)
 exact⟨x,s2,H _ _ r,h1,h3,h2,trivial,(fun y hy=>nomatch hy),nodup_nil,trivial⟩
end
noncomputable def nh(i j:Nat)(v:Bool):bF:=fun Γ c st=>Nx (st.T.get i) nO fun cl a b=>Nx (st.T.get j) nO fun cl' a' b'=>
  (c=.builtin "tuple.__eq__" ⟨[.ref (bm st.L st.n i),.ref (bm st.L st.n j)],[]⟩/\cl=.type "tuple"/\cl'=.type "tuple"/\((a==a')&&(b==b'))=v,ret (.bool v))
theorem oo{V:XV}{pr:Program}{w:World}{i j:Nat}{v:Bool}:bE V (model pr w) (nh i j v):=by
 refine dT fun hΓ R=>xY fZ fun cl dd a t b u n sl e1=>xY fZ fun cl' dd' a' t' b' u' n' sl' e2=>?_
 rintro⟨rfl,rfl,rfl,hv⟩ H
 obtain⟨rfl,rfl⟩:=fV H
 rw [bg PySem.F.entry_tuple_eq]
 refine bv (PySem.SeqAt.tuple_eqAt _ _ _ _ _ _ _ _ _ _ (fun k=>if k=0 then(a==a') else(b==b'))) (by rw [hΓ];rfl) ⟨jh R e1,jh R e2,fun k h1 h2=>?_,?_,rfl⟩
 ·rcases k with _|_|k
  ·exact(MeetsSeq.EqGives.int a a' t t').at _ _
  ·exact(MeetsSeq.EqGives.int b b' u u').at _ _
  ·exact absurd (Nat.lt_of_succ_lt_succ (Nat.lt_of_succ_lt_succ h1)) (Nat.not_lt_zero _)
 ·rw [<-hv]
  simp [range_succ]
theorem jN:∀{l:List Nat} {E:List Obj} {T:ae} {h:Heap},l.length=E.length->kf l E h->cI T h->kf (l++T.map (·.1)) (E++T.map (·.2)) h
 |[],[],[],_,_,_,_=>trivial
 |[],[],x::T,h,_,_,H=>⟨H.1,jN (l:=[]) (E:=[]) rfl trivial H.2⟩
 |a::l,o::E,T,h,e,H,G=>⟨H.1,jN (by simpa using e) H.2 G⟩
 |[],_::_,_,_,e,_,_=>by simp at e
 |_::_,[],_,_,e,_,_=>by simp at e
theorem j8{X:Type}{w':World}{G:Ctx}{E T:ae}{fz:List dh}{out:X->Result×List Obj×ae}{cond:X->Prop}(h:bY w' G E (fz++T) out cond)(hl:∀x,(out x).2.1.length=E.length):
  bY w' G (E++T) fz (fun x=>((out x).1,(out x).2.1++T.map (·.2),(out x).2.2)) cond:=by
 intro p s hP hf
 have hE:=cj.mp hP.has
 have nd:=hP.nd
 rw [map_append] at nd
 have nd:=List.nodup_append.mp nd
 have hT:∀x∈T,s.heap.get? x.1=some x.2:=by
  intro x hx
  obtain⟨i,hi⟩:=List.mem_iff_getElem?.mp hx
  exact hE.2.get hi
 refine gQ fun Q zQ=>?_
 obtain⟨x,s',r,rdy,K,has,hasN,newN,ndN,cx⟩:=h p s ⟨hP.rdy,hE.1,nd.1,fun a ha=>hP.lo a (by rw [map_append];exact mem_append_left _ ha)⟩ (by
  intro x hx
  rcases List.mem_append.mp hx with hx|hx
  ·exact⟨(hf x hx).1,fun hm=>(hf x hx).2 (by rw [map_append];exact mem_append_left _ hm)⟩
  ·exact⟨hT x hx,fun hm=>nd.2.2 _ hm _ (List.mem_map.mpr ⟨x,hx,rfl⟩) rfl⟩)
 refine zQ ?_
 have hT':cI T s'.heap:=by
  have:∀(T':ae),(∀x∈T',x∈T)->cI T' s'.heap:=by
   intro T'
   induction T' with
   |nil=>intro _;trivial
   |cons y T' ih=>intro hs;exact⟨K.keep _ _ (hT y (hs y (mem_cons_self ..))) (fun hm=>nd.2.2 _ hm _ (List.mem_map.mpr ⟨y,hs y (mem_cons_self ..),rfl⟩) rfl),ih fun x hx=>hs x (mem_cons_of_mem _ hx)⟩
  exact this T fun x hx=>hx
 refine⟨x,s',r,rdy,⟨fun b o e hb=>K.keep b o e fun hm=>hb (by rw [map_append];exact mem_append_left _ hm),K.drawn,K.os,K.size⟩,?_,hasN,newN,ndN,cx⟩
 rw [map_append]
 exact jN (by rw [length_map,hl x]) has hT'
theorem bY.mono{X:Type}{w':World}{G:Ctx}{E:ae}{fz fz':List (Nat×Obj)}{out:X->Result×List Obj×ae}{cond:X->Prop}(h:bY w' G E fz out cond)(hm:∀x∈fz,x∈fz'):bY w' G E fz' out cond:=
 fun p s hP hf=>h p s hP fun x hx=>hf x (hm x hx)
theorem Hj{α:Type}{l:Array α}{v:α}(h:l[0]? =some v):(seqIndex? 0 l.size).bind (fun j=>l[j]?)=some v:=by
 have hl:0<l.size:=by
  rcases Nat.eq_zero_or_pos l.size with e|e
  ·rw [Array.getElem?_eq_none (by lia)] at h;cases h
  ·exact e
 have:seqIndex? 0 l.size=some 0:=by
  unfold seqIndex?
  simp [hl]
 rw [this];exact h
theorem Ic{α:Type}{l:Array α}{v:α}(h:l[l.size-1]? =some v):(seqIndex? (-1) l.size).bind (fun j=>l[j]?)=some v:=by
 have hl:0<l.size:=by
  rcases Nat.eq_zero_or_pos l.size with e|e
  ·rw [Array.getElem?_eq_none (by lia)] at h;cases h
  ·exact e
 rw [seqIndex_neg (by lia) (by lia),show((-1:Int)+l.size).toNat=l.size-1 by lia]
 exact h
noncomputable abbrev Ib:=Int.negSucc 0
noncomputable abbrev G5:=(.ret (.ok (.ret (.bool true))):End)
abbrev NL a b c d e:=[(A a),(A b),(A c),(A d),(Y2 e 0),(Y2 e 1),(Y2 e 2),(Y2 e 3),(Y2 e 4)]
noncomputable abbrev GV:=(⟨146,22,146,26⟩:Pos)
theorem Ig(W:WW)(p0:Pos)(vC:FC)(aP aE aT aU:Nat)(tx ty tz tw:Tok)(pl he xl yl:Int)(pts eds:Array Value)(ep0 ep1 et eu:Nat)(fz fzP fzE:List dh)(ps es:List cA)(s:Shared)(h0:pts[0]? =some (Yp aT))(hl:pts[pts.size-1]? =some (Yp aU))(hps:aw pts fzP ps)(hes:aw eds fzE es)(hdis:∀x∈fzP,∀y∈fzE,x.1≠y.1)(hb:og es)(hnb:il ps pl he es)(hpn:ps≠[])(hen:es≠[])(hmem:∀x∈fzP++fzE,x∈fz++[(fh aT pl tx he ty et),(fh aU xl tz yl tw eu)])(hend:((gJ pl es==xl)&&(gU he es==yl))=true)(hP:az (pW W) ([(Yk aP pts ep1),(Yk aE eds ep0),(fh aT pl tx he ty et),(fh aU xl tz yl tw eu)]) s)(hfz:cH fz ([(Yk aP pts ep1),(Yk aE eds ep0),(fh aT pl tx he ty et),(fh aU xl tz yl tw eu)]) s){Q:Prop}(kQ:∀(n tb:Nat) (s':Shared),Hn s n->Ht s tb->Runs (Yt W) (⟨.call (.ref 238) ⟨[fC aP,fC aE],[]⟩,none,none,fD vC,none⟩) p0 ((Yt W).den (.call (.ref 238) ⟨[fC aP,fC aE],[]⟩)) [] s G5 s'->cN (pW W) s'->cI ([(Yk aP pts ep1),(Yk aE eds ep0),(fh aT pl tx he ty et),(fh aU xl tz yl tw eu)]) s'.heap->af ([(Yk aP pts ep1),(Yk aE eds ep0),(fh aT pl tx he ty et),(fh aU xl tz yl tw eu)]) s s'->Q):Q:=by
 obtain⟨n,tb,gb,hn,ht,hg⟩:=hP.nt
 have hE:= @rfl pQ fun W=>[(Yk aP pts ep1),(Yk aE eds ep0),(fh aT pl tx he ty et),(fh aU xl tz yl tw eu)]
 refine Fe hE hP hn ht hg (fun eX W Z hX=>cm (fg (Vw W) 4 [(co 0 (Yp aT)),(co 0 (Yp aU)),(nh 9 3 true)] [] [km (Vw W) (⟨gH (pW W) (A (cT n)) (qS n 4),none,none,(gB (i5 (pW W)) (A (cT n)) 238,GV)::fD vC,none⟩) ([(df n 0,bP (pW W) aP aE (TK tb) (Y8 tb 1) (Y8 tb 3) (Y8 tb 4) (b8 pl tx) (b8 he ty) [] 4),(Yk aP pts ep1),(Yk aE eds ep0),(df n 4,Yf aE)]++[(fh aT pl tx he ty et),(fh aU xl tz yl tw eu)]) [4,0,1,8,2,3] 4 4 (fun x:I1=>((oq W GV vC (cT n) aP aE (bK n 4) (TK tb) (Y8 tb 1) (Y8 tb 3) (Y8 tb 4) pts eds ep0 ep1 fzP fzE ps es pl he x).1,(oq W GV vC (cT n) aP aE (bK n 4) (TK tb) (Y8 tb 1) (Y8 tb 3) (Y8 tb 4) pts eds ep0 ep1 fzP fzE ps es pl he x).2.1++List.map (fun y=>y.2) ([(fh aT pl tx he ty et),(fh aU xl tz yl tw eu)]:ae),(oq W GV vC (cT n) aP aE (bK n 4) (TK tb) (Y8 tb 1) (Y8 tb 3) (Y8 tb 4) pts eds ep0 ep1 fzP fzE ps es pl he x).2.2)) (fun _=>True)] [] fz) 176 (⟨.call (.ref 238) ⟨[fC aP,fC aE],[]⟩,none,none,fD vC,none⟩) (p0) (aQ (.call (.ref 238) ⟨[fC aP,fC aE],[]⟩)) [] hX (cO eX n tb gb) (m4 Z)) (fun eX W Z hX=>ad (lE eX) (A n) gb (sl hX 0 12) (((Rf (.builtin "list.__getitem__" ⟨[(Yp aP),(.int Yx (Y8 tb 2))],[]⟩:Code))/\(Yc/\((((seqIndex? 0 pts.size).bind fun j=>pts[j]?):i8)=(some (Yp aT)))))/\ad (lE eX) (A n) gb (sl hX 13 36) ((Rf (⟨gH (pW W) (A (cT n)) (qS n 4),none,none,(gB (i5 (pW W)) (A (cT n)) 238,GV)::fD vC,none⟩:Ctx))/\(Rf (ax ([(df n 0,bP (pW W) aP aE (TK tb) (Y8 tb 1) (Y8 tb 3) (Y8 tb 4) (b8 pl tx) (b8 he ty) [] 4),(Yk aP pts ep1),(Yk aE eds ep0),(df n 4,Yf aE)]++[(fh aT pl tx he ty et),(fh aU xl tz yl tw eu)])))/\Yc/\Yc/\∀(x0:I1) (n0 tb0 gb0:Nat),True->Yc/\ad (NL aP aE aT aU n) (A n0) gb0 (sl hX 50 7) (((Rf (.builtin "list.__getitem__" ⟨[(Yp aP),(.int Ib (Y8 tb0 1))],[]⟩:Code))/\(Yc/\((((seqIndex? (-(Value.int 1 (TK tb0),1).snd) pts.size).bind fun j=>pts[j]?):i8)=(some (Yp aU)))))/\ad (NL aP aE aT aU n) (A n0) gb0 (sl hX 58 4) (((Rf (.builtin "tuple.__eq__" ⟨[(dY n0 0),(Yp aU)],[]⟩:Code))/\(HT/\(HT/\(((gJ pl es==xl&&gU he es==yl):(Bool))=(true)))))/\ad (NL aP aE aT aU n) (A n0) gb0 (sl hX 62 0) (Z (.fin G5) (Y2 n0 1) (Y8 tb0 2) true (ax ([(Yk aP pts ep1),(Yk aE eds ep0),(fh aT pl tx he ty et),(fh aU xl tz yl tw eu)])))))))) (fun _=>(gE [0,0,40005,0,5,40001,4000,40003,50006,3,60006,3,60006,3,6,6,8,50005,2,2,2,9,1000,5,5,5,40001,4001,10,4,10,10,4002])) (iY (by kernel_rfl)) rfl ⟨fun _=>bB,fun _=>bB,fun _=>oo,trivial⟩ ⟨jc rfl (j8 ((wl W GV vC (cT n) aP aE (bK n 4) (TK tb) (Y8 tb 1) (Y8 tb 3) (Y8 tb 4) pts eds ep0 ep1 fzP fzE ps es hps hes hdis hb pl he tx ty hnb hpn hen).mono hmem) (fun _=>rfl)),trivial⟩ rfl hfz fun hX=>?_
 refine rI (by first|exact⟨rfl,rfl,Hj h0⟩|exact⟨rfl,rfl,Ic hl⟩|exact⟨rfl,rfl,rfl,hend⟩|exact⟨rfl,rfl⟩|exact⟨rfl,rfl,rfl⟩|exact⟨rfl,⟨rfl,rfl,rfl⟩,⟨rfl,rfl,rfl⟩,rfl⟩) ?_
 refine ag ⟨rfl,rfl,rfl,rfl,fun x0 n0 tb0 gb0 hx0=>⟨rfl,?_⟩⟩ _
 iterate 2 refine rI (by first|exact⟨rfl,rfl,Hj h0⟩|exact⟨rfl,rfl,Ic hl⟩|exact⟨rfl,rfl,rfl,hend⟩|exact⟨rfl,rfl⟩|exact⟨rfl,rfl,rfl⟩|exact⟨rfl,⟨rfl,rfl,rfl⟩,⟨rfl,rfl,rfl⟩,rfl⟩) ?_
 exact rF fun s' r _ h3 h4 h5=>kQ n tb s' hn ht (by rw [bI];exact r) h4 (ai h3) h5
theorem B7(P:Params):jS P=.ListComp (Ab (jS P)) (xB (jS P)) (ix (jS P)) (Gq (jS P)):=by kernel_rfl
theorem sK(P:Params)(outer:Env)(L it acc:Addr):dl P outer L it acc=.compLoop (.ListComp (Ab (jS P)) (xB (jS P)) (ix (jS P)) (Gq (jS P))) 0 (.ref it) (.ref acc) (lG (jS P) outer L):=congrArg (fun e=>Code.compLoop e 0 (.ref it) (.ref acc) (lG (jS P) outer L)) (B7 P)
def cu(M:Model)(Γ:Ctx)(C:Code)(p:Pos)(s:Shared)(s':Shared):Prop:=∃p',∀e s'',Runs M (Γ.goto C) p' (M.den C) [] s' e s''->Runs M Γ p (M.den Γ.code) [] s e s''
theorem ch{w:World}{Γ:Ctx}{p s s'}{c:Code}(h:dA (model pw w) Γ p (aQ Γ.code) [] s (.again c) s'):cu (model pw w) Γ c p s s':=by
 rw [<-bI (w:=w)] at h
 obtain⟨_,_,p',f⟩:=h
 exact⟨p',f⟩
theorem rS{X:Type}{w':World}{Γ:Ctx}{C:Code}{E:ae}{fz:List dh}{out:X->Result×List Obj×ae}{cond:X->Prop}(h:bY w' (Γ.goto C) E fz out cond)
  (g:∀p s,az w'.params E s->∃s',cu (jA w') Γ C p s s'/\az w'.params E s'/\af E s s'):bY w' Γ E fz out cond:=by
 intro p s hP hf
 refine gQ fun Q zQ=>?_
 obtain⟨s1,⟨p',H⟩,hP',K⟩:=g p s hP
 obtain⟨x,s2,r,rdy,K2,has,hasN,newN,ndN,cx⟩:=h p' s1 hP' (hf.keep K rfl)
 refine zQ ?_
 exact⟨x,s2,H _ _ r,rdy,K.trans K2,has,hasN,(fun y hy=>Nat.le_trans K.size (newN y hy)),ndN,cx⟩
section
variable(W:WW)(p0:Pos)(vB:FB)(aF c1 c2 c3 c4 aL aI aW aC:Nat)
include W p0 vB aF c1 c2 c3 c4 aL aI aW aC
section
variable(aT:Nat)(uW tx ty:Tok)(vW:Value)(dx dy:Int)(ws hs:Array Value)(epw eph k et n tb gb:Nat)(Z:ZB)(hX:List Nat)(hhX:hX=[2,2,4000,2,2,1,1,0,1,0,1000,4,4001,4,3000])(eX:ae)
include aT uW tx ty vW dx dy ws hs epw eph k et n tb gb Z hX hhX eX
theorem kJ(heX:eX=[(A aL,ah "dict" [] 0),(A aI,aK "list_iterator" [.ref (A aW),.int (Int.ofNat k) 0]),(A aW,ab ws epw),(A aC,ab hs eph),(A aT,a9 [.int dx tx,.int dy ty] et)]):
 cm (ei (Vw W) 5 [(bG 1 2 (.ref (A aT))),(cf 3)] [] [km (Vw W) (⟨.call (.ref 226) ⟨[.ref (A aT)],[]⟩,none,none,(dl (pW W) (bh (ak (pW W)) (A aF) 231 [A c1,A c2,A c3,A c4]) (A aL) (A aI) (A aC),⟨138,16,138,29⟩)::[(.whileLoop vB.wt vB.wb vB.we vB.wenv,vB.p3),(.func vB.f1 vB.n1,vB.p4),(.forLoop vB.te vB.i1 vB.bo1 vB.e1 vB.n3,vB.p7),(.func vB.f2 vB.n4,vB.p5),(.builtin "claim.caller" {},vB.p6)],none⟩) ([(A aT,a9 [.int dx tx,.int dy ty] et)]) [4] 5 5 (fun x:cC=>((.ok (.ret (.float (bf dx dy) x.t)),[a9 [.int dx tx,.int dy ty] et],[]):Result×List Obj×ae)) (fun _=>True)] []) 69 (⟨dl (pW W) (bh (ak (pW W)) (A aF) 231 [A c1,A c2,A c3,A c4]) (A aL) (A aI) (A aC),none,none,[(.whileLoop vB.wt vB.wb vB.we vB.wenv,vB.p3),(.func vB.f1 vB.n1,vB.p4),(.forLoop vB.te vB.i1 vB.bo1 vB.e1 vB.n3,vB.p7),(.func vB.f2 vB.n4,vB.p5),(.builtin "claim.caller" {},vB.p6)],none⟩) (p0) (aQ (dl (pW W) (bh (ak (pW W)) (A aF) 231 [A c1,A c2,A c3,A c4]) (A aL) (A aI) (A aC))) [] hX (qU eX (A n) (TK tb) gb) (kZ [0,1,2,3,4] Z)=
ad (lE eX) (A n) gb (sl hX 0 2) (
((Rf (.builtin "list_iterator.__next__" ⟨[(.ref (A aI))],[]⟩:Code))/\((Rf (A aW:Addr))/\(((ws[(Int.ofNat k).toNat]?):(Option Value))=(some (.ref (A aT))))))/\ad (lE eX) (A n) gb (sl hX 3 7) (
(Rf (⟨.call (.ref 226) ⟨[.ref (A aT)],[]⟩,none,none,(dl (pW W) (bh (ak (pW W)) (A aF) 231 [A c1,A c2,A c3,A c4]) (A aL) (A aI) (A aC),⟨138,16,138,29⟩)::[(.whileLoop vB.wt vB.wb vB.we vB.wenv,vB.p3),(.func vB.f1 vB.n1,vB.p4),(.forLoop vB.te vB.i1 vB.bo1 vB.e1 vB.n3,vB.p7),(.func vB.f2 vB.n4,vB.p5),(.builtin "claim.caller" {},vB.p6)],none⟩:Ctx))/\(Rf (ax ([(A aT,a9 [.int dx tx,.int dy ty] et)])))/\(Rf (true:Bool))/\(Rf (true:Bool))/\∀(x0:cC) (n0 tb0 gb0:Nat),True->(Rf (true:Bool))/\ad [(A aL),(A aI),(A aW),(A aC),(A aT)] (A n0) gb0 (sl hX 11 1) (
((Rf (.builtin "list.append" ⟨[(.ref (A aC)),(.float (bf dx dy) x0.t)],[]⟩:Code))/\(((Rf (.type "list":Value))/\((Rf (none:Option Addr))/\(Rf ({toList:=[]}:Array (Option Value)))))/\(hs.size.le 1000)))/\ad [(A aL),(A aI),(A aW),(A aC),(A aT)] (A n0) gb0 (sl hX 13 1) (
Z (.again (dl (pW W) (bh (ak (pW W)) (A aF) 231 [A c1,A c2,A c3,A c4]) (A aL) (A aI) (A aC))) (Nat.add (A n0) 0) (Nat.add (TK tb0) 0) true (ax ([(A aL,ah "dict" [aa (pW W) [119,97,121] (TK tb) (.ref (A aT))] 1),(A aI,aK "list_iterator" [.ref (A aW),.int (Int.ofNat k+1) 0]),(A aW,ab ws epw),(A aC,Obj.mapSeq (·.push (.float (bf dx dy) x0.t)) (ab hs eph)),(A aT,a9 [.int dx tx,.int dy ty] et)])))))):=by
 subst hhX;subst heX
 kernel_rfl
theorem lk(heX:eX=[(A aL,ah "dict" [aa (pW W) [119,97,121] uW vW] 1),(A aI,aK "list_iterator" [.ref (A aW),.int (Int.ofNat k) 0]),(A aW,ab ws epw),(A aC,ab hs eph),(A aT,a9 [.int dx tx,.int dy ty] et)]):
 cm (ei (Vw W) 5 [(bG 1 2 (.ref (A aT))),(cf 3)] [] [km (Vw W) (⟨.call (.ref 226) ⟨[.ref (A aT)],[]⟩,none,none,(dl (pW W) (bh (ak (pW W)) (A aF) 231 [A c1,A c2,A c3,A c4]) (A aL) (A aI) (A aC),⟨138,16,138,29⟩)::[(.whileLoop vB.wt vB.wb vB.we vB.wenv,vB.p3),(.func vB.f1 vB.n1,vB.p4),(.forLoop vB.te vB.i1 vB.bo1 vB.e1 vB.n3,vB.p7),(.func vB.f2 vB.n4,vB.p5),(.builtin "claim.caller" {},vB.p6)],none⟩) ([(A aT,a9 [.int dx tx,.int dy ty] et)]) [4] 5 5 (fun x:cC=>((.ok (.ret (.float (bf dx dy) x.t)),[a9 [.int dx tx,.int dy ty] et],[]):Result×List Obj×ae)) (fun _=>True)] []) 69 (⟨dl (pW W) (bh (ak (pW W)) (A aF) 231 [A c1,A c2,A c3,A c4]) (A aL) (A aI) (A aC),none,none,[(.whileLoop vB.wt vB.wb vB.we vB.wenv,vB.p3),(.func vB.f1 vB.n1,vB.p4),(.forLoop vB.te vB.i1 vB.bo1 vB.e1 vB.n3,vB.p7),(.func vB.f2 vB.n4,vB.p5),(.builtin "claim.caller" {},vB.p6)],none⟩) (p0) (aQ (dl (pW W) (bh (ak (pW W)) (A aF) 231 [A c1,A c2,A c3,A c4]) (A aL) (A aI) (A aC))) [] hX (qU eX (A n) (TK tb) gb) (kZ [0,1,2,3,4] Z)=
ad (lE eX) (A n) gb (sl hX 0 2) (
((Rf (.builtin "list_iterator.__next__" ⟨[(.ref (A aI))],[]⟩:Code))/\((Rf (A aW:Addr))/\(((ws[(Int.ofNat k).toNat]?):(Option Value))=(some (.ref (A aT))))))/\ad (lE eX) (A n) gb (sl hX 3 7) (
(Rf (⟨.call (.ref 226) ⟨[.ref (A aT)],[]⟩,none,none,(dl (pW W) (bh (ak (pW W)) (A aF) 231 [A c1,A c2,A c3,A c4]) (A aL) (A aI) (A aC),⟨138,16,138,29⟩)::[(.whileLoop vB.wt vB.wb vB.we vB.wenv,vB.p3),(.func vB.f1 vB.n1,vB.p4),(.forLoop vB.te vB.i1 vB.bo1 vB.e1 vB.n3,vB.p7),(.func vB.f2 vB.n4,vB.p5),(.builtin "claim.caller" {},vB.p6)],none⟩:Ctx))/\(Rf (ax ([(A aT,a9 [.int dx tx,.int dy ty] et)])))/\(Rf (true:Bool))/\(Rf (true:Bool))/\∀(x0:cC) (n0 tb0 gb0:Nat),True->(Rf (true:Bool))/\ad [(A aL),(A aI),(A aW),(A aC),(A aT)] (A n0) gb0 (sl hX 11 1) (
((Rf (.builtin "list.append" ⟨[(.ref (A aC)),(.float (bf dx dy) x0.t)],[]⟩:Code))/\(((Rf (.type "list":Value))/\((Rf (none:Option Addr))/\(Rf ({toList:=[]}:Array (Option Value)))))/\(hs.size.le 1000)))/\ad [(A aL),(A aI),(A aW),(A aC),(A aT)] (A n0) gb0 (sl hX 13 1) (
Z (.again (dl (pW W) (bh (ak (pW W)) (A aF) 231 [A c1,A c2,A c3,A c4]) (A aL) (A aI) (A aC))) (Nat.add (A n0) 0) (Nat.add (TK tb0) 0) true (ax ([(A aL,ah "dict" [aa (pW W) [119,97,121] uW (.ref (A aT))] 1),(A aI,aK "list_iterator" [.ref (A aW),.int (Int.ofNat k+1) 0]),(A aW,ab ws epw),(A aC,Obj.mapSeq (·.push (.float (bf dx dy) x0.t)) (ab hs eph)),(A aT,a9 [.int dx tx,.int dy ty] et)])))))):=by
 subst hhX;subst heX
 kernel_rfl
end
noncomputable abbrev qp a:=[(Pi a),(.func a.f1 a.n1,a.p4),(Yz a),(.func a.f2 a.n4,a.p5),(Y7,a.p6)]
abbrev mh a b c:=(A a,ah "dict" b c)
abbrev iq a b c d:=[A a,A b,A c,A d]
abbrev GY a b c d e f g h i j k:=[(mh a b c),(kc d e),(Yk f g h),(Yk i j k)]
abbrev Dr a b c d e f g h i j k:=(GY a b c d e f g h i j k)
theorem nQ(loc:List DictEntry)(ws hs:Array Value)(el epw eph k:Nat)(n tb gb:Nat)(Z:ZB)(hX:List Nat)(hhX:hX=[2,2,4000,2,2,6])(eX:ae)(heX:eX=[(mh aL loc el),(Y5 aI aW k),(Yk aW ws epw),(Yk aC hs eph)]):
 cm (vd W 4 1 2) 53 (⟨dl (pW W) (bh (ak (pW W)) (A aF) 231 (iq c1 c2 c3 c4)) (A aL) (A aI) (A aC),none,none,(qp vB),none⟩) (p0) (aQ (dl (pW W) (bh (ak (pW W)) (A aF) 231 (iq c1 c2 c3 c4)) (A aL) (A aI) (A aC))) [] hX (cO eX n tb gb) (m4 Z)=
ad (lE eX) (A n) gb (sl hX 0 2) (
(vR aI aW ws k)/\ad (lE eX) (A n) gb (sl hX 3 3) (
Z oY (Y2 n 2) (Y8 tb 0) true (ax (Dr aL loc el aI k aW ws epw aC hs eph)))):=by
 subst hhX;subst heX
 kernel_rfl
section
variable(aT:Nat)(uW tx ty:Tok)(vW:Value)(dx dy:Int)(ws hs:Array Value)(epw eph k et:Nat)(s:Shared)(hit:ws[(Int.ofNat k).toNat]? =some (.ref (A aT)))(hr:eW dx dy)(hsz:hs.size<=1000)
include aT uW tx ty vW dx dy ws hs epw eph k et s hit hr hsz
theorem qt(hP:az (pW W) ([(A aL,ah "dict" [] 0),(A aI,aK "list_iterator" [.ref (A aW),.int (Int.ofNat k) 0]),(A aW,ab ws epw),(A aC,ab hs eph),(A aT,a9 [.int dx tx,.int dy ty] et)]) s){Q:Prop}(kQ:∀(n tb:Nat) (s':Shared) (x0:cC),Hn s n->Ht s tb->br (model pw (Vw W)) (⟨dl (pW W) (bh (ak (pW W)) (A aF) 231 [A c1,A c2,A c3,A c4]) (A aL) (A aI) (A aC),none,none,[(.whileLoop vB.wt vB.wb vB.we vB.wenv,vB.p3),(.func vB.f1 vB.n1,vB.p4),(.forLoop vB.te vB.i1 vB.bo1 vB.e1 vB.n3,vB.p7),(.func vB.f2 vB.n4,vB.p5),(.builtin "claim.caller" {},vB.p6)],none⟩) p0 s s'->az (pW W) ([(A aL,ah "dict" [aa (pW W) [119,97,121] (TK tb) (.ref (A aT))] 1),(A aI,aK "list_iterator" [.ref (A aW),.int (Int.ofNat k+1) 0]),(A aW,ab ws epw),(A aC,Obj.mapSeq (·.push (.float (bf dx dy) x0.t)) (ab hs eph)),(A aT,a9 [.int dx tx,.int dy ty] et)]) s'->af ([(A aL,ah "dict" [] 0),(A aI,aK "list_iterator" [.ref (A aW),.int (Int.ofNat k) 0]),(A aW,ab ws epw),(A aC,ab hs eph),(A aT,a9 [.int dx tx,.int dy ty] et)]) s s'->Q):Q:=by
 obtain⟨n,hn⟩:=hP.size
 obtain⟨tb,ht⟩:=hP.toks
 generalize hg:s.gens.size=gb
 ·have H:=Eq.mpr (kJ W p0 vB aF c1 c2 c3 c4 aL aI aW aC aT uW tx ty vW dx dy ws hs epw eph k et n tb gb (fun ev nk tk fin l=>fin=true/\((∃(x0:cC),(ev=(.again (dl (pW W) (bh (ak (pW W)) (A aF) 231 [A c1,A c2,A c3,A c4]) (A aL) (A aI) (A aC)))/\l=ax ([(A aL,ah "dict" [aa (pW W) [119,97,121] (TK tb) (.ref (A aT))] 1),(A aI,aK "list_iterator" [.ref (A aW),.int (Int.ofNat k+1) 0]),(A aW,ab ws epw),(A aC,Obj.mapSeq (·.push (.float (bf dx dy) x0.t)) (ab hs eph)),(A aT,a9 [.int dx tx,.int dy ty] et)])))/\677<=tk)) _ rfl _ rfl) (by
   refine rI (by first|exact⟨rfl,rfl,hit⟩|exact⟨rfl,⟨rfl,rfl,rfl⟩,hsz⟩|exact⟨rfl,rfl⟩|exact⟨rfl,rfl,rfl⟩|exact⟨rfl,⟨rfl,rfl,rfl⟩,⟨rfl,rfl,rfl⟩,rfl⟩) ?_
   refine ag ⟨rfl,rfl,rfl,rfl,fun x0 n0 tb0 gb0 hx0=>⟨rfl,?_⟩⟩ _
   refine rI (by first|exact⟨rfl,rfl,hit⟩|exact⟨rfl,⟨rfl,rfl,rfl⟩,hsz⟩|exact⟨rfl,rfl⟩|exact⟨rfl,rfl,rfl⟩|exact⟨rfl,⟨rfl,rfl,rfl⟩,⟨rfl,rfl,rfl⟩,rfl⟩) ?_
   exact ag ⟨rfl,⟨x0,rfl,rfl⟩,eU⟩ _)
  obtain⟨ev,s',l,r,⟨⟨x0,rfl,rfl⟩,htk⟩,h3,h4,h5⟩:=dw (is:=[0,1,2,3,4]) (by exact⟨fun _=>bi,fun _=>bx,trivial⟩) (by exact⟨jo rfl (by rw [sK];exact gC W _ _ _ _ _ _ _ _ ⟨⟨138,16,138,29⟩,vB.p3,vB.p4,vB.p5,vB.p6,vB.p7,vB.wt,vB.wb,vB.we,vB.wenv,vB.f1,vB.n1,vB.te,vB.i1,vB.bo1,vB.e1,vB.n3,vB.n4,vB.f2⟩ aT dx dy tx ty et hr),trivial⟩) hP hn ht hg rfl (by rintro ev nk tk l ⟨⟨x0,rfl,rfl⟩,h⟩;exact⟨rfl,h⟩) H
  exact kQ n tb s' x0 hn ht (am rfl r) ⟨h4,ai h3,hP.nd,hP.lo⟩ h5
theorem qk(hP:az (pW W) ([(A aL,ah "dict" [aa (pW W) [119,97,121] uW vW] 1),(A aI,aK "list_iterator" [.ref (A aW),.int (Int.ofNat k) 0]),(A aW,ab ws epw),(A aC,ab hs eph),(A aT,a9 [.int dx tx,.int dy ty] et)]) s){Q:Prop}(kQ:∀(n tb:Nat) (s':Shared) (x0:cC),Hn s n->Ht s tb->br (model pw (Vw W)) (⟨dl (pW W) (bh (ak (pW W)) (A aF) 231 [A c1,A c2,A c3,A c4]) (A aL) (A aI) (A aC),none,none,[(.whileLoop vB.wt vB.wb vB.we vB.wenv,vB.p3),(.func vB.f1 vB.n1,vB.p4),(.forLoop vB.te vB.i1 vB.bo1 vB.e1 vB.n3,vB.p7),(.func vB.f2 vB.n4,vB.p5),(.builtin "claim.caller" {},vB.p6)],none⟩) p0 s s'->az (pW W) ([(A aL,ah "dict" [aa (pW W) [119,97,121] uW (.ref (A aT))] 1),(A aI,aK "list_iterator" [.ref (A aW),.int (Int.ofNat k+1) 0]),(A aW,ab ws epw),(A aC,Obj.mapSeq (·.push (.float (bf dx dy) x0.t)) (ab hs eph)),(A aT,a9 [.int dx tx,.int dy ty] et)]) s'->af ([(A aL,ah "dict" [aa (pW W) [119,97,121] uW vW] 1),(A aI,aK "list_iterator" [.ref (A aW),.int (Int.ofNat k) 0]),(A aW,ab ws epw),(A aC,ab hs eph),(A aT,a9 [.int dx tx,.int dy ty] et)]) s s'->Q):Q:=by
 obtain⟨n,hn⟩:=hP.size
 obtain⟨tb,ht⟩:=hP.toks
 generalize hg:s.gens.size=gb
 ·have H:=Eq.mpr (lk W p0 vB aF c1 c2 c3 c4 aL aI aW aC aT uW tx ty vW dx dy ws hs epw eph k et n tb gb (fun ev nk tk fin l=>fin=true/\((∃(x0:cC),(ev=(.again (dl (pW W) (bh (ak (pW W)) (A aF) 231 [A c1,A c2,A c3,A c4]) (A aL) (A aI) (A aC)))/\l=ax ([(A aL,ah "dict" [aa (pW W) [119,97,121] uW (.ref (A aT))] 1),(A aI,aK "list_iterator" [.ref (A aW),.int (Int.ofNat k+1) 0]),(A aW,ab ws epw),(A aC,Obj.mapSeq (·.push (.float (bf dx dy) x0.t)) (ab hs eph)),(A aT,a9 [.int dx tx,.int dy ty] et)])))/\677<=tk)) _ rfl _ rfl) (by
   refine rI (by first|exact⟨rfl,rfl,hit⟩|exact⟨rfl,⟨rfl,rfl,rfl⟩,hsz⟩|exact⟨rfl,rfl⟩|exact⟨rfl,rfl,rfl⟩|exact⟨rfl,⟨rfl,rfl,rfl⟩,⟨rfl,rfl,rfl⟩,rfl⟩) ?_
   refine ag ⟨rfl,rfl,rfl,rfl,fun x0 n0 tb0 gb0 hx0=>⟨rfl,?_⟩⟩ _
   refine rI (by first|exact⟨rfl,rfl,hit⟩|exact⟨rfl,⟨rfl,rfl,rfl⟩,hsz⟩|exact⟨rfl,rfl⟩|exact⟨rfl,rfl,rfl⟩|exact⟨rfl,⟨rfl,rfl,rfl⟩,⟨rfl,rfl,rfl⟩,rfl⟩) ?_
   exact ag ⟨rfl,⟨x0,rfl,rfl⟩,eU⟩ _)
  obtain⟨ev,s',l,r,⟨⟨x0,rfl,rfl⟩,htk⟩,h3,h4,h5⟩:=dw (is:=[0,1,2,3,4]) (by exact⟨fun _=>bi,fun _=>bx,trivial⟩) (by exact⟨jo rfl (by rw [sK];exact gC W _ _ _ _ _ _ _ _ ⟨⟨138,16,138,29⟩,vB.p3,vB.p4,vB.p5,vB.p6,vB.p7,vB.wt,vB.wb,vB.we,vB.wenv,vB.f1,vB.n1,vB.te,vB.i1,vB.bo1,vB.e1,vB.n3,vB.n4,vB.f2⟩ aT dx dy tx ty et hr),trivial⟩) hP hn ht hg rfl (by rintro ev nk tk l ⟨⟨x0,rfl,rfl⟩,h⟩;exact⟨rfl,h⟩) H
  exact kQ n tb s' x0 hn ht (am rfl r) ⟨h4,ai h3,hP.nd,hP.lo⟩ h5
end
theorem vm(loc:List DictEntry)(ws hs:Array Value)(el epw eph k:Nat)(s:Shared)(hit:ws[(Yh k).toNat]? =none)(hP:az (pW W) ([(mh aL loc el),(Y5 aI aW k),(Yk aW ws epw),(Yk aC hs eph)]) s){Q:Prop}(kQ:∀(n tb:Nat) (s':Shared),Hn s n->Ht s tb->Runs (Yt W) (⟨dl (pW W) (bh (ak (pW W)) (A aF) 231 (iq c1 c2 c3 c4)) (A aL) (A aI) (A aC),none,none,(qp vB),none⟩) p0 ((Yt W).den (dl (pW W) (bh (ak (pW W)) (A aF) 231 (iq c1 c2 c3 c4)) (A aL) (A aI) (A aC))) [] s fu s'->cN (pW W) s'->cI (Dr aL loc el aI k aW ws epw aC hs eph) s'.heap->af ([(mh aL loc el),(Y5 aI aW k),(Yk aW ws epw),(Yk aC hs eph)]) s s'->Q):Q:=by
 obtain⟨n,hn⟩:=hP.size
 obtain⟨tb,ht⟩:=hP.toks
 generalize hg:s.gens.size=gb
 ·have H:=Eq.mpr (nQ W p0 vB aF c1 c2 c3 c4 aL aI aW aC loc ws hs el epw eph k n tb gb (fun ev nk tk fin l=>fin=true/\((ev=oY/\l=ax (Dr aL loc el aI k aW ws epw aC hs eph))/\677<=tk)) _ rfl _ rfl) (by
   refine rI (by first|exact⟨rfl,rfl,hit⟩|exact⟨rfl,rfl⟩|exact⟨rfl,rfl,rfl⟩|exact⟨rfl,⟨rfl,rfl,rfl⟩,⟨rfl,rfl,rfl⟩,rfl⟩) ?_
   exact ag ⟨rfl,⟨rfl,rfl⟩,eU⟩ _)
  obtain⟨ev,s',l,r,⟨⟨rfl,rfl⟩,htk⟩,h3,h4,h5⟩:=dw (is:=[0,1,2,3]) (by exact⟨fun _=>cg,trivial⟩) (by exact trivial) hP hn ht hg rfl (by rintro ev nk tk l ⟨⟨rfl,rfl⟩,h⟩;exact⟨rfl,h⟩) H
  exact kQ n tb s' hn ht (by rw [bI];exact r) h4 (ai h3) h5
end
structure xG where
 u:Tok
 v:Value
 hs:Array Value
 eph:Nat
 k:Nat
def bC(hs:Array Value)(ds:List cA):Prop:=hs.size=ds.length/\∀(i:Nat) (d:Int×Int),ds[i]? =some d->∃t,hs[i]? =some (.float (bf d.1 d.2) t)
theorem bC.push{hs:Array Value}{ds:List (Int×Int)}{d:Int×Int}{t:Tok}(h:bC hs ds):bC (hs.push (.float (bf d.1 d.2) t)) (ds++[d]):=by
 refine⟨by simp [h.1],fun i l e=>?_⟩
 by_cases q:i<ds.length
 ·rw [getElem?_append_left q] at e
  rw [getElem?_push,if_neg (by rw [h.1];lia)]
  exact h.2 i l e
 ·rw [getElem?_append_right (by lia)] at e
  have hl:=(List.getElem?_eq_some_iff.mp e).1
  have:i=ds.length:=by simp at hl;lia
  subst this
  simp at e
  rw [getElem?_push,if_pos (by rw [h.1])]
  exact⟨t,by rw [<-e]⟩
def ranged(ds:List cA):Prop:=∀d∈ds,eW d.1 d.2
theorem gj{α:Type}{ds:List α}{k:Nat}{q:α}(h:ds[k]? =some q):ds.take (k+1)=ds.take k++[q]:=by
 rw [List.take_add_one,h];rfl
section
variable(W:WW)(vB:FB)(aF c1 c2 c3 c4 aL aI aW aC:Nat)(ws:Array Value)(epw:Nat)(fz:List dh)(ds:List cA)(hws:aw ws fz ds)(hr:ranged ds)(hlen:ds.length<=100)
include W vB aF c1 c2 c3 c4 aL aI aW aC ws epw fz ds hws hr hlen
theorem zY:∀(rest:List cA) (k:Nat) (uW:Tok) (vW:Value) (hs:Array Value) (eph:Nat) (p0:Pos) (s:Shared),ds.drop k=rest->bC hs (ds.take k)->az (pW W) ([(A aL,ah "dict" [aa (pW W) [119,97,121] uW vW] 1),(Y5 aI aW k),(Yk aW ws epw),(Yk aC hs eph)]) s->cH fz ([(A aL,ah "dict" [aa (pW W) [119,97,121] uW vW] 1),(Y5 aI aW k),(Yk aW ws epw),(Yk aC hs eph)]) s->
  ∀Q:Prop,(∀(s':Shared) (x:xG),Runs (Yt W) ⟨dl (pW W) (bh (ak (pW W)) (A aF) 231 (iq c1 c2 c3 c4)) (A aL) (A aI) (A aC),none,none,(qp vB),none⟩ p0 ((Yt W).den (dl (pW W) (bh (ak (pW W)) (A aF) 231 (iq c1 c2 c3 c4)) (A aL) (A aI) (A aC))) [] s fu s'->cN (pW W) s'->cI ([(A aL,ah "dict" [aa (pW W) [119,97,121] x.u x.v] 1),(A aI,aK "list_iterator" [.none,.int (Int.ofNat x.k) 0]),(Yk aW ws epw),(A aC,ab x.hs x.eph)]) s'.heap->af ([(A aL,ah "dict" [aa (pW W) [119,97,121] uW vW] 1),(Y5 aI aW k),(Yk aW ws epw),(Yk aC hs eph)]) s s'->bC x.hs ds->Q)->Q:=by
 intro rest0
 induction rest0 with
 |nil=>
  intro k uW vW hs eph p0 s hd hh hP hf Q kQ
  apply vm (vB:=vB) (W:=W) (hit:=hws.none hd) (hP:=hP) (p0:=p0) (kQ:=?kz13) ..
  case' kz13=>intro n tb s' _ _ r h1 h2 h3
  exact kQ s' ⟨uW,vW,hs,eph,k⟩ r h1 h2 h3 (by rw [take_of_length_le (List.drop_eq_nil_iff.mp hd)] at hh;exact hh)
 |cons q rest ih=>
  intro k uW vW hs eph p0 s hd hh hP hf Q kQ
  obtain⟨hk,hd'⟩:=bw hd
  obtain⟨aT,tx,ty,et,hit,hx⟩:=hws.some hk
  have hP4:=hP.add hf hx (by show 245<=aT+245;lia)
  have hsz:hs.size<=1000:=by rw [hh.1,List.length_take];lia
  apply qk (vB:=vB) (W:=W) (hit:=hit) (hr:=hr q (mem_of_getElem? hk)) (hsz:=hsz) (hP:=hP4) (p0:=p0) (kQ:=?kz14) ..
  case' kz14=>intro n tb s1 x0 _ _ H hP' K
  have K3:=af.cut (E:=[(A aL,ah "dict" [aa (pW W) [119,97,121] uW vW] 1),(Y5 aI aW k),(Yk aW ws epw),(Yk aC hs eph)]) (x:=(A aT,a9 [.int q.1 tx,.int q.2 ty] et)) K (hf _ hx).1 hP'.has.2.2.2.2.1
  obtain⟨p',H⟩:=H
  refine ih (k+1) _ _ _ _ p' s1 hd' (by rw [gj hk];exact hh.push (t:=x0.t)) (az.cut (x:=(A aT,a9 [.int q.1 tx,.int q.2 ty] et)) hP') (hf.keep K3 rfl) _ fun s2 x r h1 h2 h3 h4=>?_
  exact kQ s2 x (H _ _ r) h1 h2 (K3.trans (h3.cast rfl)) h4
noncomputable def nU(W:WW)(vB:FB)(aF c1 c2 c3 c4:Nat)(aL aI aW aC:Nat)(ws:Array Value)(epw:Nat)(fz:List dh)(ds:List cA)(x:xG):Result×List Obj×ae:=(m8,([(A aL,ah "dict" [aa (pW W) [119,97,121] x.u x.v] 1),(A aI,aK "list_iterator" [.none,.int (Int.ofNat x.k) 0]),(Yk aW ws epw),(A aC,ab x.hs x.eph)]).map (·.2),[])
abbrev Y9 a b c d e f:=[(A a,ah "dict" [] 0),(A b,aK "list_iterator" [.ref (A c),.int (Int.ofNat 0) 0]),(A c,ab d e),(A f,ab ⟨[]⟩ 0)]
theorem uO(hne:ds≠[]):
  bY (Vw W) ⟨dl (pW W) (bh (ak (pW W)) (A aF) 231 (iq c1 c2 c3 c4)) (A aL) (A aI) (A aC),none,none,(qp vB),none⟩ ((Y9 aL aI aW ws epw aC)) fz (nU W vB aF c1 c2 c3 c4 aL aI aW aC ws epw fz ds) (fun x=>bC x.hs ds):=by
 intro p0 s hP hf
 refine gQ fun Q zQ=>?_
 obtain⟨q,rest,rfl⟩:∃q rest,ds=q::rest:=by cases ds with|nil=>exact(hne rfl).elim|cons q r=>exact⟨q,r,rfl⟩
 obtain⟨aT,tx,ty,et,hit,hx⟩:=hws.some (k:=0) rfl
 refine zQ ?_
 have hP4:=hP.add hf hx (by show 245<=aT+245;lia)
 apply qt (vB:=vB) (W:=W) (hit:=hit) (hr:=hr q (mem_cons_self ..)) (hsz:=by simp) (hP:=hP4) (p0:=p0) (uW:=0) (vW:=.none) (hs:=⟨[]⟩) (kQ:=?kz15) ..
 case' kz15=>intro n tb s1 x0 _ _ H hP' K
 have K3:=af.cut (E:=(Y9 aL aI aW ws epw aC)) (x:=(A aT,a9 [.int q.1 tx,.int q.2 ty] et)) K (hf _ hx).1 hP'.has.2.2.2.2.1
 obtain⟨p',H⟩:=H
 refine zY W vB aF c1 c2 c3 c4 aL aI aW aC ws epw fz (q::rest) hws hr hlen rest 1 _ _ _ _ p' s1 rfl (bC.push (ds:=[]) (t:=x0.t) ⟨rfl,fun i d e=>by simp at e⟩) (az.cut (x:=(A aT,a9 [.int q.1 tx,.int q.2 ty] et)) hP') (hf.keep K3 rfl) _ fun s2 x r h1 h2 h3 h4=>?_
 have h3:=K3.trans (h3.cast rfl)
 exact⟨x,s2,H _ _ r,h1,h3,⟨h2.1,h2.2.1,h2.2.2.1,h2.2.2.2.1,trivial⟩,trivial,(fun y hy=>nomatch hy),nodup_nil,h4⟩
end
noncomputable abbrev Ry(a:WW):=[]++(cond a.b2 [] [2,2,2,2])++[3000]
abbrev oZ a b:=ei (Vw a) b [] [] [] []
noncomputable abbrev zE:=fun W=>(Ry W)
abbrev zt a b:=sl a 0 (jw b 0 4)
theorem pT(W:WW)(p0:Pos)(vB:FB)(aF c1 c2 c3 c4:Nat)(aL aI aW aC:Nat)(ws:Array Value)(epw:Nat)(s:Shared)(hP:az (pW W) ((Y9 aL aI aW ws epw aC)) s){Q:Prop}(kQ:∀(n tb:Nat) (s':Shared),Hn s n->Ht s tb->cu (Yt W) (⟨ay (dl (pW W) (bh (ak (pW W)) (A aF) 231 (iq c1 c2 c3 c4)) (A aL) (A aI) (A aC)),none,none,(qp vB),none⟩) (dl (pW W) (bh (ak (pW W)) (A aF) 231 (iq c1 c2 c3 c4)) (A aL) (A aI) (A aC)) p0 s s'->az (pW W) ((Y9 aL aI aW ws epw aC)) s'->af ((Y9 aL aI aW ws epw aC)) s s'->Q):Q:=by
 obtain⟨n,tb,gb,hn,ht,hg⟩:=hP.nt
 have hE:= @rfl pQ fun W=>(Y9 aL aI aW ws epw aC)
 refine bT hE hP hn ht hg (fun eX W Z hX=>cm (oZ W 4) 52 (⟨ay (dl (pW W) (bh (ak (pW W)) (A aF) 231 (iq c1 c2 c3 c4)) (A aL) (A aI) (A aC)),none,none,(qp vB),none⟩) (p0) (aQ (ay (dl (pW W) (bh (ak (pW W)) (A aF) 231 (iq c1 c2 c3 c4)) (A aL) (A aI) (A aC)))) [] hX (cO eX n tb gb) (m4 Z)) (fun eX W Z hX=>ad (lE eX) (A n) gb (zt hX W) (Z (.again (dl (pW W) (bh (ak (pW W)) (A aF) 231 (iq c1 c2 c3 c4)) (A aL) (A aI) (A aC))) (Y2 n 0) (Y8 tb 0) true (ax ((Y9 aL aI aW ws epw aC))))) zE (pD (by kernel_rfl)) rfl trivial (by exact trivial) rfl fun hX=>?_
 exact rF fun s' r _ h3 h4 h5=>kQ n tb s' hn ht (ch r) ⟨h4,ai h3,hP.nd,hP.lo⟩ h5
theorem rX(W:WW)(vB:FB)(aF c1 c2 c3 c4:Nat)(aL aI aW aC:Nat)(ws:Array Value)(epw:Nat)(fz:List dh)(ds:List cA)(hws:aw ws fz ds)(hr:ranged ds)(hlen:ds.length<=100)(hne:ds≠[]):
  bY (Vw W) ⟨ay (dl (pW W) (bh (ak (pW W)) (A aF) 231 (iq c1 c2 c3 c4)) (A aL) (A aI) (A aC)),none,none,(qp vB),none⟩ ((Y9 aL aI aW ws epw aC)) fz (nU W vB aF c1 c2 c3 c4 aL aI aW aC ws epw fz ds) (fun x=>bC x.hs ds):=
 rS (C:=dl (pW W) (bh (ak (pW W)) (A aF) 231 (iq c1 c2 c3 c4)) (A aL) (A aI) (A aC)) (uO W vB aF c1 c2 c3 c4 aL aI aW aC ws epw fz ds hws hr hlen hne) fun p s hP=>by
  apply pT (vB:=vB) (W:=W) (p0:=p) (hP:=hP) (kQ:=?k8) ..
  case' k8=>intro n tb s' _ _ H hP' K
  exact⟨s',H,hP',K⟩
noncomputable abbrev Ym:=(.int (Int.ofNat 0) 0:Value)
abbrev ku a b:=(A a,aK "range_iterator" [Ye b,Ym,.int 1 0])
theorem oy(W:WW)(p0:Pos)(vB:FB)(aF c1 c2 c3 c4:Nat)(aL aI aC:Nat)(loc:List DictEntry)(el:Nat)(js:Array Value)(epj k:Nat)(o3 o4 oH:Obj)(aH:Nat)(n tb gb:Nat)(Z:ZB)(hX:List Nat)(hhX:hX=[2,2,2,2,2,8])(eX:ae)(heX:eX=[(mh aL loc el),(ku aI k),(Yk aC js epj),(A c3,o3),(A c4,o4),(A aH,oH)]):
 cm (oZ W 6) 55 (⟨eK (pW W) (bh (ak (pW W)) (A aF) 231 [A c1,A c2,A c3,A c4]) (A aL) (A aI) (A aC),none,none,(qp vB),none⟩) (p0) (aQ (eK (pW W) (bh (ak (pW W)) (A aF) 231 (iq c1 c2 c3 c4)) (A aL) (A aI) (A aC))) [] hX (cO eX n tb gb) (kZ [0,1,2,3,4,5] Z)=
ad (lE eX) (A n) gb (sl hX 0 6) (
Z oY (Y2 n 2) (Y8 tb 0) true (ax ([(mh aL loc el),(ku aI k),(Yk aC js epj),(A c3,o3),(A c4,o4),(A aH,oH)]))):=by
 subst hhX;subst heX
 kernel_rfl
abbrev Y6 a b:=((A a,⟨.type "cell",none,.cell (some (tJ b)),⟨[]⟩⟩):Nat×Obj)
noncomputable abbrev Yu:=(.type "cell":Value)
abbrev qQ a b c:=(A a,aK "range_iterator" [Ye b,.int (Int.ofNat (Nat.succ c)) 0,.int 1 0])
abbrev Ij a b c:=Rf (.builtin "list.__getitem__" ⟨[(Yp a),(.int (Yh b) (TK c))],[]⟩:Code)
abbrev rN a b c:=((A a,⟨Yu,none,.cell (some (.float b c)),⟨[]⟩⟩):Nat×Obj)
noncomputable abbrev ww:=Made.val (Value.bool true)
noncomputable abbrev Hf(a:Nat)(b:Array Value):=(seqIndex? (Yh a) b.size).bind fun j=>b[j]?
noncomputable abbrev jx:=(.int 1 0:Value)
abbrev ki a b:=(.int (Yh a) (TK b):Value)
noncomputable abbrev zD(a:Nat)(b:Array Value):=seqIndex? (Yh a) b.size
noncomputable abbrev oE a b:=(.float (a) b:Value)
noncomputable abbrev J8 a b c d:=(.builtin "float.__eq__" ⟨[(oE a b),(oE c d)],[]⟩:Code)
section
variable(W:WW)(b7:Bool)(p0:Pos)(vB:FB)(aF c1 c2 c3 c4 aL aI aC aH:Nat)(uJ th tl:Tok)(vJ:Value)(hf lf:UInt64)(hs js:Array Value)(eph epj k m:Nat)(s:Shared)(hit:(zD k hs).bind (fun j=>hs[j]?)=some (.float hf th))(hk:k<=1000)
include W b7 p0 vB aF c1 c2 c3 c4 aL aI aC aH uJ th tl vJ hf lf hs js eph epj k m s hit hk
theorem pu(heq:(Float64.cmp hf lf==some .eq)=true)(hsz:js.size<=1000)(hP:az (pW W) ([(A aL,ah "dict" (cond b7 [] [aa (pW W) [106] uJ vJ]) (cond b7 0 1)),(qQ aI k m),(Yk aC js epj),(Y6 c3 aH),(rN c4 lf tl),(Yk aH hs eph)]) s){Q:Prop}(kQ:∀(n tb:Nat) (s':Shared),Hn s n->Ht s tb->br (Yt W) (⟨eK (pW W) (bh (ak (pW W)) (A aF) 231 [A c1,A c2,A c3,A c4]) (A aL) (A aI) (A aC),none,none,(qp vB),none⟩) p0 s s'->az (pW W) ([(A aL,ah "dict" [aa (pW W) [106] (cond b7 (Y8 tb 1) uJ) (ki k tb)] 1),(A aI,aK "range_iterator" [.int (Int.ofNat k+Int.ofNat 1) 0,.int (Int.ofNat (Nat.succ m)-1) 0,jx]),(A aC,Obj.mapSeq (·.push (ki k tb)) (ab js epj)),(Y6 c3 aH),(rN c4 lf tl),(Yk aH hs eph)]) s'->af ([(A aL,ah "dict" (cond b7 [] [aa (pW W) [106] uJ vJ]) (cond b7 0 1)),(qQ aI k m),(Yk aC js epj),(Y6 c3 aH),(rN c4 lf tl),(Yk aH hs eph)]) s s'->Q):Q:=by
 obtain⟨n,tb,gb,hn,ht,hg⟩:=hP.nt
 have hE:= @rfl pQ fun W=>[(A aL,ah "dict" (cond b7 [] [aa (pW W) [106] uJ vJ]) (cond b7 0 1)),(qQ aI k m),(Yk aC js epj),(Y6 c3 aH),(rN c4 lf tl),(Yk aH hs eph)]
 refine bT hE hP hn ht hg (fun eX W Z hX=>cm (ei (Vw W) 6 [(co 5 (.float hf th)),pn,(cf 2)] [] [] []) 88 (⟨eK (pW W) (bh (ak (pW W)) (A aF) 231 [A c1,A c2,A c3,A c4]) (A aL) (A aI) (A aC),none,none,(qp vB),none⟩) (p0) (aQ (eK (pW W) (bh (ak (pW W)) (A aF) 231 (iq c1 c2 c3 c4)) (A aL) (A aI) (A aC))) [] hX (cO eX n tb gb) (kZ [0,1,2,3,4,5] Z)) (fun eX W Z hX=>ad (lE eX) (A n) gb (sl hX 0 17) (((Ij aH k tb)/\(bO (Yh k)/\(((Hf k hs):i8)=(some (oE hf th)))))/\ad (lE eX) (A n) gb (sl hX 18 1) ((av (J8 hf th lf tl) [] ww/\Yc)/\ad (lE eX) (A n) gb (sl hX 20 2) (((Rf (.builtin "list.append" ⟨[(Yp aC),(ki k tb)],[]⟩:Code))/\((Hd/\(OL/\(Rf ({toList:=[]}:Array i8))))/\(js.size.le 1000)))/\ad (lE eX) (A n) gb (sl hX 23 1) (Z (.again (eK (pW W) (bh (ak (pW W)) (A aF) 231 (iq c1 c2 c3 c4)) (A aL) (A aI) (A aC))) (Y2 n 0) (Y8 tb 2) true (ax ([(A aL,ah "dict" [aa (pW W) [106] (cond b7 (Y8 tb 1) uJ) (ki k tb)] 1),(A aI,aK "range_iterator" [.int (Int.ofNat k+Int.ofNat 1) 0,.int (Int.ofNat (Nat.succ m)-1) 0,jx]),(A aC,Obj.mapSeq (·.push (ki k tb)) (ab js epj)),(Y6 c3 aH),(rN c4 lf tl),(Yk aH hs eph)]))))))) (fun _=>(gE [90002,1,1,4,1,40006,4000,5,4001,1,3,4002,3,3000])) (by apply iW b7<;>exact iY (by kernel_rfl)) rfl ⟨fun _=>bB,fun _=>au,fun _=>bx,trivial⟩ trivial rfl fun hX=>?_
 iterate 3 refine rI (by first|exact⟨rfl,bZ hk,hit⟩|exact⟨ek heq,rfl⟩|exact⟨rfl,⟨rfl,rfl,rfl⟩,hsz⟩|exact⟨rfl,rfl⟩|exact⟨rfl,rfl,rfl⟩|exact⟨rfl,⟨rfl,rfl,rfl⟩,⟨rfl,rfl,rfl⟩,rfl⟩) ?_
 exact rF fun s' r _ h3 h4 h5=>kQ n tb s' hn ht (am rfl r) ⟨h4,ai h3,hP.nd,hP.lo⟩ h5
theorem pL(heq:(Float64.cmp hf lf==some .eq)=false)(hsz:js.size<=1000)(hP:az (pW W) ([(A aL,ah "dict" (cond b7 [] [aa (pW W) [106] uJ vJ]) (cond b7 0 1)),(qQ aI k m),(Yk aC js epj),(Y6 c3 aH),(rN c4 lf tl),(Yk aH hs eph)]) s){Q:Prop}(kQ:∀(n tb:Nat) (s':Shared),Hn s n->Ht s tb->br (Yt W) (⟨eK (pW W) (bh (ak (pW W)) (A aF) 231 [A c1,A c2,A c3,A c4]) (A aL) (A aI) (A aC),none,none,(qp vB),none⟩) p0 s s'->az (pW W) ([(A aL,ah "dict" [aa (pW W) [106] (cond b7 (Y8 tb 1) uJ) (ki k tb)] 1),(A aI,aK "range_iterator" [.int (Int.ofNat k+Int.ofNat 1) 0,.int (Int.ofNat (Nat.succ m)-1) 0,jx]),(Yk aC js epj),(Y6 c3 aH),(rN c4 lf tl),(Yk aH hs eph)]) s'->af ([(A aL,ah "dict" (cond b7 [] [aa (pW W) [106] uJ vJ]) (cond b7 0 1)),(qQ aI k m),(Yk aC js epj),(Y6 c3 aH),(rN c4 lf tl),(Yk aH hs eph)]) s s'->Q):Q:=by
 obtain⟨n,tb,gb,hn,ht,hg⟩:=hP.nt
 have hE:= @rfl pQ fun W=>[(A aL,ah "dict" (cond b7 [] [aa (pW W) [106] uJ vJ]) (cond b7 0 1)),(qQ aI k m),(Yk aC js epj),(Y6 c3 aH),(rN c4 lf tl),(Yk aH hs eph)]
 refine bT hE hP hn ht hg (fun eX W Z hX=>cm (ei (Vw W) 6 [(co 5 (.float hf th)),mx] [] [] []) 81 (⟨eK (pW W) (bh (ak (pW W)) (A aF) 231 [A c1,A c2,A c3,A c4]) (A aL) (A aI) (A aC),none,none,(qp vB),none⟩) (p0) (aQ (eK (pW W) (bh (ak (pW W)) (A aF) 231 (iq c1 c2 c3 c4)) (A aL) (A aI) (A aC))) [] hX (cO eX n tb gb) (kZ [0,1,2,3,4,5] Z)) (fun eX W Z hX=>ad (lE eX) (A n) gb (sl hX 0 17) (((Ij aH k tb)/\(bO (Yh k)/\(((Hf k hs):i8)=(some (oE hf th)))))/\ad (lE eX) (A n) gb (sl hX 18 1) ((av (J8 hf th lf tl) [] wu/\Yc)/\ad (lE eX) (A n) gb (sl hX 19 0) (Z (.again (eK (pW W) (bh (ak (pW W)) (A aF) 231 (iq c1 c2 c3 c4)) (A aL) (A aI) (A aC))) (Y2 n 0) (Y8 tb 2) true (ax ([(A aL,ah "dict" [aa (pW W) [106] (cond b7 (Y8 tb 1) uJ) (ki k tb)] 1),(A aI,aK "range_iterator" [.int (Int.ofNat k+Int.ofNat 1) 0,.int (Int.ofNat (Nat.succ m)-1) 0,jx]),(Yk aC js epj),(Y6 c3 aH),(rN c4 lf tl),(Yk aH hs eph)])))))) (fun _=>(gE [90002,1,1,4,1,40006,4000,5,4001,3000])) (by apply iW b7<;>exact iY (by kernel_rfl)) rfl ⟨fun _=>bB,fun _=>au,trivial⟩ trivial rfl fun hX=>?_
 iterate 2 refine rI (by first|exact⟨rfl,bZ hk,hit⟩|exact⟨ek heq,rfl⟩|exact⟨rfl,⟨rfl,rfl,rfl⟩,hsz⟩|exact⟨rfl,rfl⟩|exact⟨rfl,rfl,rfl⟩|exact⟨rfl,⟨rfl,rfl,rfl⟩,⟨rfl,rfl,rfl⟩,rfl⟩) ?_
 exact rF fun s' r _ h3 h4 h5=>kQ n tb s' hn ht (am rfl r) ⟨h4,ai h3,hP.nd,hP.lo⟩ h5
end
theorem wq(W:WW)(p0:Pos)(vB:FB)(aF c1 c2 c3 c4:Nat)(aL aI aC:Nat)(loc:List DictEntry)(el:Nat)(js:Array Value)(epj k:Nat)(o3 o4 oH:Obj)(aH:Nat)(s:Shared)(hP:az (pW W) ([(mh aL loc el),(ku aI k),(Yk aC js epj),(A c3,o3),(A c4,o4),(A aH,oH)]) s){Q:Prop}(kQ:∀(n tb:Nat) (s':Shared),Hn s n->Ht s tb->Runs (Yt W) (⟨eK (pW W) (bh (ak (pW W)) (A aF) 231 [A c1,A c2,A c3,A c4]) (A aL) (A aI) (A aC),none,none,(qp vB),none⟩) p0 ((Yt W).den (eK (pW W) (bh (ak (pW W)) (A aF) 231 (iq c1 c2 c3 c4)) (A aL) (A aI) (A aC))) [] s fu s'->cN (pW W) s'->cI ([(mh aL loc el),(ku aI k),(Yk aC js epj),(A c3,o3),(A c4,o4),(A aH,oH)]) s'.heap->af ([(mh aL loc el),(ku aI k),(Yk aC js epj),(A c3,o3),(A c4,o4),(A aH,oH)]) s s'->Q):Q:=by
 obtain⟨n,hn⟩:=hP.size
 obtain⟨tb,ht⟩:=hP.toks
 generalize hg:s.gens.size=gb
 ·have H:=Eq.mpr (oy W p0 vB aF c1 c2 c3 c4 aL aI aC loc el js epj k o3 o4 oH aH n tb gb (fun ev nk tk fin l=>fin=true/\((ev=oY/\l=ax ([(mh aL loc el),(ku aI k),(Yk aC js epj),(A c3,o3),(A c4,o4),(A aH,oH)]))/\677<=tk)) _ rfl _ rfl) (by
   exact ag ⟨rfl,⟨rfl,rfl⟩,eU⟩ _)
  obtain⟨ev,s',l,r,⟨⟨rfl,rfl⟩,htk⟩,h3,h4,h5⟩:=dw (is:=[0,1,2,3,4,5]) (by exact trivial) (by exact trivial) hP hn ht hg rfl (by rintro ev nk tk l ⟨⟨rfl,rfl⟩,h⟩;exact⟨rfl,h⟩) H
  exact kQ n tb s' hn ht (by rw [bI];exact r) h4 (ai h3) h5
structure CU where
 u:Tok
 v:Value
 js:Array Value
 epj:Nat
 k:Nat
def aZ(js:Array Value)(l:List Nat):Prop:=js.size=l.length/\∀(i j:Nat),l[i]? =some j->∃t,js[i]? =some (.int (Int.ofNat j) t)
theorem aZ.push{js:Array Value}{l:List Nat}{j:Nat}{t:Tok}(h:aZ js l):aZ (js.push (.int (Int.ofNat j) t)) (l++[j]):=by
 refine⟨by simp [h.1],fun i x e=>?_⟩
 by_cases q:i<l.length
 ·rw [getElem?_append_left q] at e
  rw [getElem?_push,if_neg (by rw [h.1];lia)]
  exact h.2 i x e
 ·rw [getElem?_append_right (by lia)] at e
  have hl:=(List.getElem?_eq_some_iff.mp e).1
  have:i=l.length:=by simp at hl;lia
  subst this
  simp at e
  rw [getElem?_push,if_pos (by rw [h.1])]
  exact⟨t,by rw [<-e]⟩
noncomputable def gP(ds:List (Int×Int))(lf:UInt64)(j:Nat):Bool:=match ds[j]? with
 |some d=>Float64.cmp (bf d.1 d.2) lf==some .eq
 |none=>false
noncomputable def ff(ds:List (Int×Int))(lf:UInt64)(k:Nat):List Nat:=(List.range k).filter (gP ds lf)
theorem g6(ds:List (Int×Int))(lf:UInt64)(k:Nat):ff ds lf (k+1)=if gP ds lf k then ff ds lf k++[k] else ff ds lf k:=by
 unfold ff
 rw [range_succ,List.filter_append]
 by_cases h:gP ds lf k=true
 ·simp [h]
 ·simp [h]
theorem fW{k n:Nat}(h:k<n):seqIndex? (Int.ofNat k) n=some k:=by
 unfold seqIndex?
 have h1:¬(Int.ofNat k<0):=by simp
 have h2:(0:Int)<=Int.ofNat k:=natCast_nonneg k
 have h3:Int.ofNat k<(n:Int):=by show(k:Int)<n;lia
 simp only [h1,if_false]
 rw [if_pos (by rw [Bool.and_eq_true];exact⟨decide_eq_true h2,decide_eq_true h3⟩)]
 rfl
theorem bC.at{hs:Array Value}{ds:List (Int×Int)}(h:bC hs ds){k:Nat}{d:Int×Int}(e:ds[k]? =some d):∃t,(seqIndex? (Int.ofNat k) hs.size).bind (fun j=>hs[j]?)=some (.float (bf d.1 d.2) t):=by
 obtain⟨t,ht⟩:=h.2 k d e
 have hk:=(List.getElem?_eq_some_iff.mp e).1
 exact⟨t,by rw [fW (by rw [h.1];exact hk)];exact ht⟩
abbrev C3 a b c:=(A a,aK "range_iterator" [Ye b,Ye c,jx])
abbrev Pc(a:CU):=aK "range_iterator" [.int (Int.ofNat a.k) 0,Ym,jx]
section
variable(W:WW)(vB:FB)(aF c1 c2 c3 c4 aL aI aC aH:Nat)(tl:Tok)(lf:UInt64)(hs:Array Value)(eph:Nat)
include W vB aF c1 c2 c3 c4 aL aI aC aH tl lf hs eph
theorem su(ds:List cA)(hh:bC hs ds)(hlen:ds.length<=100):∀(m k:Nat) (uJ:Tok) (vJ:Value) (js:Array Value) (epj:Nat) (p0:Pos) (s:Shared),k+m=ds.length->aZ js (ff ds lf k)->az (pW W) ([(A aL,ah "dict" [aa (pW W) [106] uJ vJ] 1),(C3 aI k m),(Yk aC js epj),(Y6 c3 aH),(rN c4 lf tl),(Yk aH hs eph)]) s->
  ∀Q:Prop,(∀(s':Shared) (x:CU),Runs (Yt W) ⟨eK (pW W) (bh (ak (pW W)) (A aF) 231 [A c1,A c2,A c3,A c4]) (A aL) (A aI) (A aC),none,none,(qp vB),none⟩ p0 ((Yt W).den (eK (pW W) (bh (ak (pW W)) (A aF) 231 (iq c1 c2 c3 c4)) (A aL) (A aI) (A aC))) [] s fu s'->cN (pW W) s'->cI ([(A aL,ah "dict" [aa (pW W) [106] x.u x.v] 1),(A aI,Pc x),(A aC,ab x.js x.epj),(Y6 c3 aH),(rN c4 lf tl),(Yk aH hs eph)]) s'.heap->af ([(A aL,ah "dict" [aa (pW W) [106] uJ vJ] 1),(C3 aI k m),(Yk aC js epj),(Y6 c3 aH),(rN c4 lf tl),(Yk aH hs eph)]) s s'->aZ x.js (ff ds lf ds.length)->Q)->Q:=by
 intro m0
 induction m0 with
 |zero=>
  intro k uJ vJ js epj p0 s hd hj hP Q kQ
  apply wq (vB:=vB) (W:=W) (hP:=hP) (p0:=p0) (kQ:=?kz16) ..
  case' kz16=>intro n tb s' _ _ r h1 h2 h3
  exact kQ s' ⟨uJ,vJ,js,epj,k⟩ r h1 h2 h3 (by rw [<-hd];exact hj)
 |succ m ih=>
  intro k uJ vJ js epj p0 s hd hj hP Q kQ
  obtain⟨d,hd1⟩:∃d,ds[k]? =some d:=⟨_,List.getElem?_eq_getElem (by lia)⟩
  obtain⟨th,hit⟩:=hh.at hd1
  have hsz:js.size<=1000:=by
   rw [hj.1]
   have:(ff ds lf k).length<=k:=by
    have:=List.length_filter_le (gP ds lf) (List.range k)
    rwa [length_range] at this
   lia
  have ee1:Int.ofNat (Nat.succ m)-1=Int.ofNat m:=by show((m+1:Nat):Int)-1=(m:Int);lia
  have ee2:Int.ofNat k+Int.ofNat 1=Int.ofNat (k+1):=rfl
  by_cases he:(Float64.cmp (bf d.1 d.2) lf==some .eq)=true
  ·apply pu (b7:=false) (vB:=vB) (W:=W) (hit:=hit) (hk:=by lia) (heq:=he) (hsz:=hsz) (hP:=hP) (p0:=p0) (kQ:=?k9) ..
   case' k9=>intro n tb s1 _ _ H hP' K
   rw [ee1,ee2] at hP'
   obtain⟨p',H⟩:=H
   refine ih (k+1) _ _ _ _ p' s1 (by lia) (by rw [g6,if_pos (by unfold gP;rw [hd1];exact he)];exact hj.push (t:=(TK tb))) hP' _ fun s2 x r h1 h2 h3 h4=>?_
   exact kQ s2 x (H _ _ r) h1 h2 (K.trans (h3.cast rfl)) h4
  ·have he:(Float64.cmp (bf d.1 d.2) lf==some .eq)=false:=by simpa using he
   apply pL (b7:=false) (vB:=vB) (W:=W) (hit:=hit) (hk:=by lia) (heq:=he) (hsz:=hsz) (hP:=hP) (p0:=p0) (kQ:=?k10) ..
   case' k10=>intro n tb s1 _ _ H hP' K
   rw [ee1,ee2] at hP'
   obtain⟨p',H⟩:=H
   refine ih (k+1) _ _ _ _ p' s1 (by lia) (by rw [g6,if_neg (by unfold gP;rw [hd1];simp [he])];exact hj) hP' _ fun s2 x r h1 h2 h3 h4=>?_
   exact kQ s2 x (H _ _ r) h1 h2 (K.trans (h3.cast rfl)) h4
noncomputable def rg(W:WW)(vB:FB)(aF c1 c2 c3 c4:Nat)(aL aI aC aH:Nat)(tl:Tok)(lf:UInt64)(hs:Array Value)(eph:Nat)(ds:List cA)(x:CU):Result×List Obj×ae:=(m8,([(A aL,ah "dict" [aa (pW W) [106] x.u x.v] 1),(A aI,Pc x),(A aC,ab x.js x.epj),(Y6 c3 aH),(rN c4 lf tl),(Yk aH hs eph)]).map (·.2),[])
theorem vv(ds:List (Int×Int))(hh:bC hs ds)(hlen:ds.length<=100)(hne:ds≠[]):cq (Vw W) ⟨eK (pW W) (bh (ak (pW W)) (A aF) 231 [A c1,A c2,A c3,A c4]) (A aL) (A aI) (A aC),none,none,[(.whileLoop vB.wt vB.wb vB.we vB.wenv,vB.p3),(.func vB.f1 vB.n1,vB.p4),(.forLoop vB.te vB.i1 vB.bo1 vB.e1 vB.n3,vB.p7),(.func vB.f2 vB.n4,vB.p5),(.builtin "claim.caller" {},vB.p6)],none⟩ ([(A aL,ah "dict" [] 0),(A aI,aK "range_iterator" [.int (Int.ofNat 0) 0,.int (Int.ofNat ds.length) 0,.int 1 0]),(A aC,ab ⟨[]⟩ 0),(A c3,⟨.type "cell",none,.cell (some (.ref (A aH))),⟨[]⟩⟩),(A c4,⟨.type "cell",none,.cell (some (.float lf tl)),⟨[]⟩⟩),(A aH,ab hs eph)]) (rg W vB aF c1 c2 c3 c4 aL aI aC aH tl lf hs eph ds) (fun x=>aZ x.js (ff ds lf ds.length)):=by
 intro p0 s hP
 obtain⟨m,hm⟩:∃m,ds.length=m+1:=by cases ds with|nil=>exact(hne rfl).elim|cons q r=>exact⟨r.length,rfl⟩
 rw [hm] at hP
 obtain⟨d,hd1⟩:∃d,ds[0]? =some d:=⟨_,List.getElem?_eq_getElem (by lia)⟩
 obtain⟨th,hit⟩:=hh.at hd1
 have ee1:Int.ofNat (Nat.succ m)-1=Int.ofNat m:=by show((m+1:Nat):Int)-1=(m:Int);lia
 have ee2:Int.ofNat 0+Int.ofNat 1=Int.ofNat 1:=rfl
 have z:aZ (⟨[]⟩:Array Value) []:=⟨rfl,fun i j e=>by simp at e⟩
 by_cases he:(Float64.cmp (bf d.1 d.2) lf==some .eq)=true
 ·apply pu (b7:=true) (vB:=vB) (W:=W) (hit:=hit) (hk:=by lia) (heq:=he) (hsz:=by simp) (hP:=hP) (p0:=p0) (uJ:=0) (vJ:=.none) (js:=⟨[]⟩) (kQ:=?k11) ..
  case' k11=>intro n tb s1 _ _ H hP' K
  rw [ee1,ee2] at hP'
  obtain⟨p',H⟩:=H
  refine su W vB aF c1 c2 c3 c4 aL aI aC aH tl lf hs eph ds hh hlen m 1 _ _ _ _ p' s1 (by lia) (by rw [g6,if_pos (by unfold gP;rw [hd1];exact he)];exact z.push (j:=0) (t:=(TK tb))) hP' _ fun s2 x r h1 h2 h3 h4=>?_
  have h3:=K.trans (h3.cast rfl)
  exact⟨x,s2,H _ _ r,h1,h3.cast rfl,⟨h2.1,h2.2.1,h2.2.2.1,h2.2.2.2.1,h2.2.2.2.2.1,h2.2.2.2.2.2.1,trivial⟩,trivial,(fun y hy=>nomatch hy),nodup_nil,h4⟩
 ·have he:(Float64.cmp (bf d.1 d.2) lf==some .eq)=false:=by simpa using he
  apply pL (b7:=true) (vB:=vB) (W:=W) (hit:=hit) (hk:=by lia) (heq:=he) (hsz:=by simp) (hP:=hP) (p0:=p0) (uJ:=0) (vJ:=.none) (js:=⟨[]⟩) (kQ:=?k12) ..
  case' k12=>intro n tb s1 _ _ H hP' K
  rw [ee1,ee2] at hP'
  obtain⟨p',H⟩:=H
  refine su W vB aF c1 c2 c3 c4 aL aI aC aH tl lf hs eph ds hh hlen m 1 _ _ _ _ p' s1 (by lia) (by rw [g6,if_neg (by unfold gP;rw [hd1];simp [he])];exact z) hP' _ fun s2 x r h1 h2 h3 h4=>?_
  have h3:=K.trans (h3.cast rfl)
  exact⟨x,s2,H _ _ r,h1,h3.cast rfl,⟨h2.1,h2.2.1,h2.2.2.1,h2.2.2.2.1,h2.2.2.2.2.1,h2.2.2.2.2.2.1,trivial⟩,trivial,(fun y hy=>nomatch hy),nodup_nil,h4⟩
end
abbrev eI:=ah "dict" [] 0
abbrev iz:=ab ⟨[]⟩ 0
abbrev xP a b:=(A a,aK "range_iterator" [Ym,Ye b,.int 1 0])
theorem pJ(W:WW)(p0:Pos)(vB:FB)(aF c1 c2 c3 c4:Nat)(aL aI aC:Nat)(m aH:Nat)(o3 o4 oH:Obj)(s:Shared)(hP:az (pW W) ([(A aL,eI),(xP aI m),(A aC,iz),(A c3,o3),(A c4,o4),(A aH,oH)]) s){Q:Prop}(kQ:∀(n tb:Nat) (s':Shared),Hn s n->Ht s tb->cu (Yt W) (⟨ay (eK (pW W) (bh (ak (pW W)) (A aF) 231 (iq c1 c2 c3 c4)) (A aL) (A aI) (A aC)),none,none,(qp vB),none⟩) (eK (pW W) (bh (ak (pW W)) (A aF) 231 (iq c1 c2 c3 c4)) (A aL) (A aI) (A aC)) p0 s s'->az (pW W) ([(A aL,eI),(xP aI m),(A aC,iz),(A c3,o3),(A c4,o4),(A aH,oH)]) s'->af ([(A aL,eI),(xP aI m),(A aC,iz),(A c3,o3),(A c4,o4),(A aH,oH)]) s s'->Q):Q:=by
 obtain⟨n,tb,gb,hn,ht,hg⟩:=hP.nt
 have hE:= @rfl pQ fun W=>[(A aL,eI),(xP aI m),(A aC,iz),(A c3,o3),(A c4,o4),(A aH,oH)]
 refine bT hE hP hn ht hg (fun eX W Z hX=>cm (oZ W 6) 52 (⟨ay (eK (pW W) (bh (ak (pW W)) (A aF) 231 (iq c1 c2 c3 c4)) (A aL) (A aI) (A aC)),none,none,(qp vB),none⟩) (p0) (aQ (ay (eK (pW W) (bh (ak (pW W)) (A aF) 231 (iq c1 c2 c3 c4)) (A aL) (A aI) (A aC)))) [] hX (cO eX n tb gb) (kZ [0,1,2,3,4,5] Z)) (fun eX W Z hX=>ad (lE eX) (A n) gb (zt hX W) (Z (.again (eK (pW W) (bh (ak (pW W)) (A aF) 231 (iq c1 c2 c3 c4)) (A aL) (A aI) (A aC))) (Y2 n 0) (Y8 tb 0) true (ax ([(A aL,eI),(xP aI m),(A aC,iz),(A c3,o3),(A c4,o4),(A aH,oH)])))) zE (pD (by kernel_rfl)) rfl trivial (by exact trivial) rfl fun hX=>?_
 exact rF fun s' r _ h3 h4 h5=>kQ n tb s' hn ht (ch r) ⟨h4,ai h3,hP.nd,hP.lo⟩ h5
theorem dU{X:Type}{w':World}{Γ:Ctx}{C:Code}{E:ae}{out:X->Result×List Obj×ae}{cond:X->Prop}(h:cq w' (Γ.goto C) E out cond)
  (g:∀p s,az w'.params E s->∃s',cu (jA w') Γ C p s s'/\az w'.params E s'/\af E s s'):cq w' Γ E out cond:=by
 intro p s hP
 refine gQ fun Q zQ=>?_
 obtain⟨s1,⟨p',H⟩,hP',K⟩:=g p s hP
 obtain⟨x,s2,r,rdy,K2,has,hasN,newN,ndN,cx⟩:=h p' s1 hP'
 refine zQ ?_
 exact⟨x,s2,H _ _ r,rdy,K.trans K2,has,hasN,(fun y hy=>Nat.le_trans K.size (newN y hy)),ndN,cx⟩
theorem r6(W:WW)(vB:FB)(aF c1 c2 c3 c4:Nat)(aL aI aC aH:Nat)(tl:Tok)(lf:UInt64)(hs:Array Value)(eph:Nat)(ds:List cA)(hh:bC hs ds)(hlen:ds.length<=100)(hne:ds≠[]):
  cq (Vw W) ⟨ay (eK (pW W) (bh (ak (pW W)) (A aF) 231 (iq c1 c2 c3 c4)) (A aL) (A aI) (A aC)),none,none,(qp vB),none⟩ ([(A aL,eI),(A aI,aK "range_iterator" [Ym,.int (Int.ofNat ds.length) 0,jx]),(A aC,iz),(Y6 c3 aH),(rN c4 lf tl),(Yk aH hs eph)]) (rg W vB aF c1 c2 c3 c4 aL aI aC aH tl lf hs eph ds) (fun x=>aZ x.js (ff ds lf ds.length)):=
 dU (C:=eK (pW W) (bh (ak (pW W)) (A aF) 231 (iq c1 c2 c3 c4)) (A aL) (A aI) (A aC)) (vv W vB aF c1 c2 c3 c4 aL aI aC aH tl lf hs eph ds hh hlen hne) fun p s hP=>by
  apply pJ (vB:=vB) (W:=W) (p0:=p) (hP:=hP) (kQ:=?k13) ..
  case' k13=>intro n tb s' _ _ H hP' K
  exact⟨s',H,hP',K⟩
theorem lZ{a b:Int}{t u:Tok}{v:Bool}{l}(h:decide (a>b)=v):av (.builtin "int.__gt__" ⟨[.int a t,.int b u],[]⟩) l (.val (.bool v)):=by
 subst h;exact av.mk PySem.F.entry_int_gt (gives_int_gt a b t u) trivial
theorem Np{P:Params}{aH n:Nat}{o o1 o2:Obj}{s:Shared}(h:az P [(A aH,o)] s)(hn:s.heap.objs.size=A n):(List.map (fun x=>x.1) ([(A aH,o),(A (Nat.add n 0),o1),(A (Nat.add n 1),o2)]:ae)).Nodup:=by
 have h1:A aH<s.heap.objs.size:=Heap.lt_size h.has.1
 rw [hn] at h1
 have h1:aH+245<n+245:=h1
 simp only [map_cons,map_nil,List.nodup_cons,List.mem_cons,List.not_mem_nil,or_false,not_or,nodup_nil,and_true,not_false_eq_true]
 refine⟨⟨fun e=>?_,fun e=>?_⟩,fun e=>?_⟩
 ·have e:aH+245=n+0+245:=e
  lia
 ·have e:aH+245=n+1+245:=e
  lia
 ·have e:n+0+245=n+1+245:=e
  lia
theorem NU{P:Params}{aH n:Nat}{o o1 o2:Obj}{s:Shared}(h:az P [(A aH,o)] s):∀a∈List.map (fun x=>x.1) ([(A aH,o),(A (Nat.add n 0),o1),(A (Nat.add n 1),o2)]:ae),(eG P).get a=none:=by
 intro a ha
 simp only [map_cons,map_nil,List.mem_cons,List.not_mem_nil,or_false] at ha
 rcases ha with rfl|rfl|rfl
 ·exact h.lo _ (by simp)
 ·exact jg (.inl (by show 244<=n+0+245;lia))
 ·exact jg (.inl (by show 244<=n+1+245;lia))
abbrev IP a b:=(⟨[fC a,.none,fC b],[]⟩:Args)
noncomputable abbrev yV a b:=(⟨[(.float a b),(.float a b)]⟩:Array Value)
abbrev Bs a b c:=(⟨.builtin "min.loop" (IP a b),none,none,c,none⟩:Ctx)
abbrev zA a b:=(.builtin "min.loop" (IP a b):Code)
abbrev wy a b:=(A a,ab ⟨[]⟩ b)
section
variable(W:WW)(p0:Pos)(bl:List nW)(aI aH aB:Nat)(hs:Array Value)(eph epb k:Nat)
include W p0 bl aI aH aB hs eph epb k
theorem ny(f g:UInt64)(tf tg:Tok)(n tb gb:Nat)(Z:ZB)(hX:List Nat)(hhX:hX=[3,1,1,4000,1,1,3,3,3,3000])(eX:ae)(heX:eX=[(Y5 aI aH k),(Yk aH hs eph),(wy aB epb)]):
 cm (ei (Vw W) 3 [(bG 0 1 (.float f tf))] [] [] []) 52 ((Bs aI aB bl)) (p0) (aQ (zA aI aB)) [] hX (cO eX n tb gb) (mb Z)=
ad (lE eX) (A n) gb (sl hX 0 3) (
((Yo aI)/\((zv aH)/\(((yY hs k):i8)=(some (oE f tf)))))/\ad (lE eX) (A n) gb (sl hX 4 5) (
Z (.again (zA aI aB)) (Y2 n 0) (Y8 tb 0) true (ax ([(lS aI aH k),(Yk aH hs eph),(A aB,Obj.mapSeq (fun _=>(yV f tf)) (ab ⟨[]⟩ epb))])))):=by
 subst hhX;subst heX
 kernel_rfl
abbrev zR a b c d e f g h i:=[(Y5 a b c),(Yk b d e),(A f,ab (yV g h) i)]
theorem r9(f g:UInt64)(tf tg:Tok)(n tb gb:Nat)(Z:ZB)(hX:List Nat)(hhX:hX=[3,1,1,4000,1,1,5,3,3,3])(eX:ae)(heX:eX=(zR aI aH k hs eph aB g tg epb)):
 cm (vd W 3 0 1) 57 ((Bs aI aB bl)) (p0) (aQ (zA aI aB)) [] hX (cO eX n tb gb) (mb Z)=
ad (lE eX) (A n) gb (sl hX 0 3) (
(vR aI aH hs k)/\ad (lE eX) (A n) gb (sl hX 4 6) (
Z (.fin (.ret (.ok (.ret (.float g tg))))) (Y2 n 2) (Y8 tb 0) true (ax ([(kc aI k),(Yk aH hs eph),(A aB,Obj.mapSeq (fun _=>⟨[]⟩) (ab (yV g tg) epb))])))):=by
 subst hhX;subst heX
 kernel_rfl
abbrev Gg a b c:=(⟨.builtin "max.loop" (IP a b),none,none,c,none⟩:Ctx)
noncomputable abbrev sn a b:=(⟨[(b8 a b),(b8 a b)]⟩:Array Value)
abbrev DE a b:=(.builtin "max.loop" (IP a b):Code)
theorem oG(f g:Int)(tf tg:Tok)(n tb gb:Nat)(Z:ZB)(hX:List Nat)(hhX:hX=[3,1,1,4000,1,1,3,3,3,3000])(eX:ae)(heX:eX=[(Y5 aI aH k),(Yk aH hs eph),(wy aB epb)]):
 cm (ei (Vw W) 3 [(bG 0 1 (b8 f tf))] [] [] []) 52 ((Gg aI aB bl)) (p0) (aQ (DE aI aB)) [] hX (cO eX n tb gb) (mb Z)=
ad (lE eX) (A n) gb (sl hX 0 3) (
((Yo aI)/\((zv aH)/\(((yY hs k):i8)=(some (iU f tf)))))/\ad (lE eX) (A n) gb (sl hX 4 5) (
Z (.again (DE aI aB)) (Y2 n 0) (Y8 tb 0) true (ax ([(lS aI aH k),(Yk aH hs eph),(A aB,Obj.mapSeq (fun _=>(sn f tf)) (ab ⟨[]⟩ epb))])))):=by
 subst hhX;subst heX
 kernel_rfl
theorem rW(f g:Int)(tf tg:Tok)(n tb gb:Nat)(Z:ZB)(hX:List Nat)(hhX:hX=[3,1,1,4000,1,1,5,3,3,3])(eX:ae)(heX:eX=[(Y5 aI aH k),(Yk aH hs eph),(A aB,ab (sn g tg) epb)]):
 cm (vd W 3 0 1) 57 ((Gg aI aB bl)) (p0) (aQ (DE aI aB)) [] hX (cO eX n tb gb) (mb Z)=
ad (lE eX) (A n) gb (sl hX 0 3) (
(vR aI aH hs k)/\ad (lE eX) (A n) gb (sl hX 4 6) (
Z (.fin (.ret (.ok (.ret (b8 g tg))))) (Y2 n 2) (Y8 tb 0) true (ax ([(kc aI k),(Yk aH hs eph),(A aB,Obj.mapSeq (fun _=>⟨[]⟩) (ab (sn g tg) epb))])))):=by
 subst hhX;subst heX
 kernel_rfl
section
variable(f g:UInt64)(tf tg:Tok)(s:Shared)(hit:hs[(Yh k).toNat]? =some (.float f tf))
include f g tf tg s hit
theorem uK(hP:az (pW W) ([(Y5 aI aH k),(Yk aH hs eph),(wy aB epb)]) s){Q:Prop}(kQ:∀(n tb:Nat) (s':Shared),Hn s n->Ht s tb->br (Yt W) ((Bs aI aB bl)) p0 s s'->az (pW W) ([(lS aI aH k),(Yk aH hs eph),(A aB,Obj.mapSeq (fun _=>(yV f tf)) (ab ⟨[]⟩ epb))]) s'->af ([(Y5 aI aH k),(Yk aH hs eph),(wy aB epb)]) s s'->Q):Q:=by
 obtain⟨n,hn⟩:=hP.size
 obtain⟨tb,ht⟩:=hP.toks
 generalize hg:s.gens.size=gb
 ·have H:=Eq.mpr (ny W p0 bl aI aH aB hs eph epb k f g tf tg n tb gb (fun ev nk tk fin l=>fin=true/\((ev=(.again (zA aI aB))/\l=ax ([(lS aI aH k),(Yk aH hs eph),(A aB,Obj.mapSeq (fun _=>(yV f tf)) (ab ⟨[]⟩ epb))]))/\677<=tk)) _ rfl _ rfl) (by
   refine rI (by first|exact⟨rfl,rfl,hit⟩|exact⟨rfl,rfl⟩|exact⟨rfl,rfl,rfl⟩|exact⟨rfl,⟨rfl,rfl,rfl⟩,⟨rfl,rfl,rfl⟩,rfl⟩) ?_
   exact ag ⟨rfl,⟨rfl,rfl⟩,eU⟩ _)
  obtain⟨ev,s',l,r,⟨⟨rfl,rfl⟩,htk⟩,h3,h4,h5⟩:=dw (is:=[0,1,2]) (by exact⟨fun _=>bi,trivial⟩) (by exact trivial) hP hn ht hg rfl (by rintro ev nk tk l ⟨⟨rfl,rfl⟩,h⟩;exact⟨rfl,h⟩) H
  exact kQ n tb s' hn ht (am rfl r) ⟨h4,ai h3,hP.nd,hP.lo⟩ h5
theorem pg(hc:(Float64.cmp f g==some .lt)=true)(hP:az (pW W) ((zR aI aH k hs eph aB g tg epb)) s){Q:Prop}(kQ:∀(n tb:Nat) (s':Shared),Hn s n->Ht s tb->br (Yt W) ((Bs aI aB bl)) p0 s s'->az (pW W) ([(lS aI aH k),(Yk aH hs eph),(A aB,ab (yV f tf) epb)]) s'->af ((zR aI aH k hs eph aB g tg epb)) s s'->Q):Q:=by
 obtain⟨n,tb,gb,hn,ht,hg⟩:=hP.nt
 have hE:= @rfl pQ fun W=>(zR aI aH k hs eph aB g tg epb)
 refine bT hE hP hn ht hg (fun eX W Z hX=>cm (ei (Vw W) 3 [(bG 0 1 (.float f tf)),pn] [] [] []) 59 ((Bs aI aB bl)) (p0) (aQ (zA aI aB)) [] hX (cO eX n tb gb) (mb Z)) (fun eX W Z hX=>ad (lE eX) (A n) gb (sl hX 0 3) (((Yo aI)/\((zv aH)/\(((yY hs k):i8)=(some (oE f tf)))))/\ad (lE eX) (A n) gb (sl hX 4 2) ((av (.builtin "float.__lt__" ⟨[(oE f tf),(oE g tg)],[]⟩) [] ww/\Yc)/\ad (lE eX) (A n) gb (sl hX 7 3) (Z (.again (zA aI aB)) (Y2 n 0) (Y8 tb 0) true (ax ([(lS aI aH k),(Yk aH hs eph),(A aB,ab (yV f tf) epb)])))))) (fun _=>[3,1,1,4000,1,1,4001,3,3,3,3000]) (iY (by kernel_rfl)) rfl ⟨fun _=>bi,fun _=>au,trivial⟩ trivial rfl fun hX=>?_
 iterate 2 refine rI (by first|exact⟨rfl,rfl,hit⟩|exact⟨fN hc,rfl⟩|exact⟨rfl,rfl⟩|exact⟨rfl,rfl,rfl⟩|exact⟨rfl,⟨rfl,rfl,rfl⟩,⟨rfl,rfl,rfl⟩,rfl⟩) ?_
 exact rF fun s' r _ h3 h4 h5=>kQ n tb s' hn ht (am rfl r) ⟨h4,ai h3,hP.nd,hP.lo⟩ h5
theorem qe(hc:(Float64.cmp f g==some .lt)=false)(hP:az (pW W) ((zR aI aH k hs eph aB g tg epb)) s){Q:Prop}(kQ:∀(n tb:Nat) (s':Shared),Hn s n->Ht s tb->br (Yt W) ((Bs aI aB bl)) p0 s s'->az (pW W) ([(lS aI aH k),(Yk aH hs eph),(A aB,ab (yV g tg) epb)]) s'->af ((zR aI aH k hs eph aB g tg epb)) s s'->Q):Q:=by
 obtain⟨n,tb,gb,hn,ht,hg⟩:=hP.nt
 have hE:= @rfl pQ fun W=>(zR aI aH k hs eph aB g tg epb)
 refine bT hE hP hn ht hg (fun eX W Z hX=>cm (ei (Vw W) 3 [(bG 0 1 (.float f tf)),mx] [] [] []) 56 ((Bs aI aB bl)) (p0) (aQ (zA aI aB)) [] hX (cO eX n tb gb) (mb Z)) (fun eX W Z hX=>ad (lE eX) (A n) gb (sl hX 0 3) (((Yo aI)/\((zv aH)/\(((yY hs k):i8)=(some (oE f tf)))))/\ad (lE eX) (A n) gb (sl hX 4 2) ((av (.builtin "float.__lt__" ⟨[(oE f tf),(oE g tg)],[]⟩) [] wu/\Yc)/\ad (lE eX) (A n) gb (sl hX 6 0) (Z (.again (zA aI aB)) (Y2 n 0) (Y8 tb 0) true (ax ([(lS aI aH k),(Yk aH hs eph),(A aB,ab (yV g tg) epb)])))))) (fun _=>[3,1,1,4000,1,1,4001,3000]) (iY (by kernel_rfl)) rfl ⟨fun _=>bi,fun _=>au,trivial⟩ trivial rfl fun hX=>?_
 iterate 2 refine rI (by first|exact⟨rfl,rfl,hit⟩|exact⟨fN hc,rfl⟩|exact⟨rfl,rfl⟩|exact⟨rfl,rfl,rfl⟩|exact⟨rfl,⟨rfl,rfl,rfl⟩,⟨rfl,rfl,rfl⟩,rfl⟩) ?_
 exact rF fun s' r _ h3 h4 h5=>kQ n tb s' hn ht (am rfl r) ⟨h4,ai h3,hP.nd,hP.lo⟩ h5
end
theorem Au(f g:UInt64)(tf tg:Tok)(s:Shared)(hit:hs[(Yh k).toNat]? =none)(hP:az (pW W) ((zR aI aH k hs eph aB g tg epb)) s){Q:Prop}(kQ:∀(n tb:Nat) (s':Shared),Hn s n->Ht s tb->Runs (Yt W) ((Bs aI aB bl)) p0 ((Yt W).den (zA aI aB)) [] s (.ret (.ok (.ret (.float g tg)))) s'->cN (pW W) s'->cI ([(kc aI k),(Yk aH hs eph),(A aB,Obj.mapSeq (fun _=>⟨[]⟩) (ab (yV g tg) epb))]) s'.heap->af ((zR aI aH k hs eph aB g tg epb)) s s'->Q):Q:=by
 obtain⟨n,hn⟩:=hP.size
 obtain⟨tb,ht⟩:=hP.toks
 generalize hg:s.gens.size=gb
 ·have H:=Eq.mpr (r9 W p0 bl aI aH aB hs eph epb k f g tf tg n tb gb (fun ev nk tk fin l=>fin=true/\((ev=(.fin (.ret (.ok (.ret (.float g tg)))))/\l=ax ([(kc aI k),(Yk aH hs eph),(A aB,Obj.mapSeq (fun _=>⟨[]⟩) (ab (yV g tg) epb))]))/\677<=tk)) _ rfl _ rfl) (by
   refine rI (by first|exact⟨rfl,rfl,hit⟩|exact⟨rfl,rfl⟩|exact⟨rfl,rfl,rfl⟩|exact⟨rfl,⟨rfl,rfl,rfl⟩,⟨rfl,rfl,rfl⟩,rfl⟩) ?_
   exact ag ⟨rfl,⟨rfl,rfl⟩,eU⟩ _)
  obtain⟨ev,s',l,r,⟨⟨rfl,rfl⟩,htk⟩,h3,h4,h5⟩:=dw (is:=[0,1,2]) (by exact⟨fun _=>cg,trivial⟩) (by exact trivial) hP hn ht hg rfl (by rintro ev nk tk l ⟨⟨rfl,rfl⟩,h⟩;exact⟨rfl,h⟩) H
  exact kQ n tb s' hn ht (by rw [bI];exact r) h4 (ai h3) h5
section
variable(f g:Int)(tf tg:Tok)(s:Shared)(hit:hs[(Yh k).toNat]? =some (b8 f tf))
include f g tf tg s hit
theorem ua(hP:az (pW W) ([(Y5 aI aH k),(Yk aH hs eph),(wy aB epb)]) s){Q:Prop}(kQ:∀(n tb:Nat) (s':Shared),Hn s n->Ht s tb->br (Yt W) ((Gg aI aB bl)) p0 s s'->az (pW W) ([(lS aI aH k),(Yk aH hs eph),(A aB,Obj.mapSeq (fun _=>(sn f tf)) (ab ⟨[]⟩ epb))]) s'->af ([(Y5 aI aH k),(Yk aH hs eph),(wy aB epb)]) s s'->Q):Q:=by
 obtain⟨n,hn⟩:=hP.size
 obtain⟨tb,ht⟩:=hP.toks
 generalize hg:s.gens.size=gb
 ·have H:=Eq.mpr (oG W p0 bl aI aH aB hs eph epb k f g tf tg n tb gb (fun ev nk tk fin l=>fin=true/\((ev=(.again (DE aI aB))/\l=ax ([(lS aI aH k),(Yk aH hs eph),(A aB,Obj.mapSeq (fun _=>(sn f tf)) (ab ⟨[]⟩ epb))]))/\677<=tk)) _ rfl _ rfl) (by
   refine rI (by first|exact⟨rfl,rfl,hit⟩|exact⟨rfl,rfl⟩|exact⟨rfl,rfl,rfl⟩|exact⟨rfl,⟨rfl,rfl,rfl⟩,⟨rfl,rfl,rfl⟩,rfl⟩) ?_
   exact ag ⟨rfl,⟨rfl,rfl⟩,eU⟩ _)
  obtain⟨ev,s',l,r,⟨⟨rfl,rfl⟩,htk⟩,h3,h4,h5⟩:=dw (is:=[0,1,2]) (by exact⟨fun _=>bi,trivial⟩) (by exact trivial) hP hn ht hg rfl (by rintro ev nk tk l ⟨⟨rfl,rfl⟩,h⟩;exact⟨rfl,h⟩) H
  exact kQ n tb s' hn ht (am rfl r) ⟨h4,ai h3,hP.nd,hP.lo⟩ h5
theorem po(hc:decide (f>g)=true)(hP:az (pW W) ([(Y5 aI aH k),(Yk aH hs eph),(A aB,ab (sn g tg) epb)]) s){Q:Prop}(kQ:∀(n tb:Nat) (s':Shared),Hn s n->Ht s tb->br (Yt W) ((Gg aI aB bl)) p0 s s'->az (pW W) ([(lS aI aH k),(Yk aH hs eph),(A aB,ab (sn f tf) epb)]) s'->af ([(Y5 aI aH k),(Yk aH hs eph),(A aB,ab (sn g tg) epb)]) s s'->Q):Q:=by
 obtain⟨n,tb,gb,hn,ht,hg⟩:=hP.nt
 have hE:= @rfl pQ fun W=>[(Y5 aI aH k),(Yk aH hs eph),(A aB,ab (sn g tg) epb)]
 refine bT hE hP hn ht hg (fun eX W Z hX=>cm (ei (Vw W) 3 [(bG 0 1 (b8 f tf)),pn] [] [] []) 59 ((Gg aI aB bl)) (p0) (aQ (DE aI aB)) [] hX (cO eX n tb gb) (mb Z)) (fun eX W Z hX=>ad (lE eX) (A n) gb (sl hX 0 3) (((Yo aI)/\((zv aH)/\(((yY hs k):i8)=(some (iU f tf)))))/\ad (lE eX) (A n) gb (sl hX 4 2) ((av (.builtin "int.__gt__" ⟨[(iU f tf),(iU g tg)],[]⟩) [] ww/\Yc)/\ad (lE eX) (A n) gb (sl hX 7 3) (Z (.again (DE aI aB)) (Y2 n 0) (Y8 tb 0) true (ax ([(lS aI aH k),(Yk aH hs eph),(A aB,ab (sn f tf) epb)])))))) (fun _=>[3,1,1,4000,1,1,4001,3,3,3,3000]) (iY (by kernel_rfl)) rfl ⟨fun _=>bi,fun _=>au,trivial⟩ trivial rfl fun hX=>?_
 iterate 2 refine rI (by first|exact⟨rfl,rfl,hit⟩|exact⟨lZ hc,rfl⟩|exact⟨rfl,rfl⟩|exact⟨rfl,rfl,rfl⟩|exact⟨rfl,⟨rfl,rfl,rfl⟩,⟨rfl,rfl,rfl⟩,rfl⟩) ?_
 exact rF fun s' r _ h3 h4 h5=>kQ n tb s' hn ht (am rfl r) ⟨h4,ai h3,hP.nd,hP.lo⟩ h5
end
theorem Cr(f g:Int)(tf tg:Tok)(s:Shared)(hit:hs[(Yh k).toNat]? =none)(hP:az (pW W) ([(Y5 aI aH k),(Yk aH hs eph),(A aB,ab (sn g tg) epb)]) s){Q:Prop}(kQ:∀(n tb:Nat) (s':Shared),Hn s n->Ht s tb->Runs (Yt W) ((Gg aI aB bl)) p0 ((Yt W).den (DE aI aB)) [] s (.ret (.ok (.ret (b8 g tg)))) s'->cN (pW W) s'->cI ([(kc aI k),(Yk aH hs eph),(A aB,Obj.mapSeq (fun _=>⟨[]⟩) (ab (sn g tg) epb))]) s'.heap->af ([(Y5 aI aH k),(Yk aH hs eph),(A aB,ab (sn g tg) epb)]) s s'->Q):Q:=by
 obtain⟨n,hn⟩:=hP.size
 obtain⟨tb,ht⟩:=hP.toks
 generalize hg:s.gens.size=gb
 ·have H:=Eq.mpr (rW W p0 bl aI aH aB hs eph epb k f g tf tg n tb gb (fun ev nk tk fin l=>fin=true/\((ev=(.fin (.ret (.ok (.ret (b8 g tg)))))/\l=ax ([(kc aI k),(Yk aH hs eph),(A aB,Obj.mapSeq (fun _=>⟨[]⟩) (ab (sn g tg) epb))]))/\677<=tk)) _ rfl _ rfl) (by
   refine rI (by first|exact⟨rfl,rfl,hit⟩|exact⟨rfl,rfl⟩|exact⟨rfl,rfl,rfl⟩|exact⟨rfl,⟨rfl,rfl,rfl⟩,⟨rfl,rfl,rfl⟩,rfl⟩) ?_
   exact ag ⟨rfl,⟨rfl,rfl⟩,eU⟩ _)
  obtain⟨ev,s',l,r,⟨⟨rfl,rfl⟩,htk⟩,h3,h4,h5⟩:=dw (is:=[0,1,2]) (by exact⟨fun _=>cg,trivial⟩) (by exact trivial) hP hn ht hg rfl (by rintro ev nk tk l ⟨⟨rfl,rfl⟩,h⟩;exact⟨rfl,h⟩) H
  exact kQ n tb s' hn ht (by rw [bI];exact r) h4 (ai h3) h5
end
abbrev I6 a:=(⟨[.ref (A (cT a)),.none,.ref (A (dE a))],[]⟩:Args)
abbrev mS a b:=(df a b,iz)
section
variable(W:WW)(p0:Pos)(bl:List nW)(aH:Nat)(hs:Array Value)(eph:Nat)(s:Shared)(hP:az (pW W) ([(Yk aH hs eph)]) s)
include W p0 bl aH hs eph s hP
theorem uj{Q:Prop}(kQ:∀(n tb:Nat) (s':Shared),Hn s n->Ht s tb->cu (Yt W) (⟨.builtin "min" (oX aH),none,none,bl,none⟩) (.builtin "min.loop" (I6 n)) p0 s s'->az (pW W) ([(Yk aH hs eph),(df n 0,Yf aH),(mS n 1)]) s'->af ([(Yk aH hs eph)]) s s'->Q):Q:=by
 obtain⟨n,tb,gb,hn,ht,hg⟩:=hP.nt
 have hE:= @rfl pQ fun W=>[(Yk aH hs eph)]
 refine bT hE hP hn ht hg (fun eX W Z hX=>cm (oZ W 1) 51 (⟨.builtin "min" (oX aH),none,none,bl,none⟩) (p0) (aQ (.builtin "min" (oX aH))) [] hX (cO eX n tb gb) (mb Z)) (fun eX W Z hX=>ad (lE eX) (A n) gb (sl hX 0 4) (Z (.again (.builtin "min.loop" (I6 n))) (Y2 n 2) (Y8 tb 0) true (ax ([(Yk aH hs eph),(df n 0,Yf aH),(mS n 1)])))) (fun _=>[1,1,1,2,3000]) (iY (by kernel_rfl)) rfl trivial (by exact trivial) rfl fun hX=>?_
 exact rF fun s' r _ h3 h4 h5=>kQ n tb s' hn ht (ch r) ⟨h4,ai h3,Np hP hn,NU hP⟩ h5
theorem uD{Q:Prop}(kQ:∀(n tb:Nat) (s':Shared),Hn s n->Ht s tb->cu (Yt W) (⟨.builtin "max" (oX aH),none,none,bl,none⟩) (.builtin "max.loop" (I6 n)) p0 s s'->az (pW W) ([(Yk aH hs eph),(df n 0,Yf aH),(mS n 1)]) s'->af ([(Yk aH hs eph)]) s s'->Q):Q:=by
 obtain⟨n,tb,gb,hn,ht,hg⟩:=hP.nt
 have hE:= @rfl pQ fun W=>[(Yk aH hs eph)]
 refine bT hE hP hn ht hg (fun eX W Z hX=>cm (oZ W 1) 51 (⟨.builtin "max" (oX aH),none,none,bl,none⟩) (p0) (aQ (.builtin "max" (oX aH))) [] hX (cO eX n tb gb) (mb Z)) (fun eX W Z hX=>ad (lE eX) (A n) gb (sl hX 0 4) (Z (.again (.builtin "max.loop" (I6 n))) (Y2 n 2) (Y8 tb 0) true (ax ([(Yk aH hs eph),(df n 0,Yf aH),(mS n 1)])))) (fun _=>[1,1,1,2,3000]) (iY (by kernel_rfl)) rfl trivial (by exact trivial) rfl fun hX=>?_
 exact rF fun s' r _ h3 h4 h5=>kQ n tb s' hn ht (ch r) ⟨h4,ai h3,Np hP hn,NU hP⟩ h5
end
noncomputable def DI(a b:Int×Int×UInt64):Bool:=Float64.cmp a.2.2 b.2.2==some (compare (a.2.1*b.1) (b.2.1*a.1))
noncomputable def iV:List (Int×Int×UInt64):=[(1,Int.negSucc 9,4584664420663164928),(1,Int.negSucc 8,4585415020601060011),(1,Int.negSucc 7,4586165620538955093),(1,Int.negSucc 6,4586916220476850176),(1,Int.negSucc 5,4587666820414745259),(1,Int.negSucc 4,4588417420352640341),(1,Int.negSucc 3,4589168020290535424),(1,Int.negSucc 2,4589543320259482965),(1,Int.negSucc 1,4589918620228430507),(1,Int.negSucc 0,4590293920197378048),(1,0,4590669220166325589),(1,1,4591044520135273131),(1,2,4591419820104220672),(1,3,4591795120073168213),(1,4,4592170420042115755),(1,5,4592545720011063296),(1,6,4592921019980010837),(1,7,4593296319948958379),(1,8,4593671619917905920),(1,9,4593859269902379691),(1,10,4594046919886853461),(2,Int.negSucc 9,4588417420352640341),(2,Int.negSucc 8,4588792720321587883),(2,Int.negSucc 7,4589168020290535424),(2,Int.negSucc 6,4589355670275009195),(2,Int.negSucc 5,4589543320259482965),(2,Int.negSucc 4,4589730970243956736),(2,Int.negSucc 3,4589918620228430507),(2,Int.negSucc 2,4590106270212904277),(2,Int.negSucc 1,4590293920197378048),(2,Int.negSucc 0,4590481570181851819),(2,0,4590669220166325589),(2,1,4590856870150799360),(2,2,4591044520135273131),(2,3,4591232170119746901),(2,4,4591419820104220672),(2,5,4591607470088694443),(2,6,4591795120073168213),(2,7,4591982770057641984),(2,8,4592170420042115755),(2,9,4592358070026589525),(2,10,4592545720011063296),(3,Int.negSucc 9,4589418220269833785),(3,Int.negSucc 8,4589543320259482965),(3,Int.negSucc 7,4589668420249132145),(3,Int.negSucc 6,4589793520238781327),(3,Int.negSucc 5,4589918620228430507),(3,Int.negSucc 4,4590043720218079687),(3,Int.negSucc 3,4590168820207728868),(3,Int.negSucc 2,4590293920197378048),(3,Int.negSucc 1,4590419020187027228),(3,Int.negSucc 0,4590544120176676409),(3,0,4590669220166325589),(3,1,4590794320155974771),(3,2,4590919420145623949),(3,3,4591044520135273131),(3,4,4591169620124922312),(3,5,4591294720114571491),(3,6,4591419820104220672),(3,7,4591544920093869853),(3,8,4591670020083519032),(3,9,4591795120073168213),(3,10,4591920220062817395),(4,Int.negSucc 9,4589730970243956736),(4,Int.negSucc 8,4589824795236193621),(4,Int.negSucc 7,4589918620228430507),(4,Int.negSucc 6,4590012445220667392),(4,Int.negSucc 5,4590106270212904277),(4,Int.negSucc 4,4590200095205141163),(4,Int.negSucc 3,4590293920197378048),(4,Int.negSucc 2,4590387745189614933),(4,Int.negSucc 1,4590481570181851819),(4,Int.negSucc 0,4590575395174088704),(4,0,4590669220166325589),(4,1,4590763045158562475),(4,2,4590856870150799360),(4,3,4590950695143036245),(4,4,4591044520135273131),(4,5,4591138345127510016),(4,6,4591232170119746901),(4,7,4591325995111983787),(4,8,4591419820104220672),(4,9,4591513645096457557),(4,10,4591607470088694443),(5,Int.negSucc 9,4589918620228430507),(5,Int.negSucc 8,4589993680222220015),(5,Int.negSucc 7,4590068740216009523),(5,Int.negSucc 6,4590143800209799032),(5,Int.negSucc 5,4590218860203588540),(5,Int.negSucc 4,4590293920197378048),(5,Int.negSucc 3,4590368980191167556),(5,Int.negSucc 2,4590444040184957064),(5,Int.negSucc 1,4590519100178746573),(5,Int.negSucc 0,4590594160172536081),(5,0,4590669220166325589),(5,1,4590744280160115097),(5,2,4590819340153904605),(5,3,4590894400147694115),(5,4,4590969460141483623),(5,5,4591044520135273131),(5,6,4591119580129062639),(5,7,4591194640122852147),(5,8,4591269700116641656),(5,9,4591344760110431164),(5,10,4591419820104220672)]
theorem vq:(iV.all fun a=>bf a.1 a.2.1==a.2.2)=true:=by decide+kernel
theorem qr:((List.range 5).all fun i=>(List.range 21).all fun j=>iV.any fun a=>a.1==Int.ofNat i+1&&a.2.1==Int.ofNat j-10)=true:=by decide+kernel
theorem BO:(iV.all fun a=>iV.all fun b=>DI a b)=true:=by decide+kernel
def cW(d:Int×Int):Prop:=1<=d.1/\d.1<=5/\-10<=d.2/\d.2<=10
theorem cW.range{d:Int×Int}(h:cW d):eW d.1 d.2:=by obtain⟨a,b,c,e⟩:=h;exact⟨a,b,by lia,by lia⟩
theorem ic{d:Int×Int}(h:cW d):∃a∈iV,a.1=d.1/\a.2.1=d.2/\a.2.2=bf d.1 d.2:=by
 obtain⟨h1,h2,h3,h4⟩:=h
 have a:=List.all_eq_true.mp qr (d.1-1).toNat (List.mem_range.mpr (by lia))
 have b:=List.all_eq_true.mp a (d.2+10).toNat (List.mem_range.mpr (by lia))
 obtain⟨x,hx,e⟩:=List.any_eq_true.mp b
 rw [Bool.and_eq_true] at e
 have e1:=beq_iff_eq.mp e.1
 have e2:=beq_iff_eq.mp e.2
 have q1:Int.ofNat (d.1-1).toNat=d.1-1:=toNat_of_nonneg (by lia)
 have q2:Int.ofNat (d.2+10).toNat=d.2+10:=toNat_of_nonneg (by lia)
 have e1:x.1=d.1:=by lia
 have e2:x.2.1=d.2:=by lia
 refine⟨x,hx,e1,e2,?_⟩
 have z:=beq_iff_eq.mp (List.all_eq_true.mp vq x hx)
 rw [e1,e2] at z
 exact z.symm
theorem sQ{d e:Int×Int}(hd:cW d)(he:cW e):Float64.cmp (bf d.1 d.2) (bf e.1 e.2)=some (compare (d.2*e.1) (e.2*d.1)):=by
 refine gQ fun Q zQ=>?_
 obtain⟨a,ha,a1,a2,a3⟩:=ic hd
 obtain⟨b,hb,b1,b2,b3⟩:=ic he
 refine zQ ?_
 have z:=List.all_eq_true.mp (List.all_eq_true.mp BO a ha) b hb
 unfold DI at z
 have z:=beq_iff_eq.mp z
 rw [a1,a2,a3,b1,b2,b3] at z
 exact z
def aY(d e:Int×Int):Prop:=d.2*e.1<=e.2*d.1
theorem ct{a b c:Int×Int}(hb:0<b.1)(ha:0<a.1)(hc:0<c.1)(h1:aY a b)(h2:aY b c):aY a c:=by
 unfold aY at*
 have e1:a.2*b.1*c.1<=b.2*a.1*c.1:=mul_le_mul_of_nonneg_right h1 (by lia)
 have e2:b.2*c.1*a.1<=c.2*b.1*a.1:=mul_le_mul_of_nonneg_right h2 (by lia)
 have e3:(a.2*c.1)*b.1<=(c.2*a.1)*b.1:=by
  have:b.2*a.1*c.1=b.2*c.1*a.1:=by rw [Int.mul_assoc,Int.mul_comm a.1 c.1,<-Int.mul_assoc]
  have q1:(a.2*c.1)*b.1=a.2*b.1*c.1:=by rw [Int.mul_assoc,Int.mul_comm c.1 b.1,<-Int.mul_assoc]
  have q2:(c.2*a.1)*b.1=c.2*b.1*a.1:=by rw [Int.mul_assoc,Int.mul_comm a.1 b.1,<-Int.mul_assoc]
  lia
 exact Int.le_of_mul_le_mul_right e3 hb
theorem lm(a:Int×Int):aY a a:=Int.le_refl _
def cb(ds:List cA):Prop:=∀d∈ds,cW d
def cL(ds:List cA)(d:Int×Int):Prop:=d∈ds/\∀e∈ds,aY d e
theorem xu{d e:Int×Int}(hd:cW d)(he:cW e):(Float64.cmp (bf d.1 d.2) (bf e.1 e.2)==some .lt)=decide (d.2*e.1<e.2*d.1):=by
 rw [sQ hd he]
 by_cases h:d.2*e.1<e.2*d.1
 ·rw [decide_eq_true h,show compare (d.2*e.1) (e.2*d.1)=.lt from Int.compare_eq_lt.mpr h];rfl
 ·rw [decide_eq_false h]
  have:compare (d.2*e.1) (e.2*d.1)≠.lt:=fun q=>h (Int.compare_eq_lt.mp q)
  revert this
  cases compare (d.2*e.1) (e.2*d.1)<;>intro this<;>first|rfl|exact absurd rfl this
theorem iQ{d e:Int×Int}(hd:cW d)(he:cW e):(Float64.cmp (bf d.1 d.2) (bf e.1 e.2)==some .eq)=decide (d.2*e.1=e.2*d.1):=by
 rw [sQ hd he]
 by_cases h:d.2*e.1=e.2*d.1
 ·rw [decide_eq_true h,show compare (d.2*e.1) (e.2*d.1)=.eq from Int.compare_eq_eq.mpr h];rfl
 ·rw [decide_eq_false h]
  have:compare (d.2*e.1) (e.2*d.1)≠.eq:=fun q=>h (Int.compare_eq_eq.mp q)
  revert this
  cases compare (d.2*e.1) (e.2*d.1)<;>intro this<;>first|rfl|exact absurd rfl this
theorem af.grow{E E':ae}{s s1 s2:Shared}(K1:af E s s1)(K2:af E' s1 s2)(h:∀a∈E'.map (·.1),a∈E.map (·.1)\/s.heap.objs.size<=a):af E s s2:=by
 refine⟨fun b o e hb=>K2.keep b o (K1.keep b o e hb) fun hm=>?_,K2.drawn.trans K1.drawn,K2.os.trans K1.os,Nat.le_trans K1.size K2.size⟩
 rcases h b hm with h|h
 ·exact hb h
 ·exact absurd (Heap.lt_size e) (Nat.not_lt.mpr h)
theorem az.swap{P:Params}{a b c:Nat×Obj}{s:Shared}(h:az P [a,b,c] s):az P [b,a,c] s:=by
 refine⟨h.rdy,⟨h.has.2.1,h.has.1,h.has.2.2.1,trivial⟩,?_,fun x hx=>h.lo x ?_⟩
 ·have:=h.nd
  simp only [map_cons,map_nil,List.nodup_cons,List.mem_cons,List.not_mem_nil,or_false,not_or,nodup_nil,and_true,not_false_eq_true] at this⊢
  obtain⟨⟨p,q⟩,r⟩:=this
  exact⟨⟨fun e=>p e.symm,r⟩,q⟩
 ·simp only [map_cons,map_nil,List.mem_cons,List.not_mem_nil,or_false] at hx⊢
  rcases hx with h|h|h
  ·exact .inr (.inl h)
  ·exact .inl h
  ·exact .inr (.inr h)
theorem bC.get{hs:Array Value}{ds:List (Int×Int)}(h:bC hs ds){k:Nat}{d:Int×Int}(e:ds[k]? =some d):∃t,hs[(Int.ofNat k).toNat]? =some (.float (bf d.1 d.2) t):=h.2 k d e
theorem bC.none{hs:Array Value}{ds:List (Int×Int)}(h:bC hs ds){k:Nat}(e:ds.drop k=[]):hs[(Int.ofNat k).toNat]? =none:=
 Array.getElem?_eq_none (by rw [h.1];exact List.drop_eq_nil_iff.mp e)
theorem cL.snoc{l:List cA}{d q:Int×Int}(h10:cb (l++[q]))(h:cL l d):cL (l++[q]) (if q.2*d.1<d.2*q.1 then q else d):=by
 have hd:=h10 d (mem_append_left _ h.1)
 have hq:=h10 q (mem_append_right _ (List.mem_singleton.mpr rfl))
 split
 ·rename_i hc
  refine⟨mem_append_right _ (List.mem_singleton.mpr rfl),fun e he=>?_⟩
  rcases List.mem_append.mp he with he|he
  ·have hee:=h10 e (mem_append_left _ he)
   exact ct (by have:=hd.1;lia) (by have:=hq.1;lia) (by have:=hee.1;lia) (show q.2*d.1<=d.2*q.1 by lia) (h.2 e he)
  ·rw [List.mem_singleton.mp he];exact lm q
 ·rename_i hc
  refine⟨mem_append_left _ h.1,fun e he=>?_⟩
  rcases List.mem_append.mp he with he|he
  ·exact h.2 e he
  ·rw [List.mem_singleton.mp he];show d.2*q.1<=q.2*d.1;lia
abbrev GN(a:Int×Int)(b:Tok):Value:=.float (bf a.1 a.2) b
theorem BF(W:WW)(bl:List nW)(aI aH aB:Nat)(hs:Array Value)(eph:Nat)(ds:List cA)(hh:bC hs ds)(h10:cb ds):∀(rest:List cA) (k:Nat) (d:Int×Int) (t:Tok) (epb:Nat) (p0:Pos) (s:Shared),
  ds.drop k=rest->cL (ds.take k) d->az (pW W) [(Y5 aI aH k),(Yk aH hs eph),(A aB,ab ⟨[GN d t,GN d t]⟩ epb)] s->
  ∀Q:Prop,(∀(s':Shared) (d':Int×Int) (t':Tok),Runs (Yt W) (Bs aI aB bl) p0 ((Yt W).den (zA aI aB)) [] s (.ret (.ok (.ret (.float (bf d'.1 d'.2) t')))) s'->cN (pW W) s'->s'.heap.get? (A aH)=some (ab hs eph)->af [(Y5 aI aH k),(Yk aH hs eph),(A aB,ab ⟨[GN d t,GN d t]⟩ epb)] s s'->cL ds d'->Q)->Q:=by
 intro rest0
 induction rest0 with
 |nil=>
  intro k d t epb p0 s hd hl hP Q kQ
  apply Au (W:=W) (hit:=hh.none hd) (hP:=hP) (p0:=p0) (bl:=bl) (f:=0) (tf:=0) (kQ:=?kz17) ..
  case' kz17=>intro n tb s' _ _ r h1 h2 h3
  exact kQ s' d t r h1 h2.2.1 h3 (by rw [take_of_length_le (List.drop_eq_nil_iff.mp hd)] at hl;exact hl)
 |cons q rest ih=>
  intro k d t epb p0 s hd hl hP Q kQ
  obtain⟨hk,hd'⟩:=bw hd
  obtain⟨tq,hit⟩:=hh.get hk
  have hq10:=h10 q (mem_of_getElem? hk)
  have hd10:=h10 d (List.mem_of_mem_take hl.1)
  have hl':=cL.snoc (q:=q) (fun e he=>by
   rw [<-gj hk] at he
   exact h10 e (List.mem_of_mem_take he)) hl
  rw [<-gj hk] at hl'
  have hc:=xu hq10 hd10
  by_cases hlt:q.2*d.1<d.2*q.1
  ·rw [if_pos hlt] at hl'
   apply pg (W:=W) (hit:=hit) (hc:=by rw [hc,decide_eq_true hlt]) (hP:=hP) (p0:=p0) (bl:=bl) (kQ:=?k14) ..
   case' k14=>intro n tb s1 _ _ H hP' K
   obtain⟨p',H⟩:=H
   refine ih (k+1) q tq epb p' s1 hd' hl' hP' _ fun s2 d2 t2 r h1 h2 h3 h4=>?_
   exact kQ s2 d2 t2 (H _ _ r) h1 h2 (K.trans (h3.cast rfl)) h4
  ·rw [if_neg hlt] at hl'
   apply qe (W:=W) (hit:=hit) (hc:=by rw [hc,decide_eq_false hlt]) (hP:=hP) (p0:=p0) (bl:=bl) (kQ:=?k15) ..
   case' k15=>intro n tb s1 _ _ H hP' K
   obtain⟨p',H⟩:=H
   refine ih (k+1) d t epb p' s1 hd' hl' hP' _ fun s2 d2 t2 r h1 h2 h3 h4=>?_
   exact kQ s2 d2 t2 (H _ _ r) h1 h2 (K.trans (h3.cast rfl)) h4
structure kK where
 d:Int×Int
 t:Tok
theorem um(W:WW)(bl:List nW)(aH:Nat)(hs:Array Value)(eph:Nat)(ds:List cA)(hh:bC hs ds)(h10:cb ds)(hne:ds≠[]):
  cq (Vw W) ⟨.builtin "min" (oX aH),none,none,bl,none⟩ [(Yk aH hs eph)] (fun x:kK=>(.ok (.ret (.float (bf x.d.1 x.d.2) x.t)),[ab hs eph],[])) (fun x=>cL ds x.d):=by
 intro p s hP
 obtain⟨q,rest,rfl⟩:∃q rest,ds=q::rest:=by cases ds with|nil=>exact(hne rfl).elim|cons q r=>exact⟨q,r,rfl⟩
 apply uj (W:=W) (bl:=bl) (p0:=p) (hP:=hP) (kQ:=?k17) ..
 case' k17=>intro n tb s1 hn _ zp16 hP1 K1
 obtain⟨p1,H1⟩:=zp16
 obtain⟨tq,hit⟩:=hh.get (k:=0) rfl
 apply uK (W:=W) (bl:=bl) (p0:=p1) (hit:=hit) (hP:=hP1.swap) (g:=0) (tg:=0) (kQ:=?kz18) ..
 case' kz18=>intro n2 tb2 s2 _ _ H2 hP2 K2
 obtain⟨p2,H2⟩:=H2
 refine BF W bl (cT n) aH (dE n) hs eph (q::rest) hh h10 rest 1 q tq _ p2 s2 rfl ⟨by simp,fun e he=>by simp at he;rw [he];exact lm q⟩ hP2 _ fun s3 d3 t3 r h1 h2 K3 h4=>?_
 have K:af [(Yk aH hs eph)] s s3:=af.grow K1 (K2.trans (K3.cast rfl)) (by
  intro a ha
  simp only [map_cons,map_nil,List.mem_cons,List.not_mem_nil,or_false] at ha⊢
  rcases ha with rfl|rfl|rfl
  ·right;rw [hn];show n+245<=n+0+245;lia
  ·left;rfl
  ·right;rw [hn];show n+245<=n+1+245;lia)
 exact⟨⟨d3,t3⟩,s3,H1 _ _ (H2 _ _ r),h1,K,⟨h2,trivial⟩,trivial,(fun y hy=>nomatch hy),nodup_nil,h4⟩
noncomputable def rk(ds:List (Int×Int))(i mm ro:Nat):bM:=fun Γ p c st K=>match st.T.get i with
 |some ⟨cl,dd,.seq items ep,sl⟩=>((c=.builtin "min" ⟨[.ref (bm st.L st.n i)],[]⟩/\Γ.handled=none/\Γ.own=none/\Γ.past=none)/\Nat.ble 245 (bm st.L st.n i)=true/\(⟨cl,dd,.seq items ep,sl⟩:Obj)=ab items ep/\bC items ds)/\
   pf (X:=kK) [(bm st.L st.n i,ab items ep)] [i] mm ro (fun x=>(.ok (.ret (.float (bf x.d.1 x.d.2) x.t)),[ab items ep],[])) (fun x=>cL ds x.d) st K
 |_=>False
theorem vr{w:World}{b1 b2:Bool}{ds:List (Int×Int)}{i:Nat}{V:XV}(hk:V.kt=eG (W2 w b1 b2).params)(h10:cb ds)(hne:ds≠[]):bX V (model pw (W2 w b1 b2)) (rk ds i V.mm V.ro):=by
 intro h0 d os Γ p c st K s H hΓ R
 unfold rk at H
 split at H
 ·rename_i cl dd items ep sl e1
  obtain⟨⟨⟨q,g1,g2,g3⟩,hb,-,hh⟩,H⟩:=H
  obtain⟨aH,ha⟩:∃aH,bm st.L st.n i=A aH:=⟨bm st.L st.n i-245,by have:245<=bm st.L st.n i:=le_of_ble_eq_true hb;show _=_+245;omega⟩
  rw [<-hΓ]
  refine fy hk (fun hP _=>?_) H R
  obtain⟨gc,gh,go,gb,gp⟩:=Γ
  have hΓ:gc=c:=hΓ
  have g1:gh=none:=g1
  have g2:go=none:=g2
  have g3:gp=none:=g3
  subst hΓ g1 g2 g3
  rw [q]
  rw [ha] at hP⊢
  exact um ⟨w,b1,b2⟩ gb aH items ep ds hh h10 hne p s hP
 ·exact H.elim
theorem aZ.get{js:Array Value}{l:List Nat}(h:aZ js l){k j:Nat}(e:l[k]? =some j):∃t,js[(Int.ofNat k).toNat]? =some (.int (Int.ofNat j) t):=h.2 k j e
theorem aZ.none{js:Array Value}{l:List Nat}(h:aZ js l){k:Nat}(e:l.drop k=[]):js[(Int.ofNat k).toNat]? =none:=
 Array.getElem?_eq_none (by rw [h.1];exact List.drop_eq_nil_iff.mp e)
theorem Ae(W:WW)(bl:List nW)(aI aH aB:Nat)(js:Array Value)(eph:Nat)(l:List Nat)(hh:aZ js l):∀(rest:List Nat) (k g:Nat) (t:Tok) (epb:Nat) (p0:Pos) (s:Shared),
  l.drop k=rest->List.Pairwise (·<·) (g::rest)->az (pW W) [(Y5 aI aH k),(Yk aH js eph),(A aB,ab ⟨[.int (Yh g) t,.int (Yh g) t]⟩ epb)] s->
  ∀Q:Prop,(∀(s':Shared) (t':Tok),Runs (Yt W) (Gg aI aB bl) p0 ((Yt W).den (DE aI aB)) [] s (.ret (.ok (.ret (.int (Int.ofNat ((g::rest).getLast (by simp))) t')))) s'->cN (pW W) s'->s'.heap.get? (A aH)=some (ab js eph)->af [(Y5 aI aH k),(Yk aH js eph),(A aB,ab ⟨[.int (Yh g) t,.int (Yh g) t]⟩ epb)] s s'->Q)->Q:=by
 intro rest0
 induction rest0 with
 |nil=>
  intro k g t epb p0 s hd hl hP Q kQ
  apply Cr (W:=W) (hit:=hh.none hd) (hP:=hP) (p0:=p0) (bl:=bl) (f:=0) (tf:=0) (kQ:=?kz19) ..
  case' kz19=>intro n tb s' _ _ r h1 h2 h3
  exact kQ s' t r h1 h2.2.1 h3
 |cons q rest ih=>
  intro k g t epb p0 s hd hl hP Q kQ
  obtain⟨hk,hd'⟩:=bw hd
  obtain⟨tq,hit⟩:=hh.get hk
  have hl2:=List.pairwise_cons.mp hl
  have hgt:g<q:=hl2.1 q (mem_cons_self ..)
  apply po (W:=W) (hit:=hit) (hc:=decide_eq_true (show Int.ofNat q>Int.ofNat g from Int.ofNat_lt.mpr hgt)) (hP:=hP) (p0:=p0) (bl:=bl) (kQ:=?k18) ..
  case' k18=>intro n tb s1 _ _ H hP' K
  obtain⟨p',H⟩:=H
  refine ih (k+1) q tq epb p' s1 hd' hl2.2 hP' _ fun s2 t2 r h1 h2 h3=>?_
  exact kQ s2 t2 (by rw [List.getLast_cons (by simp)];exact H _ _ r) h1 h2 (K.trans (h3.cast rfl))
theorem uq(W:WW)(bl:List nW)(aH:Nat)(js:Array Value)(eph:Nat)(l:List Nat)(hh:aZ js l)(hp:List.Pairwise (·<·) l)(hne:l≠[]):
  cq (Vw W) ⟨.builtin "max" (oX aH),none,none,bl,none⟩ [(Yk aH js eph)] (fun x:cC=>(.ok (.ret (.int (Int.ofNat (l.getLast hne)) x.t)),[ab js eph],[])) (fun _=>True):=by
 intro p s hP
 obtain⟨q,rest,rfl⟩:∃q rest,l=q::rest:=by cases l with|nil=>exact(hne rfl).elim|cons q r=>exact⟨q,r,rfl⟩
 apply uD (W:=W) (bl:=bl) (p0:=p) (hP:=hP) (kQ:=?k20) ..
 case' k20=>intro n tb s1 hn _ zp19 hP1 K1
 obtain⟨p1,H1⟩:=zp19
 obtain⟨tq,hit⟩:=hh.get (k:=0) rfl
 apply ua (W:=W) (bl:=bl) (p0:=p1) (hit:=hit) (hP:=hP1.swap) (g:=0) (tg:=0) (kQ:=?kz20) ..
 case' kz20=>intro n2 tb2 s2 _ _ H2 hP2 K2
 obtain⟨p2,H2⟩:=H2
 refine Ae W bl (cT n) aH (dE n) js eph (q::rest) hh rest 1 q tq _ p2 s2 rfl hp hP2 _ fun s3 t3 r h1 h2 K3=>?_
 have K:af [(Yk aH js eph)] s s3:=af.grow K1 (K2.trans (K3.cast rfl)) (by
  intro a ha
  simp only [map_cons,map_nil,List.mem_cons,List.not_mem_nil,or_false] at ha⊢
  rcases ha with rfl|rfl|rfl
  ·right;rw [hn];show n+245<=n+0+245;lia
  ·left;rfl
  ·right;rw [hn];show n+245<=n+1+245;lia)
 exact⟨⟨t3⟩,s3,H1 _ _ (H2 _ _ r),h1,K,⟨h2,trivial⟩,trivial,(fun y hy=>nomatch hy),nodup_nil,trivial⟩
structure jf where
 j:Nat
 t:Tok
noncomputable def rD(ds:List (Int×Int))(i mm ro:Nat):bM:=fun Γ p c st K=>match st.T.get i with
 |some ⟨cl,dd,.seq items ep,sl⟩=>((c=.builtin "max" ⟨[.ref (bm st.L st.n i)],[]⟩/\Γ.handled=none/\Γ.own=none/\Γ.past=none)/\Nat.ble 245 (bm st.L st.n i)=true/\(⟨cl,dd,.seq items ep,sl⟩:Obj)=ab items ep/\(∃d,cL ds d/\aZ items (ff ds (bf d.1 d.2) ds.length)))/\
   pf (X:=jf) [(bm st.L st.n i,ab items ep)] [i] mm ro (fun x=>(.ok (.ret (.int (Int.ofNat x.j) x.t)),[ab items ep],[])) (fun x=>∃d,cL ds d/\(ff ds (bf d.1 d.2) ds.length).getLast? =some x.j) st K
 |_=>False
theorem iu(ds:List (Int×Int))(lf:UInt64)(k:Nat):List.Pairwise (·<·) (ff ds lf k):=List.Pairwise.filter _ List.pairwise_lt_range
theorem Bq{ds:List (Int×Int)}(h10:cb ds){d:Int×Int}(h:d∈ds):ff ds (bf d.1 d.2) ds.length≠[]:=by
 obtain⟨i,hi⟩:=List.mem_iff_getElem?.mp h
 have hlt:=(List.getElem?_eq_some_iff.mp hi).1
 refine List.ne_nil_of_mem (a:=i) (List.mem_filter.mpr ⟨List.mem_range.mpr hlt,?_⟩)
 unfold gP
 rw [hi]
 show(Float64.cmp (bf d.1 d.2) (bf d.1 d.2)==some .eq)=true
 rw [iQ (h10 d h) (h10 d h)]
 exact decide_eq_true rfl
theorem vO{w:World}{b1 b2:Bool}{ds:List cA}{i:Nat}{V:XV}(hk:V.kt=eG (W2 w b1 b2).params)(h10:cb ds):bX V (model pw (W2 w b1 b2)) (rD ds i V.mm V.ro):=by
 intro h0 dr os Γ p c st K s H hΓ R
 unfold rD at H
 split at H
 ·rename_i cl dd items ep sl e1
  obtain⟨⟨⟨q,g1,g2,g3⟩,hb,-,⟨d,hd,hh⟩⟩,H⟩:=H
  obtain⟨aH,ha⟩:∃aH,bm st.L st.n i=A aH:=⟨bm st.L st.n i-245,by have:245<=bm st.L st.n i:=le_of_ble_eq_true hb;show _=_+245;omega⟩
  rw [<-hΓ]
  refine fy hk (fun hP _=>?_) H R
  obtain⟨gc,gh,go,gb,gp⟩:=Γ
  have hΓ:gc=c:=hΓ
  have g1:gh=none:=g1
  have g2:go=none:=g2
  have g3:gp=none:=g3
  subst hΓ g1 g2 g3
  rw [q]
  rw [ha] at hP⊢
  have hne:=Bq h10 hd.1
  obtain⟨x,s',r,h1,h2,h3,h4,h5,h6,_⟩:=uq ⟨w,b1,b2⟩ gb aH items ep _ hh (iu _ _ _) hne p s hP
  exact⟨⟨(ff ds (bf d.1 d.2) ds.length).getLast hne,x.t⟩,s',r,h1,h2,h3,h4,h5,h6,⟨d,hd,List.getLast?_eq_some_getLast hne⟩⟩
 ·exact H.elim
noncomputable def oF:Value->Bool
 |.none=>true
 |.int _ _=>true
 |_=>false
noncomputable def bV:Value->Option Int
 |.int i _=>some i
 |_=>none
theorem mL{v:Value}(h:oF v=true):IsPart v (bV v):=by
 cases v<;>first|exact IsPart.none|exact IsPart.int _ _|cases h
noncomputable def gI(i j:Nat)(vs:Array Value):bF:=fun Γ c st=>wA (st.T.get i) nO fun cl dd items _ _=>Ox (st.T.get j) nO fun cl' vl vu v3=>
  (c=.builtin "list.__getitem__" ⟨[.ref (bm st.L st.n i),.ref (bm st.L st.n j)],[]⟩/\(cl=.type "list"/\cl'=.type "slice"/\v3=.none)/\(oF vl&&oF vu)=true/\items.size<=1000/\slicePick items (bV vl) (bV vu) none=vs,
   .alloc ⟨.type "list",none,.seq vs 0, #[]⟩ fun a=>ret (.ref a))
theorem jZ{V:XV}{pr:Program}{w:World}{i j:Nat}{vs:Array Value}:bE V (model pr w) (gI i j vs):=by
 refine dT fun{h0 d os Γ c st s p r s'} hΓ R=>eZ fZ fun cl dd items n sl e1=>ya fZ fun cl' vl vu v3 dd' sl' e2=>?_
 rintro⟨rfl,⟨rfl,rfl,rfl⟩,hp,hsz,rfl⟩ H
 rw [Bool.and_eq_true] at hp
 obtain⟨rfl,rfl⟩:=cK H
 have ho:=jh R e1
 have hos:=jh R e2
 have hTs:s.TypeIs (.ref (bm st.L st.n j)) "slice":=⟨_,hos,rfl⟩
 refine dH PySem.entry_list_getitem (by rw [hΓ];rfl) ?_
 show wpAny _ _ (Builtin.List.listSubscript? (.ref (bm st.L st.n j))>>=_) _ _ s
 refine wpAny_bind ?_
 unfold Builtin.List.listSubscript?
 refine wpAny_bind (wpAny_specialOf hTs slice_no_index ?_)
 simp only [Option.isNone_none,if_true]
 refine wpAny_pure ?_
 show wpAny _ _ (typeOf (.ref (bm st.L st.n j))>>=_) _ _ s
 refine wpAny_bind (wpAny_typeOf hTs ?_)
 rw [if_neg (by decide)]
 rw [listSliceParts_eq]
 have hstep:¬((rawPart none==rawInt 0)=true):=Bool.false_ne_true
 refine wpAny_bind (wpAny_bind (wpAny_field hos rfl (x:=.none) rfl (wpAny_bind (wpAny_listPart IsPart.none ?_))))
 rw [if_neg hstep]
 refine wpAny_bind (wpAny_field hos rfl (x:=vl) rfl (wpAny_bind (wpAny_listPart (mL hp.1) ?_)))
 refine wpAny_bind (wpAny_field hos rfl (x:=vu) rfl (wpAny_bind (wpAny_listPart (mL hp.2) (wpAny_pure ?_))))
 refine wpAny_bind (m:=Builtin.List.listItems (.ref (bm st.L st.n i))) ?_
 unfold Builtin.List.listItems
 refine wpAny_bind (wpAny_seqItems ho rfl (wpAny_pure ?_))
 refine wpAny_bind (wpAny_of_eq (sliceIndices_raw (bV vl) (bV vu) none items.size (by simp)) ?_)
 exact wpAny_bind (wpAny_newObj_type (wpAny_pure ⟨rfl,rfl⟩) (Nat.le_trans (slicePick_size_le items _ _ _) (by rw [sizeLine_eq];lia)))
noncomputable def lU(items:Array Value)(k:Int):Value:=((seqIndex? k items.size).bind fun j=>items[j]?).getD .none
noncomputable def yj(W:WW)(vB:FB)(aF c1 c2 c3 c4:Nat)(ds:List (Int×Int))(iL iI iC i3 i4 iH mm ro:Nat):bM:=fun Γ p c st K=>wA (st.T.get iH) False fun _ _ items ep _=>Lq (st.T.get i4) False fun lf tl=>bC items ds/\
  km (Vw W) ⟨ay (eK (pW W) (bh (ak (pW W)) (A aF) 231 [A c1,A c2,A c3,A c4]) (A (Nat.sub (bm st.L st.n iL) 245)) (A (Nat.sub (bm st.L st.n iI) 245)) (A (Nat.sub (bm st.L st.n iC) 245))),none,none,[(.whileLoop vB.wt vB.wb vB.we vB.wenv,vB.p3),(.func vB.f1 vB.n1,vB.p4),(.forLoop vB.te vB.i1 vB.bo1 vB.e1 vB.n3,vB.p7),(.func vB.f2 vB.n4,vB.p5),(.builtin "claim.caller" {},vB.p6)],none⟩ ([(A (Nat.sub (bm st.L st.n iL) 245),ah "dict" [] 0),(A (Nat.sub (bm st.L st.n iI) 245),aK "range_iterator" [.int (Int.ofNat 0) 0,.int (Int.ofNat ds.length) 0,.int 1 0]),(A (Nat.sub (bm st.L st.n iC) 245),ab ⟨[]⟩ 0),(A c3,⟨.type "cell",none,.cell (some (.ref (A (Nat.sub (bm st.L st.n iH) 245)))),⟨[]⟩⟩),(A c4,⟨.type "cell",none,.cell (some (.float lf tl)),⟨[]⟩⟩),(A (Nat.sub (bm st.L st.n iH) 245),ab items ep)]) [iL,iI,iC,i3,i4,iH] mm ro (rg W vB aF c1 c2 c3 c4 (Nat.sub (bm st.L st.n iL) 245) (Nat.sub (bm st.L st.n iI) 245) (Nat.sub (bm st.L st.n iC) 245) (Nat.sub (bm st.L st.n iH) 245) tl lf items ep ds) (fun x=>aZ x.js (ff ds lf ds.length)) Γ p c st K
theorem uT(W:WW)(vB:FB)(aF c1 c2 c3 c4:Nat)(ds:List (Int×Int)){iL iI iC i3 i4 iH:Nat}{V:XV}(hk:V.kt=eG (pW W))(hlen:ds.length<=100)(hne:ds≠[]):bX V (model pw (Vw W)) (yj W vB aF c1 c2 c3 c4 ds iL iI iC i3 i4 iH V.mm V.ro):=by
 intro h0 d os Γ p c st K s H hΓ R
 revert H
 refine eZ (P:=(·->_)) (fun h=>h.elim) fun _ _ items ep _ _=>Eu (P:=(·->_)) (fun h=>h.elim) fun lf tl H=>?_
 exact jo hk (r6 W vB aF c1 c2 c3 c4 (Nat.sub (bm st.L st.n iL) 245) (Nat.sub (bm st.L st.n iI) 245) (Nat.sub (bm st.L st.n iC) 245) (Nat.sub (bm st.L st.n iH) 245) tl lf items ep ds H.1 hlen hne) h0 d os Γ p c st K s H.2 hΓ R
noncomputable def j9(items:Array Value)(k:Int):Nat:=match lU items k with
 |.ref a=>a
 |_=>0
noncomputable def jr(i:Nat):bF:=fun Γ c st=>wA (st.T.get i) nO fun _ _ items _ _=>wO (BH c) nO fun b=>co i (.ref (j9 items b.1)) Γ c st
theorem rU{V:XV}{pr:Program}{w:World}{i:Nat}:bE V (model pr w) (jr i):=
 dT fun hΓ R=>eZ fZ fun _ _ _ _ _ _=>fL fZ fun _ hc H=>bB _ _ _ _ _ _ _ _ _ _ hc hΓ R H
noncomputable def yK:Value->Bool
 |.ref _=>true
 |_=>false
theorem Bl{l:List Value}{j:Nat}(h:j<l.length)(hr:l.all yK=true):(seqIndex? (Int.ofNat j) (Array.mk l).size).bind (fun i=>(Array.mk l)[i]?)=some (.ref (j9 (Array.mk l) (Int.ofNat j))):=by
 have e:(seqIndex? (Int.ofNat j) (Array.mk l).size).bind (fun i=>(Array.mk l)[i]?)=some l[j]:=by
  rw [fW (n:=(Array.mk l).size) h]
  show(Array.mk l)[j]? =some l[j]
  simp [h]
 have hd:lU (Array.mk l) (Int.ofNat j)=l[j]:=by unfold lU;rw [e];rfl
 rw [e]
 unfold j9
 rw [hd]
 have:=List.all_eq_true.mp hr l[j] (getElem_mem h)
 revert this
 cases l[j]<;>intro this<;>first|rfl|cases this
theorem tr{ds:List (Int×Int)}{j:Nat}(h:∃d,cL ds d/\(ff ds (bf d.1 d.2) (List.length ds)).getLast? =some j):j<ds.length:=by
 obtain⟨d,_,e⟩:=h
 have:=List.mem_of_getLast? e
 unfold ff at this
 exact List.mem_range.mp (List.mem_filter.mp this).1
abbrev Tn:=Ev->Nat->Nat->Bool->List wJ->List dh->Prop
noncomputable def AC{X:Type}(w':World)(G:Ctx)(E:ae)(is:List Nat)(mm ro:Nat)(out:X->Result×List Obj×ae)(fo:X->ae)(cond:X->Prop):bM:=fun Γ p c st K=>Γ=G/\sY E is mm ro out fo cond st K
theorem oR{X:Type}{w':World}{G:Ctx}{E:ae}{is:List Nat}{V:XV}{fz:List (Nat×Obj)}{out:X->Result×List Obj×ae}{fo:X->ae}{cond:X->Prop}(hk:V.kt=eG w'.params)(hc:cw w' G E fz out fo cond)(hm:∀x∈fz,x∈V.fz):bX V (model pw w') (AC w' G E is V.mm V.ro out fo cond):=by
 intro h0 d os Γ p c st K s H hΓ R
 obtain⟨rfl,H⟩:=H
 subst hΓ
 exact ly hk (fun hP hf=>hc p s hP fun x hx=>hf x (mem_append_left _ (hm x hx))) H R
noncomputable def c8(v:Value)(xs:Array Value):Array Value:=⟨v::xs.toList⟩
noncomputable def yg(i:Nat):bF:=fun Γ c st=>wA (st.T.get i) nO fun cl dd items _ sl=>wO (DL c) nO fun b=>
  (c=.builtin "list.insert" ⟨[.ref (bm st.L st.n i),.int 0 b.2.1,b.2.2],[]⟩/\(cl=.type "list"/\dd=none/\sl=⟨[]⟩)/\items.size<=1000,.update (bm st.L st.n i) none (Obj.mapSeq (c8 b.2.2)) fun _=>ret .none)
theorem qK(v:Value):(fun xs:Array Value=>have k:=if(0:Int)<0 then((0:Int)+((xs.size:Nat):Int)).toNat else min (0:Int).toNat xs.size;(xs.extract 0 k).push v++xs.extract k)=c8 v:=by
 funext xs
 unfold c8
 apply Array.ext'
 simp
theorem t9{V:XV}{pr:Program}{w:World}{i:Nat}:bE V (model pr w) (yg i):=by
 refine dT fun hΓ R=>eZ fZ fun cl dd items n sl e1=>fL fZ fun b=>?_
 rintro⟨rfl,⟨rfl,rfl,rfl⟩,hb⟩ H
 obtain⟨_,rfl,rfl⟩:=cK H
 rw [bg PySem.F.entry_list_insert]
 have hm:=fun a=>PySem.AutoListH.list_insert_list_int_val_1 a items n 0 b.2.1 b.2.2 (by decide) (by rw [sizeLine_eq];lia)
 rw [qK] at hm
 exact bv (hm _) (by rw [hΓ];rfl) ⟨jh R e1,rfl,rfl⟩
noncomputable def dC(P:Params):Stmt:=fE (be (gW P)) 1
noncomputable def jF(P:Params):List Stmt:=bk (fE (bk (dC P)) 0)
noncomputable def bj(P:Params)(aF c1:Nat):Env:=bh (gW P) (A aF) 219 [A c1]
noncomputable def fj(P:Params)(aF c1 it:Nat):Code:=gv (dC P) (A it) (bj P aF c1)
noncomputable def gK(P:Params)(aF c1:Nat):Code:=.whileLoop (lF (fE (jF P) 2)) (bk (fE (jF P) 2)) (kY (fE (jF P) 2)) (bj P aF c1)
noncomputable def fn(P:Params):Expr:=mD (mB (fE (jF P) 4))
noncomputable def ew(P:Params):Expr:=mD (mB (fE (jF P) 5))
noncomputable def Em:Stmt->Expr
 |.If t _ _ _=>t
 |_=>.Constant .none 0 default
noncomputable def Cd:Expr->Expr
 |.Compare _ _ (r::_) _=>r
 |e=>e
noncomputable def EH:Expr->Expr
 |.Subscript v _ _=>v
 |e=>e
noncomputable def fk(P:Params):Expr:=mD (EH (Cd (Em (fE (jF P) 6))))
noncomputable def ao(e:Expr)(outer:Env)(L it acc:Nat):Code:=.compLoop e 0 (Yp it) (Yp acc) (lG e outer (A L))
theorem mZ{L B:Nat}{t u:Tok}{l}(hB:B=2\/B=3):av (.builtin "int.__mod__" ⟨[.int (Int.ofNat L) t,.int (Int.ofNat B) u],[]⟩) l (.int (Int.ofNat (L % B))):=by
 refine av.mk PySem.F.entry_int_mod ?_ trivial
 have e:∀(b:Nat),(Int.ofNat L).fmod (Int.ofNat b)=Int.ofNat (L % b):=fun b=>by cases L<;>cases b<;>simp [Int.fmod]<;>rfl
 rcases hB with rfl|rfl
 ·rw [<-e];exact PySem.AutoIntG6.int___mod___int_int_1 (Int.ofNat L) t (Int.ofNat 2) u (by decide)
 ·rw [<-e];exact PySem.AutoIntG6.int___mod___int_int_1 (Int.ofNat L) t (Int.ofNat 3) u (by decide)
theorem uw{L B:Nat}{t u:Tok}{l}(hB:B=2\/B=3):av (.builtin "int.__floordiv__" ⟨[.int (Int.ofNat L) t,.int (Int.ofNat B) u],[]⟩) l (.int (Int.ofNat (L/B))):=by
 refine av.mk PySem.F.entry_int_floordiv ?_ trivial
 have e:∀(b:Nat),(Int.ofNat L).fdiv (Int.ofNat b)=Int.ofNat (L/b):=fun b=>by cases L<;>cases b<;>simp [Int.fdiv]<;>rfl
 rcases hB with rfl|rfl
 ·rw [<-e];exact PySem.AutoIntG4.int___floordiv___int_int_1 (Int.ofNat L) t (Int.ofNat 2) u (by decide) (fun h=>Bool.false_ne_true h)
 ·rw [<-e];exact PySem.AutoIntG4.int___floordiv___int_int_1 (Int.ofNat L) t (Int.ofNat 3) u (by decide) (fun h=>Bool.false_ne_true h)
abbrev Yi:=(Rf (.type "list":Value))/\((Rf (none:Option Addr))/\(Rf (Array.mk []:Array (Option Value))))
noncomputable abbrev eM:=[98,97,115,101]
noncomputable abbrev gF:=[112,111,108,121]
noncomputable abbrev iJ:=[102,105,103,117,114,101,115]
noncomputable abbrev cr a b:=(.int (Yh a) b:Value)
noncomputable abbrev iX:=[108,101,102,116]
abbrev rE(a:Array Value):=Yi/\(a.size.le 1000)
noncomputable abbrev D3:=[116,101,120,116]
noncomputable abbrev E7:=[116,111,108,100]
section
variable(W:WW)(b7:Bool)(p0:Pos)(vA:FA)(aF c1 aV aO aG B L:Nat)(u1 u2 u3 u4 u5 u6 u7 u8 tB tL:Tok)(vPl vTx vTo:Value)(gs:Array Value)(epG:Nat)(s:Shared)
include W b7 p0 vA aF c1 aV aO aG B L u1 u2 u3 u4 u5 u6 u7 u8 tB tL vPl vTx vTo gs epG s
theorem sN(hgt:decide (Int.ofNat L>0)=true)(hB:B=2\/B=3)(hsz:gs.size<=1000)(E:WW->ae)(hE:E=fun W=>[(A aF,ah "frame" ([aa (pW W) gF u1 (Yp aV),aa (pW W) eM u2 (cr B tB),aa (pW W) Yq u3 (Yp aO),aa (pW W) my u4 vPl,aa (pW W) iJ u5 (Yp aG),aa (pW W) iX u6 (cr L tL)]++(cond b7 [] [aa (pW W) D3 u7 vTx,aa (pW W) E7 u8 vTo])) (cond b7 6 8)),(Yk aG gs epG)])(hP:az (pW W) (E W) s){Q:Prop}(kQ:∀(n tb:Nat) (s':Shared),Hn s n->Ht s tb->br (Yt W) (⟨gK (pW W) aF c1,none,none,(Y1 vA),none⟩) p0 s s'->az (pW W) ([(A aF,ah "frame" ([aa (pW W) gF u1 (Yp aV),aa (pW W) eM u2 (cr B tB),aa (pW W) Yq u3 (Yp aO),aa (pW W) my u4 vPl,aa (pW W) iJ u5 (Yp aG),aa (pW W) iX u6 (.int (Int.ofNat (L/B)) (Y8 tb 3))]++(cond b7 [] [aa (pW W) D3 u7 vTx,aa (pW W) E7 u8 vTo])) (cond b7 6 8)),(A aG,Obj.mapSeq (c8 (.int (Int.ofNat (L % B)) (Y8 tb 2))) (ab gs epG))]) s'->af (E W) s s'->Q):Q:=by
 obtain⟨n,tb,gb,hn,ht,hg⟩:=hP.nt
 refine bT hE hP hn ht hg (fun E W Z hs=>cm (ei (Vw W) 2 [pn,(f7 [] (.int (Int.ofNat (L % B)))),(yg 1),(f7 [] (.int (Int.ofNat (L/B))))] [] [] []) 92 (⟨gK (pW W) aF c1,none,none,(Y1 vA),none⟩) (p0) (aQ (gK (pW W) aF c1)) [] hs (cO E n tb gb) (kZ [0,1] Z)) (fun E W Z hs=>ad (lE E) (A n) gb (sl hs 0 1) ((av (.builtin "int.__gt__" ⟨[(cr L tL),(.int Yx (TK tb))],[]⟩) [] ww/\Yc)/\ad (lE E) (A n) gb (sl hs 2 7) ((av (.builtin "int.__mod__" ⟨[(cr L tL),(cr B tB)],[]⟩) [] (Made.int (Int.ofNat (L % B)))/\Yc)/\ad (lE E) (A n) gb (sl hs 10 1) (((Rf (.builtin "list.insert" ⟨[(Yp aG),(.int Yx (Y8 tb 1)),(.int (Int.ofNat (L % B)) (Y8 tb 2))],[]⟩:Code))/\(rE gs))/\ad (lE E) (A n) gb (sl hs 12 3) ((av (.builtin "int.__floordiv__" ⟨[(cr L tL),(cr B tB)],[]⟩) [] (Made.int (Int.ofNat (L/B)))/\Yc)/\ad (lE E) (A n) gb (sl hs 16 2) (Z (.again (gK (pW W) aF c1)) (Y2 n 0) (Y8 tb 5) true (ax ([(A aF,ah "frame" ([aa (pW W) gF u1 (Yp aV),aa (pW W) eM u2 (cr B tB),aa (pW W) Yq u3 (Yp aO),aa (pW W) my u4 vPl,aa (pW W) iJ u5 (Yp aG),aa (pW W) iX u6 (.int (Int.ofNat (L/B)) (Y8 tb 3))]++(cond b7 [] [aa (pW W) D3 u7 vTx,aa (pW W) E7 u8 vTo])) (cond b7 6 8)),(A aG,Obj.mapSeq (c8 (.int (Int.ofNat (L % B)) (Y8 tb 2))) (ab gs epG))])))))))) (fun _=>[1,4000,1,2,2,2,2,1,1,4001,2,4002,2,1,1,4003,1,1,3000]) (by apply iW b7<;>exact iY (by kernel_rfl)) rfl ⟨fun _=>au,fun _=>au,fun _=>t9,fun _=>au,trivial⟩ trivial rfl fun hs=>?_
 refine rI ⟨lZ hgt,rfl⟩ ?_
 refine rI ⟨mZ hB,rfl⟩ ?_
 refine rI ⟨rfl,⟨rfl,rfl,rfl⟩,hsz⟩ ?_
 refine rI ⟨uw hB,rfl⟩ ?_
 exact rF fun s' r _ h3 h4 h5=>kQ n tb s' hn ht (am rfl r) ⟨h4,ai h3,(nx hE hP).nd,(nx hE hP).lo⟩ h5
theorem sy(hgt:decide (Int.ofNat L>0)=false)(E:WW->ae)(hE:E=fun W=>[(A aF,ah "frame" ([aa (pW W) gF u1 (Yp aV),aa (pW W) eM u2 (cr B tB),aa (pW W) Yq u3 (Yp aO),aa (pW W) my u4 vPl,aa (pW W) iJ u5 (Yp aG),aa (pW W) iX u6 (cr L tL)]++(cond b7 [] [aa (pW W) D3 u7 vTx,aa (pW W) E7 u8 vTo])) (cond b7 6 8)),(Yk aG gs epG)])(hP:az (pW W) (E W) s){Q:Prop}(kQ:∀(n tb:Nat) (s':Shared),Hn s n->Ht s tb->Runs (Yt W) (⟨gK (pW W) aF c1,none,none,(Y1 vA),none⟩) p0 ((Yt W).den (gK (pW W) aF c1)) [] s fu s'->cN (pW W) s'->cI ([(A aF,ah "frame" ([aa (pW W) gF u1 (Yp aV),aa (pW W) eM u2 (cr B tB),aa (pW W) Yq u3 (Yp aO),aa (pW W) my u4 vPl,aa (pW W) iJ u5 (Yp aG),aa (pW W) iX u6 (cr L tL)]++(cond b7 [] [aa (pW W) D3 u7 vTx,aa (pW W) E7 u8 vTo])) (cond b7 6 8)),(Yk aG gs epG)]) s'.heap->af (E W) s s'->Q):Q:=by
 obtain⟨n,tb,gb,hn,ht,hg⟩:=hP.nt
 refine bT hE hP hn ht hg (fun E W Z hs=>cm (ei (Vw W) 2 [mx] [] [] []) 49 (⟨gK (pW W) aF c1,none,none,(Y1 vA),none⟩) (p0) (aQ (gK (pW W) aF c1)) [] hs (cO E n tb gb) (kZ [0,1] Z)) (fun E W Z hs=>ad (lE E) (A n) gb (sl hs 0 1) ((av (.builtin "int.__gt__" ⟨[(cr L tL),(.int Yx (TK tb))],[]⟩) [] wu/\Yc)/\ad (lE E) (A n) gb [] (Z oY (Y2 n 0) (Y8 tb 1) true (ax ([(A aF,ah "frame" ([aa (pW W) gF u1 (Yp aV),aa (pW W) eM u2 (cr B tB),aa (pW W) Yq u3 (Yp aO),aa (pW W) my u4 vPl,aa (pW W) iJ u5 (Yp aG),aa (pW W) iX u6 (cr L tL)]++(cond b7 [] [aa (pW W) D3 u7 vTx,aa (pW W) E7 u8 vTo])) (cond b7 6 8)),(Yk aG gs epG)]))))) (fun _=>[1,4000]) (by apply iW b7<;>exact iY (by kernel_rfl)) rfl ⟨fun _=>au,trivial⟩ trivial rfl fun hs=>?_
 refine rI ⟨lZ hgt,rfl⟩ ?_
 exact rF fun s' r _ h3 h4 h5=>kQ n tb s' hn ht (by rw [bI];exact r) h4 (ai h3) h5
end
noncomputable def jE(P:Params)(aV aO:Nat)(u1 u2 u3 u4 tB:Tok)(B:Nat)(vPl:Value)(rest:List DictEntry)(bR:Nat):Obj:=ah "frame" ([aa P gF u1 (Yp aV),aa P eM u2 (cr B tB),aa P Yq u3 (Yp aO),aa P my u4 vPl]++rest) bR
noncomputable abbrev DC:=D3
noncomputable abbrev DN:=DC
noncomputable abbrev DW:=E7
noncomputable abbrev DS:=DW
def It(P:Params)(tl:List DictEntry)(bR:Nat):Prop:=(tl=[]/\bR=6)\/∃u7 u8 v7 v8,tl=[aa P DN u7 v7,aa P DS u8 v8]/\bR=8
noncomputable def dp(B:Nat):Nat->Nat->List Nat->List Nat
 |0,_,acc=>acc
 |f+1,L,acc=>if L=0 then acc else dp B f (L/B) (L % B::acc)
theorem jD(B:Nat):∀f acc,dp B f 0 acc=acc
 |0,_=>rfl
 |_+1,_=>if_pos rfl
theorem mw{gs:Array Value}{acc:List Nat}{d:Nat}{t:Tok}(h:aZ gs acc):aZ (c8 (.int (Int.ofNat d) t) gs) (d::acc):=by
 refine⟨by simp [c8,h.1],fun i j e=>?_⟩
 cases i with
 |zero=>simp at e;subst e;exact⟨t,rfl⟩
 |succ i=>
  obtain⟨t',e'⟩:=h.2 i j (by simpa using e)
  exact⟨t',by simpa [c8] using e'⟩
section
variable(W:WW)(vA:FA)(aF c1 aV aO aG B:Nat)(u1 u2 u3 u4 u5 u6 tB:Tok)(vPl:Value)(tl:List DictEntry)(bR:Nat)(hB:B=2\/B=3)(htl:It (pW W) tl bR)
include W vA aF c1 aV aO aG B u1 u2 u3 u4 u5 u6 tB vPl tl bR hB htl
theorem zX:∀(f L:Nat) (acc:List Nat) (gs:Array Value) (ep:Nat) (tL:Tok) (p0:Pos) (s:Shared),L<2^f->aZ gs acc->gs.size+f<=900->az (pW W) [(A aF,jE (pW W) aV aO u1 u2 u3 u4 tB B vPl ([aa (pW W) iJ u5 (Yp aG),aa (pW W) iX u6 (cr L tL)]++tl) bR),(Yk aG gs ep)] s->
  ∀Q:Prop,(∀s' gs' ep' tL',Runs (Yt W) ⟨gK (pW W) aF c1,none,none,(Y1 vA),none⟩ p0 ((Yt W).den (gK (pW W) aF c1)) [] s fu s'->cN (pW W) s'->cI [(A aF,jE (pW W) aV aO u1 u2 u3 u4 tB B vPl ([aa (pW W) iJ u5 (Yp aG),aa (pW W) iX u6 (.int Yx tL')]++tl) bR),(Yk aG gs' ep')] s'.heap->af [(A aF,jE (pW W) aV aO u1 u2 u3 u4 tB B vPl ([aa (pW W) iJ u5 (Yp aG),aa (pW W) iX u6 (cr L tL)]++tl) bR),(Yk aG gs ep)] s s'->aZ gs' (dp B f L acc)->gs'.size<=900->Q)->Q:=by
 have fin:∀(acc:List Nat) (gs:Array Value) (ep:Nat) (tL:Tok) (p0:Pos) (s:Shared),aZ gs acc->gs.size<=900->az (pW W) [(A aF,jE (pW W) aV aO u1 u2 u3 u4 tB B vPl ([aa (pW W) iJ u5 (Yp aG),aa (pW W) iX u6 (.int Yx tL)]++tl) bR),(Yk aG gs ep)] s->
  ∀Q:Prop,(∀s' gs' ep' tL',Runs (Yt W) ⟨gK (pW W) aF c1,none,none,(Y1 vA),none⟩ p0 ((Yt W).den (gK (pW W) aF c1)) [] s fu s'->cN (pW W) s'->cI [(A aF,jE (pW W) aV aO u1 u2 u3 u4 tB B vPl ([aa (pW W) iJ u5 (Yp aG),aa (pW W) iX u6 (.int Yx tL')]++tl) bR),(Yk aG gs' ep')] s'.heap->af [(A aF,jE (pW W) aV aO u1 u2 u3 u4 tB B vPl ([aa (pW W) iJ u5 (Yp aG),aa (pW W) iX u6 (.int Yx tL)]++tl) bR),(Yk aG gs ep)] s s'->aZ gs' acc->gs'.size<=900->Q)->Q:=by
  intro acc gs ep tL p0 s hg hsz hP Q kQ
  rcases htl with⟨rfl,rfl⟩|⟨u7,u8,v7,v8,rfl,rfl⟩
  ·apply sy (b7:=true) (L:=0) (u7:=0) (u8:=0) (vTx:=.none) (vTo:=.none) (p0:=p0) (hgt:=rfl) (hE:=rfl) (hP:=hP) (kQ:=?k21) ..
   case' k21=>intro n tb s' _ _ r h1 h2 h3
   exact kQ s' gs ep tL r h1 h2 h3 hg hsz
  ·apply sy (b7:=false) (L:=0) (p0:=p0) (hgt:=rfl) (hE:=rfl) (hP:=hP) (kQ:=?k22) ..
   case' k22=>intro n tb s' _ _ r h1 h2 h3
   exact kQ s' gs ep tL r h1 h2 h3 hg hsz
 intro f
 induction f with
 |zero=>
  intro L acc gs ep tL p0 s hL hg hsz hP Q kQ
  have:L=0:=by simpa using hL
  subst this
  exact fin acc gs ep tL p0 s hg (by lia) hP Q kQ
 |succ f ih=>
  intro L acc gs ep tL p0 s hL hg hsz hP Q kQ
  by_cases h0:L=0
  ·subst h0
   rw [jD] at kQ
   exact fin acc gs ep tL p0 s hg (by lia) hP Q kQ
  ·have hd:dp B (f+1) L acc=dp B f (L/B) (L % B::acc):=if_neg h0
   have hlt:L/B<2^f:=by
    have h2:L/B<=L/2:=Nat.div_le_div_left (by lia) (by lia)
    have:2^(f+1)=2*2^f:=by rw [Nat.pow_succ,Nat.mul_comm]
    lia
   have hsz':∀t,(c8 (.int (Int.ofNat (L % B)) t) gs).size+f<=900:=fun t=>by simp [c8];lia
   rw [hd] at kQ
   have step:∀G:Prop,(∀s1 t ep' tL',br (Yt W) ⟨gK (pW W) aF c1,none,none,(Y1 vA),none⟩ p0 s s1->az (pW W) [(A aF,jE (pW W) aV aO u1 u2 u3 u4 tB B vPl ([aa (pW W) iJ u5 (Yp aG),aa (pW W) iX u6 (.int (Int.ofNat (L/B)) tL')]++tl) bR),(A aG,ab (c8 (.int (Int.ofNat (L % B)) t) gs) ep')] s1->af [(A aF,jE (pW W) aV aO u1 u2 u3 u4 tB B vPl ([aa (pW W) iJ u5 (Yp aG),aa (pW W) iX u6 (cr L tL)]++tl) bR),(Yk aG gs ep)] s s1->G)->G:=by
    intro G kG
    rcases htl with⟨rfl,rfl⟩|⟨u7,u8,v7,v8,rfl,rfl⟩
    ·apply sN (b7:=true) (L:=L) (u7:=0) (u8:=0) (vTx:=.none) (vTo:=.none) (p0:=p0) (hgt:=decide_eq_true (Int.ofNat_lt.mpr (Nat.pos_of_ne_zero h0))) (hB:=hB) (hsz:=by lia) (hE:=rfl) (hP:=hP) (kQ:=?k23) ..
     case' k23=>intro n tb s1 _ _ H hP1 K
     exact kG s1 _ _ _ H hP1 K
    ·apply sN (b7:=false) (L:=L) (p0:=p0) (hgt:=decide_eq_true (Int.ofNat_lt.mpr (Nat.pos_of_ne_zero h0))) (hB:=hB) (hsz:=by lia) (hE:=rfl) (hP:=hP) (kQ:=?k24) ..
     case' k24=>intro n tb s1 _ _ H hP1 K
     exact kG s1 _ _ _ H hP1 K
   refine step _ fun s1 t ep1 tL1 zq1 hP1 K1=>?_
   obtain⟨p',H⟩:=zq1
   refine ih (L/B) (L % B::acc) _ ep1 tL1 p' s1 hlt (mw hg) (hsz' t) hP1 _ fun s2 gs2 ep2 tL2 r h1 h2 h3 h4 h5=>?_
   exact kQ s2 gs2 ep2 tL2 (H _ _ r) h1 h2 (K1.trans (h3.cast rfl)) h4 h5
structure Ai where
 gs:Array Value
 ep:Nat
 tL:Tok
noncomputable def za(W:WW)(vA:FA)(aF c1 aV aO aG B:Nat)(u1 u2 u3 u4 u5 u6 tB:Tok)(vPl:Value)(tl:List DictEntry)(bR:Nat)(x:Ai):Result×List Obj×ae:=(m8,([(A aF,jE (pW W) aV aO u1 u2 u3 u4 tB B vPl ([aa (pW W) iJ u5 (Yp aG),aa (pW W) iX u6 (.int Yx x.tL)]++tl) bR),(A aG,ab x.gs x.ep)]:ae).map (·.2),[])
theorem uZ(f L:Nat)(tL:Tok)(hL:L<2^f)(hf:f<=800):
  cq (Vw W) ⟨gK (pW W) aF c1,none,none,(Y1 vA),none⟩ [(A aF,jE (pW W) aV aO u1 u2 u3 u4 tB B vPl ([aa (pW W) iJ u5 (Yp aG),aa (pW W) iX u6 (cr L tL)]++tl) bR),(A aG,iz)] (za W vA aF c1 aV aO aG B u1 u2 u3 u4 u5 u6 tB vPl tl bR) (fun x=>aZ x.gs (dp B f L [])/\x.gs.size<=900):=by
 intro p0 s hP
 refine zX W vA aF c1 aV aO aG B u1 u2 u3 u4 u5 u6 tB vPl tl bR hB htl f L [] ⟨[]⟩ 0 tL p0 s hL ⟨rfl,fun i j e=>by simp at e⟩ (by simp;lia) hP _ fun s' gs' ep' tL' r h1 h2 h3 h4 h5=>?_
 exact⟨⟨gs',ep',tL'⟩,s',r,h1,h3,⟨h2.1,h2.2.1,trivial⟩,trivial,(fun y hy=>nomatch hy),nodup_nil,h4,h5⟩
end
noncomputable abbrev sX:=[102,105,103,117,114,101]
noncomputable abbrev C6:=sX
abbrev wL a b c:=((A a,⟨Yu,none,.cell (some (pk b c)),⟨[]⟩⟩):Nat×Obj)
theorem jU(W:WW)(b7:Bool){d7:Nat}{d8:Nat}(hz:d7=0/\d8=917536\/d7=1/\d8=917553\/d7=2/\d8=917631)(p0:Pos)(vA:FA)(aF c1 aL aI aC aG bc:Nat)(uF tf tbs:Tok)(vF:Value)(k:Nat)(gs as:Array Value)(epG epA:Nat)(s:Shared)(hit:gs[(Yh k).toNat]? =some (cr d7 tf))(hsz:as.size<=1000)(E:WW->ae)(hE:E=fun W=>[(A aL,ah "dict" (cond b7 [] [aa (pW W) C6 uF vF]) (cond b7 0 1)),(Y5 aI aG k),(Yk aG gs epG),(Yk aC as epA),(wL c1 bc tbs)])(hP:az (pW W) (E W) s){Q:Prop}(kQ:∀(n tb:Nat) (s':Shared),Hn s n->Ht s tb->br (Yt W) (⟨ao (fn (pW W)) (bj (pW W) aF c1) aL aI aC,none,none,(Y1 vA),none⟩) p0 s s'->az (pW W) ([(A aL,ah "dict" [aa (pW W) C6 (cond b7 (TK tb) uF) (cr d7 tf)] 1),(lS aI aG k),(Yk aG gs epG),(A aC,Obj.mapSeq (·.push (.str ⟨⟨[bc,d8]⟩⟩ (Y8 tb 5))) (ab as epA)),(wL c1 bc tbs)]) s'->af (E W) s s'->Q):Q:=by
 obtain⟨n,tb,gb,hn,ht,hg⟩:=hP.nt
 refine bT hE hP hn ht hg (fun E W Z hs=>cm (ei (Vw W) 5 [(bG 1 2 (cr d7 tf)),(cf 3)] [] [] []) 96 (⟨ao (fn (pW W)) (bj (pW W) aF c1) aL aI aC,none,none,(Y1 vA),none⟩) (p0) (aQ (ao (fn (pW W)) (bj (pW W) aF c1) aL aI aC)) [] hs (cO E n tb gb) (kZ [0,1,2,3,4] Z)) (fun E W Z hs=>ad (lE E) (A n) gb (sl hs 0 2) (((Yo aI)/\((zv aG)/\(((yY gs k):i8)=(some (cr d7 tf)))))/\ad (lE E) (A n) gb (sl hs 3 14) (((Rf (.builtin "list.append" ⟨[(Yp aC),(.str (Str.mk ⟨[bc,d8]⟩) (Y8 tb 5))],[]⟩:Code))/\(rE as))/\ad (lE E) (A n) gb (sl hs 18 1) (Z (.again (ao (fn (pW W)) (bj (pW W) aF c1) aL aI aC)) (Y2 n 1) (Y8 tb 6) true (ax ([(A aL,ah "dict" [aa (pW W) C6 (cond b7 (TK tb) uF) (cr d7 tf)] 1),(lS aI aG k),(Yk aG gs epG),(A aC,Obj.mapSeq (·.push (.str ⟨⟨[bc,d8]⟩⟩ (Y8 tb 5))) (ab as epA)),(wL c1 bc tbs)])))))) (fun _=>[2,2,4000,2,2,1,1,5,0,0,1,6,6,6,6,6,4,4001,4,3000]) (by apply iW b7<;>(rcases hz with h|h|h<;>apply D8 h)<;>exact oW (by kernel_rfl)) rfl ⟨fun _=>bi,fun _=>bx,trivial⟩ trivial rfl fun hs=>?_
 refine rI ⟨rfl,rfl,hit⟩ ?_
 refine rI ⟨rfl,⟨rfl,rfl,rfl⟩,hsz⟩ ?_
 exact rF fun s' r _ h3 h4 h5=>kQ n tb s' hn ht (am rfl r) ⟨h4,ai h3,(nx hE hP).nd,(nx hE hP).lo⟩ h5
theorem Fo(W:WW)(p0:Pos)(vA:FA)(aF c1 aL aI aC aG:Nat)(loc:List DictEntry)(k el:Nat)(gs as:Array Value)(epG epA:Nat)(s:Shared)(hit:gs[(Yh k).toNat]? =none)(E:WW->ae)(hE:E=fun W=>[(mh aL loc el),(Y5 aI aG k),(Yk aG gs epG),(Yk aC as epA)])(hP:az (pW W) (E W) s){Q:Prop}(kQ:∀(n tb:Nat) (s':Shared),Hn s n->Ht s tb->Runs (Yt W) (⟨ao (fn (pW W)) (bj (pW W) aF c1) aL aI aC,none,none,(Y1 vA),none⟩) p0 ((Yt W).den (ao (fn (pW W)) (bj (pW W) aF c1) aL aI aC)) [] s fu s'->cN (pW W) s'->cI (Dr aL loc el aI k aG gs epG aC as epA) s'.heap->af (E W) s s'->Q):Q:=by
 obtain⟨n,tb,gb,hn,ht,hg⟩:=hP.nt
 refine bT hE hP hn ht hg (fun E W Z hs=>cm (vd W 4 1 2) 53 (⟨ao (fn (pW W)) (bj (pW W) aF c1) aL aI aC,none,none,(Y1 vA),none⟩) (p0) (aQ (ao (fn (pW W)) (bj (pW W) aF c1) aL aI aC)) [] hs (cO E n tb gb) (m4 Z)) (fun E W Z hs=>ad (lE E) (A n) gb (sl hs 0 2) ((vR aI aG gs k)/\ad (lE E) (A n) gb (sl hs 3 3) (Z (.fin fu) (Y2 n 2) (Y8 tb 0) true (ax ((GY aL loc el aI k aG gs epG aC as epA)))))) (fun _=>[2,2,4000,2,2,6]) (oW (by kernel_rfl)) rfl ⟨fun _=>cg,trivial⟩ trivial rfl fun hs=>?_
 refine rI ⟨rfl,rfl,hit⟩ ?_
 exact rF fun s' r _ h3 h4 h5=>kQ n tb s' hn ht (by rw [bI];exact r) h4 (ai h3) h5
theorem Fk(W:WW)(p0:Pos)(vA:FA)(aF c1 aL aI aC aG:Nat)(gs:Array Value)(epG:Nat)(s:Shared)(E:WW->ae)(hE:E=fun W=>(Y9 aL aI aG gs epG aC))(hP:az (pW W) (E W) s){Q:Prop}(kQ:∀(n tb:Nat) (s':Shared),Hn s n->Ht s tb->cu (Yt W) (⟨ay (ao (fn (pW W)) (bj (pW W) aF c1) aL aI aC),none,none,(Y1 vA),none⟩) (ao (fn (pW W)) (bj (pW W) aF c1) aL aI aC) p0 s s'->az (pW W) ((Y9 aL aI aG gs epG aC)) s'->af (E W) s s'->Q):Q:=by
 obtain⟨n,tb,gb,hn,ht,hg⟩:=hP.nt
 refine bT hE hP hn ht hg (fun E W Z hs=>cm (oZ W 4) 52 (⟨ay (ao (fn (pW W)) (bj (pW W) aF c1) aL aI aC),none,none,(Y1 vA),none⟩) (p0) (aQ (ay (ao (fn (pW W)) (bj (pW W) aF c1) aL aI aC))) [] hs (cO E n tb gb) (m4 Z)) (fun E W Z hs=>ad (lE E) (A n) gb (zt hs W) (Z (.again (ao (fn (pW W)) (bj (pW W) aF c1) aL aI aC)) (Y2 n 0) (Y8 tb 0) true (ax ((Y9 aL aI aG gs epG aC))))) zE (pD (by kernel_rfl)) rfl trivial (by exact trivial) rfl fun hs=>?_
 exact rF fun s' r _ h3 h4 h5=>kQ n tb s' hn ht (ch r) ⟨h4,ai h3,(nx hE hP).nd,(nx hE hP).lo⟩ h5
theorem jG(W:WW)(b7:Bool){d7:Nat}{d8:List Nat}{d9:Nat}(hz:d7=0/\d8=[32]/\d9=1\/d7=1/\d8=[124,49]/\d9=2\/d7=2/\d8=[124,127]/\d9=6)(p0:Pos)(vA:FA)(aF c1 aL aI aC aG:Nat)(uF tf:Tok)(vF:Value)(k:Nat)(gs as:Array Value)(epG epA:Nat)(s:Shared)(hit:gs[(Yh k).toNat]? =some (cr d7 tf))(hsz:as.size<=1000)(E:WW->ae)(hE:E=fun W=>[(A aL,ah "dict" (cond b7 [] [aa (pW W) C6 uF vF]) (cond b7 0 1)),(Y5 aI aG k),(Yk aG gs epG),(Yk aC as epA)])(hP:az (pW W) (E W) s){Q:Prop}(kQ:∀(n tb:Nat) (s':Shared),Hn s n->Ht s tb->br (Yt W) (⟨ao (fk (pW W)) (bj (pW W) aF c1) aL aI aC,none,none,(Y1 vA),none⟩) p0 s s'->az (pW W) ([(A aL,ah "dict" [aa (pW W) C6 (cond b7 (TK tb) uF) (cr d7 tf)] 1),(lS aI aG k),(Yk aG gs epG),(A aC,Obj.mapSeq (·.push (.str ⟨⟨d8⟩⟩ (Nat.add (TK tb) d9))) (ab as epA))]) s'->af (E W) s s'->Q):Q:=by
 obtain⟨n,tb,gb,hn,ht,hg⟩:=hP.nt
 refine bT hE hP hn ht hg (fun E W Z hs=>cm (ei (Vw W) 4 [(bG 1 2 (cr d7 tf)),(cf 3)] [] [] []) 95 (⟨ao (fk (pW W)) (bj (pW W) aF c1) aL aI aC,none,none,(Y1 vA),none⟩) (p0) (aQ (ao (fk (pW W)) (bj (pW W) aF c1) aL aI aC)) [] hs (cO E n tb gb) (m4 Z)) (fun E W Z hs=>ad (lE E) (A n) gb (sl hs 0 2) (((Yo aI)/\((zv aG)/\(((yY gs k):i8)=(some (cr d7 tf)))))/\ad (lE E) (A n) gb (sl hs 3 13) (((Rf (.builtin "list.append" ⟨[(Yp aC),(.str (Str.mk ⟨d8⟩) (Nat.add (TK tb) d9))],[]⟩:Code))/\(rE as))/\ad (lE E) (A n) gb (sl hs 17 1) (Z (.again (ao (fk (pW W)) (bj (pW W) aF c1) aL aI aC)) (Y2 n 1) (Y8 tb 7) true (ax ([(A aL,ah "dict" [aa (pW W) C6 (cond b7 (TK tb) uF) (cr d7 tf)] 1),(lS aI aG k),(Yk aG gs epG),(A aC,Obj.mapSeq (·.push (.str ⟨⟨d8⟩⟩ (Nat.add (TK tb) d9))) (ab as epA))])))))) (fun _=>[2,2,4000,2,2,1,1,0,0,1,5,5,5,5,5,4,4001,4,3000]) (by apply iW b7<;>(rcases hz with h|h|h<;>apply oa h)<;>exact oW (by kernel_rfl)) rfl ⟨fun _=>bi,fun _=>bx,trivial⟩ trivial rfl fun hs=>?_
 refine rI ⟨rfl,rfl,hit⟩ ?_
 refine rI ⟨rfl,⟨rfl,rfl,rfl⟩,hsz⟩ ?_
 exact rF fun s' r _ h3 h4 h5=>kQ n tb s' hn ht (am rfl r) ⟨h4,ai h3,(nx hE hP).nd,(nx hE hP).lo⟩ h5
theorem Fh(W:WW)(p0:Pos)(vA:FA)(aF c1 aL aI aC aG:Nat)(loc:List DictEntry)(k el:Nat)(gs as:Array Value)(epG epA:Nat)(s:Shared)(hit:gs[(Yh k).toNat]? =none)(E:WW->ae)(hE:E=fun W=>[(mh aL loc el),(Y5 aI aG k),(Yk aG gs epG),(Yk aC as epA)])(hP:az (pW W) (E W) s){Q:Prop}(kQ:∀(n tb:Nat) (s':Shared),Hn s n->Ht s tb->Runs (Yt W) (⟨ao (fk (pW W)) (bj (pW W) aF c1) aL aI aC,none,none,(Y1 vA),none⟩) p0 ((Yt W).den (ao (fk (pW W)) (bj (pW W) aF c1) aL aI aC)) [] s fu s'->cN (pW W) s'->cI (Dr aL loc el aI k aG gs epG aC as epA) s'.heap->af (E W) s s'->Q):Q:=by
 obtain⟨n,tb,gb,hn,ht,hg⟩:=hP.nt
 refine bT hE hP hn ht hg (fun E W Z hs=>cm (vd W 4 1 2) 53 (⟨ao (fk (pW W)) (bj (pW W) aF c1) aL aI aC,none,none,(Y1 vA),none⟩) (p0) (aQ (ao (fk (pW W)) (bj (pW W) aF c1) aL aI aC)) [] hs (cO E n tb gb) (m4 Z)) (fun E W Z hs=>ad (lE E) (A n) gb (sl hs 0 2) ((vR aI aG gs k)/\ad (lE E) (A n) gb (sl hs 3 3) (Z (.fin fu) (Y2 n 2) (Y8 tb 0) true (ax ((GY aL loc el aI k aG gs epG aC as epA)))))) (fun _=>[2,2,4000,2,2,6]) (oW (by kernel_rfl)) rfl ⟨fun _=>cg,trivial⟩ trivial rfl fun hs=>?_
 refine rI ⟨rfl,rfl,hit⟩ ?_
 exact rF fun s' r _ h3 h4 h5=>kQ n tb s' hn ht (by rw [bI];exact r) h4 (ai h3) h5
theorem DZ(W:WW)(p0:Pos)(vA:FA)(aF c1 aL aI aC aG:Nat)(gs:Array Value)(epG:Nat)(s:Shared)(E:WW->ae)(hE:E=fun W=>(Y9 aL aI aG gs epG aC))(hP:az (pW W) (E W) s){Q:Prop}(kQ:∀(n tb:Nat) (s':Shared),Hn s n->Ht s tb->cu (Yt W) (⟨ay (ao (fk (pW W)) (bj (pW W) aF c1) aL aI aC),none,none,(Y1 vA),none⟩) (ao (fk (pW W)) (bj (pW W) aF c1) aL aI aC) p0 s s'->az (pW W) ((Y9 aL aI aG gs epG aC)) s'->af (E W) s s'->Q):Q:=by
 obtain⟨n,tb,gb,hn,ht,hg⟩:=hP.nt
 refine bT hE hP hn ht hg (fun E W Z hs=>cm (oZ W 4) 52 (⟨ay (ao (fk (pW W)) (bj (pW W) aF c1) aL aI aC),none,none,(Y1 vA),none⟩) (p0) (aQ (ay (ao (fk (pW W)) (bj (pW W) aF c1) aL aI aC))) [] hs (cO E n tb gb) (m4 Z)) (fun E W Z hs=>ad (lE E) (A n) gb (zt hs W) (Z (.again (ao (fk (pW W)) (bj (pW W) aF c1) aL aI aC)) (Y2 n 0) (Y8 tb 0) true (ax ((Y9 aL aI aG gs epG aC))))) zE (pD (by kernel_rfl)) rfl trivial (by exact trivial) rfl fun hs=>?_
 exact rF fun s' r _ h3 h4 h5=>kQ n tb s' hn ht (ch r) ⟨h4,ai h3,(nx hE hP).nd,(nx hE hP).lo⟩ h5
theorem af.up{E:ae}{x:Nat×Obj}{s s':Shared}(h:af E s s'):af (E++[x]) s s':=
 ⟨fun b o q hb=>h.keep b o q (fun hm=>hb (by rw [map_append];exact mem_append_left _ hm)),h.drawn,h.os,h.size⟩
theorem az.uncut{P:Params}{E E':ae}{x:Nat×Obj}{s s':Shared}(hP:az P (E++[x]) s)(hP':az P E' s')(K:af E s s')(e:E'.map (·.1)=E.map (·.1):=by rfl):az P (E'++[x]) s':=by
 have nd:=hP.nd
 rw [map_append] at nd
 have hx:s.heap.get? x.1=some x.2:=(cj.mp hP.has).2.1
 refine⟨hP'.rdy,cj.mpr ⟨hP'.has,K.keep _ _ hx (fun hm=>(List.nodup_append.mp nd).2.2 _ hm _ (List.mem_singleton.mpr rfl) rfl),trivial⟩,?_,?_⟩
 ·rw [map_append,e];exact nd
 ·intro a ha
  rw [map_append,e,<-map_append] at ha
  exact hP.lo a ha
theorem aX.pushS{lines:Array Value}{ls:List (List Nat)}{cs:List Nat}{t:Tok}(h:aX lines ls):aX (lines.push (.str ⟨⟨cs⟩⟩ t)) (ls++[cs]):=by
 refine⟨by simp [h.1],fun i l e=>?_⟩
 by_cases q:i<ls.length
 ·rw [getElem?_append_left q] at e
  rw [getElem?_push,if_neg (by rw [h.1];lia)]
  exact h.2 i l e
 ·rw [getElem?_append_right (by lia)] at e
  have hl:=(List.getElem?_eq_some_iff.mp e).1
  have:i=ls.length:=by simp at hl;lia
  subst this
  simp at e
  rw [getElem?_push,if_pos (by rw [h.1])]
  exact⟨t,by rw [<-e]⟩
noncomputable def db(bc:Nat)(d:Nat):List Nat:=[bc,if d=0 then 917536 else if d=1 then 917553 else 917631]
abbrev vp a b c:=(A a,aK "list_iterator" [fC b,.int (Int.ofNat (c+1)) 0])
section
variable(W:WW)(vA:FA)(aF c1 aL aI aC aG:Nat)
include W vA aF c1 aL aI aC aG
section
variable(bc:Nat)(tbs:Tok)(gs:Array Value)(epG:Nat)(ds:List Nat)(hgs:aZ gs ds)(h3:∀d∈ds,d<3)
include bc tbs gs epG ds hgs h3
theorem Aq:∀(rest:List Nat) (k:Nat) (pre:List (List Nat)) (as:Array Value) (ep:Nat) (uF:Tok) (vF:Value) (p0:Pos) (s:Shared),ds.drop k=rest->aX as pre->as.size+rest.length<=1000->az (pW W) [(A aL,ah "dict" [aa (pW W) sX uF vF] 1),(Y5 aI aG k),(Yk aG gs epG),(Yk aC as ep),(wL c1 bc tbs)] s->
  ∀Q:Prop,(∀s' uF' vF' k' ep' as',Runs (Yt W) ⟨ao (fn (pW W)) (bj (pW W) aF c1) aL aI aC,none,none,(Y1 vA),none⟩ p0 ((Yt W).den (ao (fn (pW W)) (bj (pW W) aF c1) aL aI aC)) [] s fu s'->cN (pW W) s'->cI [(A aL,ah "dict" [aa (pW W) sX uF' vF'] 1),(kc aI k'),(Yk aG gs epG),(Yk aC as' ep'),(wL c1 bc tbs)] s'.heap->af [(A aL,ah "dict" [aa (pW W) sX uF vF] 1),(Y5 aI aG k),(Yk aG gs epG),(Yk aC as ep),(wL c1 bc tbs)] s s'->aX as' (pre++rest.map (db bc))->Q)->Q:=by
 intro rest0
 induction rest0 with
 |nil=>
  intro k pre as ep uF vF p0 s hd hls hsz hP Q kQ
  apply Fo (W:=W) (hit:=hgs.none hd) (hE:=rfl) (hP:=az.cut (E:=[(A aL,ah "dict" [aa (pW W) sX uF vF] 1),(Y5 aI aG k),(Yk aG gs epG),(Yk aC as ep)]) hP) (p0:=p0) (kQ:=?k25) ..
  case' k25=>intro n tb s' _ _ r h1 h2 h3
  have hc:=h3.keep _ _ hP.has.2.2.2.2.1 (by have:=hP.nd;simp only [map_cons,map_nil,List.nodup_cons,List.mem_cons,List.not_mem_nil,or_false] at this⊢;rintro(e|e|e|e)<;>rw [e] at this<;>simp at this)
  exact kQ s' uF vF k ep as r h1 ⟨h2.1,h2.2.1,h2.2.2.1,h2.2.2.2.1,hc,trivial⟩ h3.up (by simpa using hls)
 |cons q rest ih=>
  intro k pre as ep uF vF p0 s hd hls hsz hP Q kQ
  obtain⟨hk,hd'⟩:=bw hd
  obtain⟨tf,hit⟩:=hgs.get hk
  have hq:=h3 q (mem_of_getElem? hk)
  have hsz':as.size<=1000:=by simp at hsz;lia
  have step:∀G:Prop,(∀s1 u t v ep1,br (Yt W) ⟨ao (fn (pW W)) (bj (pW W) aF c1) aL aI aC,none,none,(Y1 vA),none⟩ p0 s s1->az (pW W) [(A aL,ah "dict" [aa (pW W) sX u v] 1),(vp aI aG k),(Yk aG gs epG),(A aC,ab (as.push (.str ⟨⟨db bc q⟩⟩ t)) ep1),(wL c1 bc tbs)] s1->af [(A aL,ah "dict" [aa (pW W) sX uF vF] 1),(Y5 aI aG k),(Yk aG gs epG),(Yk aC as ep),(wL c1 bc tbs)] s s1->G)->G:=by
   intro G kG
   have:q=0\/q=1\/q=2:=by lia
   rcases this with rfl|rfl|rfl
   ·apply jU (b7:=false) (hz:=(.inl ⟨rfl,rfl⟩)) (W:=W) (hit:=hit) (hsz:=by lia) (hE:=rfl) (hP:=hP) (p0:=p0) (kQ:=?k26) ..
    case' k26=>intro n tb s1 _ _ H hP1 K
    exact kG s1 _ _ _ _ H hP1 K
   ·apply jU (b7:=false) (hz:=(.inr (.inl ⟨rfl,rfl⟩))) (W:=W) (hit:=hit) (hsz:=by lia) (hE:=rfl) (hP:=hP) (p0:=p0) (kQ:=?k27) ..
    case' k27=>intro n tb s1 _ _ H hP1 K
    exact kG s1 _ _ _ _ H hP1 K
   ·apply jU (b7:=false) (hz:=(.inr (.inr ⟨rfl,rfl⟩))) (W:=W) (hit:=hit) (hsz:=by lia) (hE:=rfl) (hP:=hP) (p0:=p0) (kQ:=?k28) ..
    case' k28=>intro n tb s1 _ _ H hP1 K
    exact kG s1 _ _ _ _ H hP1 K
  refine step _ fun s1 u t v ep1 zq2 hP1 K1=>?_
  obtain⟨p',H⟩:=zq2
  refine ih (k+1) (pre++[db bc q]) _ ep1 u v p' s1 hd' hls.pushS (by simp at hsz⊢;lia) hP1 _ fun s2 u2 v2 k2 ep2 as2 r h4 h5 h6 h7=>?_
  exact kQ s2 u2 v2 k2 ep2 as2 (H _ _ r) h4 h5 (K1.trans (h6.cast rfl)) (by simpa using h7)
structure qE where
 u:Tok
 v:Value
 k:Nat
 ep:Nat
 ls:Array Value
noncomputable def xU(W:WW)(vA:FA)(aF c1 aL aI aC aG:Nat)(bc:Nat)(tbs:Tok)(gs:Array Value)(epG:Nat)(x:qE):Result×List Obj×ae:=(m8,([(A aL,ah "dict" [aa (pW W) C6 x.u x.v] 1),(A aI,aK "list_iterator" [.none,.int (Int.ofNat x.k) 0]),(Yk aG gs epG),(A aC,ab x.ls x.ep),(wL c1 bc tbs)]:ae).map (·.2),[])
theorem vV(hne:ds≠[])(hlen:ds.length<=900):
  cq (Vw W) ⟨ay (ao (fn (pW W)) (bj (pW W) aF c1) aL aI aC),none,none,(Y1 vA),none⟩ [(A aL,eI),(A aI,Yf aG),(Yk aG gs epG),(A aC,iz),(wL c1 bc tbs)] (xU W vA aF c1 aL aI aC aG bc tbs gs epG) (fun x=>aX x.ls (ds.map (db bc))):=
 dU (C:=ao (fn (pW W)) (bj (pW W) aF c1) aL aI aC) (fun p0 s hP=>by
  obtain⟨q,rest,rfl⟩:∃q rest,ds=q::rest:=by cases ds with|nil=>exact(hne rfl).elim|cons q r=>exact⟨q,r,rfl⟩
  obtain⟨tf,hit⟩:=hgs.get (k:=0) rfl
  have hq:=h3 q (mem_cons_self ..)
  have step:∀G:Prop,(∀s1 u t v ep1,br (Yt W) ⟨ao (fn (pW W)) (bj (pW W) aF c1) aL aI aC,none,none,(Y1 vA),none⟩ p0 s s1->az (pW W) [(A aL,ah "dict" [aa (pW W) sX u v] 1),(A aI,aK "list_iterator" [fC aG,.int (Int.ofNat 1) 0]),(Yk aG gs epG),(A aC,ab ((⟨[]⟩:Array Value).push (.str ⟨⟨db bc q⟩⟩ t)) ep1),(wL c1 bc tbs)] s1->af [(A aL,eI),(A aI,Yf aG),(Yk aG gs epG),(A aC,iz),(wL c1 bc tbs)] s s1->G)->G:=by
   intro G kG
   have:q=0\/q=1\/q=2:=by lia
   rcases this with rfl|rfl|rfl
   ·apply jU (b7:=true) (hz:=(.inl ⟨rfl,rfl⟩)) (W:=W) (hit:=hit) (hsz:=zero_le _) (hE:=rfl) (hP:=hP) (uF:=0) (vF:=.none) (p0:=p0) (kQ:=?k29) ..
    case' k29=>intro n tb s1 _ _ H hP1 K
    exact kG s1 _ _ _ _ H hP1 K
   ·apply jU (b7:=true) (hz:=(.inr (.inl ⟨rfl,rfl⟩))) (W:=W) (hit:=hit) (hsz:=zero_le _) (hE:=rfl) (hP:=hP) (uF:=0) (vF:=.none) (p0:=p0) (kQ:=?k30) ..
    case' k30=>intro n tb s1 _ _ H hP1 K
    exact kG s1 _ _ _ _ H hP1 K
   ·apply jU (b7:=true) (hz:=(.inr (.inr ⟨rfl,rfl⟩))) (W:=W) (hit:=hit) (hsz:=zero_le _) (hE:=rfl) (hP:=hP) (uF:=0) (vF:=.none) (p0:=p0) (kQ:=?k31) ..
    case' k31=>intro n tb s1 _ _ H hP1 K
    exact kG s1 _ _ _ _ H hP1 K
  refine step _ fun s1 u t v ep1 zq3 hP1 K1=>?_
  obtain⟨p',H⟩:=zq3
  refine Aq W vA aF c1 aL aI aC aG bc tbs gs epG (q::rest) hgs h3 rest 1 ([]++[db bc q]) _ ep1 u v p' s1 rfl (aX.pushS (lines:=⟨[]⟩) (ls:=[]) ⟨rfl,fun i l e=>by simp at e⟩) (by simp at hlen⊢;lia) hP1 _ fun s2 u2 v2 k2 ep2 as2 r h4 h5 h6 h7=>?_
  exact⟨⟨u2,v2,k2,ep2,as2⟩,s2,H _ _ r,h4,K1.trans (h6.cast rfl),⟨h5.1,h5.2.1,h5.2.2.1,h5.2.2.2.1,h5.2.2.2.2.1,trivial⟩,trivial,(fun y hy=>nomatch hy),nodup_nil,by simpa using h7⟩) fun p s hP=>by
  apply Fk (W:=W) (p0:=p) (hE:=rfl) (hP:=az.cut (E:=(Y9 aL aI aG gs epG aC)) hP) (kQ:=?k32) ..
  case' k32=>intro n tb s' _ _ H hP' K
  exact⟨s',H,(az.uncut hP hP' K),K.up⟩
end
noncomputable def dk(d:Nat):List Nat:=if d=0 then [32] else if d=1 then [124,49] else [124,127]
section
variable(gs:Array Value)(epG:Nat)(ds:List Nat)(hgs:aZ gs ds)(h3:∀d∈ds,d<3)
include gs epG ds hgs h3
theorem Bw:∀(rest:List Nat) (k:Nat) (pre:List (List Nat)) (as:Array Value) (ep:Nat) (uF:Tok) (vF:Value) (p0:Pos) (s:Shared),ds.drop k=rest->aX as pre->as.size+rest.length<=1000->az (pW W) [(A aL,ah "dict" [aa (pW W) sX uF vF] 1),(Y5 aI aG k),(Yk aG gs epG),(Yk aC as ep)] s->
  ∀Q:Prop,(∀s' uF' vF' k' ep' as',Runs (Yt W) ⟨ao (fk (pW W)) (bj (pW W) aF c1) aL aI aC,none,none,(Y1 vA),none⟩ p0 ((Yt W).den (ao (fk (pW W)) (bj (pW W) aF c1) aL aI aC)) [] s fu s'->cN (pW W) s'->cI [(A aL,ah "dict" [aa (pW W) sX uF' vF'] 1),(kc aI k'),(Yk aG gs epG),(Yk aC as' ep')] s'.heap->af [(A aL,ah "dict" [aa (pW W) sX uF vF] 1),(Y5 aI aG k),(Yk aG gs epG),(Yk aC as ep)] s s'->aX as' (pre++rest.map (dk))->Q)->Q:=by
 intro rest0
 induction rest0 with
 |nil=>
  intro k pre as ep uF vF p0 s hd hls hsz hP Q kQ
  apply Fh (W:=W) (hit:=hgs.none hd) (hE:=rfl) (hP:=hP) (p0:=p0) (kQ:=?k33) ..
  case' k33=>intro n tb s' _ _ r h1 h2 h3
  exact kQ s' uF vF k ep as r h1 h2 h3 (by simpa using hls)
 |cons q rest ih=>
  intro k pre as ep uF vF p0 s hd hls hsz hP Q kQ
  obtain⟨hk,hd'⟩:=bw hd
  obtain⟨tf,hit⟩:=hgs.get hk
  have hq:=h3 q (mem_of_getElem? hk)
  have hsz':as.size<=1000:=by simp at hsz;lia
  have step:∀G:Prop,(∀s1 u t v ep1,br (Yt W) ⟨ao (fk (pW W)) (bj (pW W) aF c1) aL aI aC,none,none,(Y1 vA),none⟩ p0 s s1->az (pW W) [(A aL,ah "dict" [aa (pW W) sX u v] 1),(vp aI aG k),(Yk aG gs epG),(A aC,ab (as.push (.str ⟨⟨dk q⟩⟩ t)) ep1)] s1->af [(A aL,ah "dict" [aa (pW W) sX uF vF] 1),(Y5 aI aG k),(Yk aG gs epG),(Yk aC as ep)] s s1->G)->G:=by
   intro G kG
   have:q=0\/q=1\/q=2:=by lia
   rcases this with rfl|rfl|rfl
   ·apply jG (b7:=false) (hz:=(.inl ⟨rfl,rfl,rfl⟩)) (W:=W) (hit:=hit) (hsz:=by lia) (hE:=rfl) (hP:=hP) (p0:=p0) (kQ:=?k34) ..
    case' k34=>intro n tb s1 _ _ H hP1 K
    exact kG s1 _ _ _ _ H hP1 K
   ·apply jG (b7:=false) (hz:=(.inr (.inl ⟨rfl,rfl,rfl⟩))) (W:=W) (hit:=hit) (hsz:=by lia) (hE:=rfl) (hP:=hP) (p0:=p0) (kQ:=?k35) ..
    case' k35=>intro n tb s1 _ _ H hP1 K
    exact kG s1 _ _ _ _ H hP1 K
   ·apply jG (b7:=false) (hz:=(.inr (.inr ⟨rfl,rfl,rfl⟩))) (W:=W) (hit:=hit) (hsz:=by lia) (hE:=rfl) (hP:=hP) (p0:=p0) (kQ:=?k36) ..
    case' k36=>intro n tb s1 _ _ H hP1 K
    exact kG s1 _ _ _ _ H hP1 K
  refine step _ fun s1 u t v ep1 zq4 hP1 K1=>?_
  obtain⟨p',H⟩:=zq4
  refine ih (k+1) (pre++[dk q]) _ ep1 u v p' s1 hd' hls.pushS (by simp at hsz⊢;lia) hP1 _ fun s2 u2 v2 k2 ep2 as2 r h4 h5 h6 h7=>?_
  exact kQ s2 u2 v2 k2 ep2 as2 (H _ _ r) h4 h5 (K1.trans (h6.cast rfl)) (by simpa using h7)
structure vT where
 u:Tok
 v:Value
 k:Nat
 ep:Nat
 ls:Array Value
noncomputable def xM(W:WW)(vA:FA)(aF c1 aL aI aC aG:Nat)(gs:Array Value)(epG:Nat)(x:vT):Result×List Obj×ae:=(m8,([(A aL,ah "dict" [aa (pW W) C6 x.u x.v] 1),(A aI,aK "list_iterator" [.none,.int (Int.ofNat x.k) 0]),(Yk aG gs epG),(A aC,ab x.ls x.ep)]:ae).map (·.2),[])
theorem vn(hne:ds≠[])(hlen:ds.length<=900):
  cq (Vw W) ⟨ay (ao (fk (pW W)) (bj (pW W) aF c1) aL aI aC),none,none,(Y1 vA),none⟩ (Y9 aL aI aG gs epG aC) (xM W vA aF c1 aL aI aC aG gs epG) (fun x=>aX x.ls (ds.map (dk))):=
 dU (C:=ao (fk (pW W)) (bj (pW W) aF c1) aL aI aC) (fun p0 s hP=>by
  obtain⟨q,rest,rfl⟩:∃q rest,ds=q::rest:=by cases ds with|nil=>exact(hne rfl).elim|cons q r=>exact⟨q,r,rfl⟩
  obtain⟨tf,hit⟩:=hgs.get (k:=0) rfl
  have hq:=h3 q (mem_cons_self ..)
  have step:∀G:Prop,(∀s1 u t v ep1,br (Yt W) ⟨ao (fk (pW W)) (bj (pW W) aF c1) aL aI aC,none,none,(Y1 vA),none⟩ p0 s s1->az (pW W) [(A aL,ah "dict" [aa (pW W) sX u v] 1),(A aI,aK "list_iterator" [fC aG,.int (Int.ofNat 1) 0]),(Yk aG gs epG),(A aC,ab ((⟨[]⟩:Array Value).push (.str ⟨⟨dk q⟩⟩ t)) ep1)] s1->af (Y9 aL aI aG gs epG aC) s s1->G)->G:=by
   intro G kG
   have:q=0\/q=1\/q=2:=by lia
   rcases this with rfl|rfl|rfl
   ·apply jG (b7:=true) (hz:=(.inl ⟨rfl,rfl,rfl⟩)) (W:=W) (hit:=hit) (hsz:=zero_le _) (hE:=rfl) (hP:=hP) (uF:=0) (vF:=.none) (p0:=p0) (kQ:=?k37) ..
    case' k37=>intro n tb s1 _ _ H hP1 K
    exact kG s1 _ _ _ _ H hP1 K
   ·apply jG (b7:=true) (hz:=(.inr (.inl ⟨rfl,rfl,rfl⟩))) (W:=W) (hit:=hit) (hsz:=zero_le _) (hE:=rfl) (hP:=hP) (uF:=0) (vF:=.none) (p0:=p0) (kQ:=?k38) ..
    case' k38=>intro n tb s1 _ _ H hP1 K
    exact kG s1 _ _ _ _ H hP1 K
   ·apply jG (b7:=true) (hz:=(.inr (.inr ⟨rfl,rfl,rfl⟩))) (W:=W) (hit:=hit) (hsz:=zero_le _) (hE:=rfl) (hP:=hP) (uF:=0) (vF:=.none) (p0:=p0) (kQ:=?k39) ..
    case' k39=>intro n tb s1 _ _ H hP1 K
    exact kG s1 _ _ _ _ H hP1 K
  refine step _ fun s1 u t v ep1 zq5 hP1 K1=>?_
  obtain⟨p',H⟩:=zq5
  refine Bw W vA aF c1 aL aI aC aG gs epG (q::rest) hgs h3 rest 1 ([]++[dk q]) _ ep1 u v p' s1 rfl (aX.pushS (lines:=⟨[]⟩) (ls:=[]) ⟨rfl,fun i l e=>by simp at e⟩) (by simp at hlen⊢;lia) hP1 _ fun s2 u2 v2 k2 ep2 as2 r h4 h5 h6 h7=>?_
  exact⟨⟨u2,v2,k2,ep2,as2⟩,s2,H _ _ r,h4,K1.trans (h6.cast rfl),⟨h5.1,h5.2.1,h5.2.2.1,h5.2.2.2.1,trivial⟩,trivial,(fun y hy=>nomatch hy),nodup_nil,by simpa using h7⟩) fun p s hP=>by
  apply DZ (W:=W) (p0:=p) (hE:=rfl) (hP:=hP) (kQ:=?k40) ..
  case' k40=>intro n tb s' _ _ H hP' K
  exact⟨s',H,hP',K⟩
end
end
noncomputable def mU(k:PN)(it:Value)(i:Int)(c:Nat):Sem Fin:=do
 k.sf it 1 (rawInt (i+1))
 retStr ⟨⟨[c]⟩⟩
theorem wQ{M:Model}{Γ:Ctx}{a:Addr}{o:Obj}{s:Shared}{x:Str}{t:Tok}{i:Int}{tk:Tok}{c:Nat}(ho:s.heap.get? a=some o)(hd:o.data=.fields #[.str x t,.int i tk])
  (hx:x.cps[i.toNat]? =some c) {Q E p} (H:Sem.wp M Γ (mU GU (.ref a) i c) Q E p s):Sem.wp M Γ (Builtin.«str_iterator.__next__» ⟨[.ref a],[]⟩) Q E p s:=by
 show Sem.wp M Γ (field (.ref a) 0>>=_) _ _ _ _
 rw [Sem.wp_bind']
 refine eF ho hd (x:=.str x t) rfl ?_
 show Sem.wp M Γ (if(Value.str x t==Value.none)=true then _ else _) _ _ _ _
 rw [if_neg (show¬((Value.str x t==Value.none)=true) from Bool.false_ne_true)]
 show Sem.wp M Γ (field (.ref a) 1>>=_) _ _ _ _
 rw [Sem.wp_bind']
 refine eF ho hd (x:=.int i tk) rfl ?_
 simp only [hx]
 exact H
theorem AO{M:Model}{Γ:Ctx}{a:Addr}{o:Obj}{s:Shared}{x:Str}{t:Tok}{i:Int}{tk:Tok}(ho:s.heap.get? a=some o)(hd:o.data=.fields #[.str x t,.int i tk])
  (hx:x.cps[i.toNat]? =none) {Q E p} (H:Sem.wp M Γ (kr GU (.ref a)) Q E p s):Sem.wp M Γ (Builtin.«str_iterator.__next__» ⟨[.ref a],[]⟩) Q E p s:=by
 show Sem.wp M Γ (field (.ref a) 0>>=_) _ _ _ _
 rw [Sem.wp_bind']
 refine eF ho hd (x:=.str x t) rfl ?_
 show Sem.wp M Γ (if(Value.str x t==Value.none)=true then _ else _) _ _ _ _
 rw [if_neg (show¬((Value.str x t==Value.none)=true) from Bool.false_ne_true)]
 show Sem.wp M Γ (field (.ref a) 1>>=_) _ _ _ _
 rw [Sem.wp_bind']
 refine eF ho hd (x:=.int i tk) rfl ?_
 simp only [hx]
 show Sem.wp M Γ (setField (.ref a) 0 .none>>=fun _=>letGo [.str x t]>>=fun _=>newExc (.type "StopIteration") []>>=raiseNew) _ _ _ _
 have H:Sem.wp M Γ (setField (.ref a) 0 .none>>=fun _=>newExc (.type "StopIteration") []>>=raiseNew) Q E p s:=H
 rw [Sem.wp_bind'] at H⊢
 exact H
noncomputable def lH(i c:Nat):bF:=fun Γ cd st=>wF (st.T.get i) nO fun l=>w2 l nO fun u v=>ws u nO fun x=>wi v nO fun k=>
  (cd=.builtin "str_iterator.__next__" ⟨[.ref (bm st.L st.n i)],[]⟩/\x.cps[k.toNat]? =some c,mU GZ (.ref (bm st.L st.n i)) k c)
noncomputable def tH(i:Nat):bF:=fun Γ cd st=>wF (st.T.get i) nO fun l=>w2 l nO fun u v=>ws u nO fun x=>wi v nO fun k=>
  (cd=.builtin "str_iterator.__next__" ⟨[.ref (bm st.L st.n i)],[]⟩/\x.cps[k.toNat]? =none,kr GZ (.ref (bm st.L st.n i)))
theorem kb{V:XV}{pr:Program}{w:World}{i c:Nat}:bE V (model pr w) (lH i c):=by
 refine dT fun hΓ R=>yQ fZ fun _ cl dd sl e1=>qM fZ fun _ _ e2=>tN fZ fun x t e3=>jW fZ fun k tk e4=>?_
 subst e3;subst e4;subst e2
 rintro⟨rfl,hx⟩ H
 rw [tM] at H
 rw [bg PySem.F.entry_str_iterator_next]
 exact ij (fun Q E h=>wQ (jh R e1) rfl hx h) H
theorem rA{V:XV}{pr:Program}{w:World}{i:Nat}:bE V (model pr w) (tH i):=by
 refine dT fun hΓ R=>yQ fZ fun _ cl dd sl e1=>qM fZ fun _ _ e2=>tN fZ fun x t e3=>jW fZ fun k tk e4=>?_
 subst e3;subst e4;subst e2
 rintro⟨rfl,hx⟩ H
 rw [tM] at H
 rw [bg PySem.F.entry_str_iterator_next]
 exact ij (fun Q E h=>AO (jh R e1) rfl hx h) H
noncomputable abbrev KP a:=(.int (Int.ofNat a+1) 0:Value)
abbrev Hb a b c d:=(A a,aK "str_iterator" [.str b c,Ye d])
abbrev OF a:=Rf (.builtin "str_iterator.__next__" ⟨[(Yp a)],[]⟩:Code)
theorem ky(W:WW)(b7:Bool){d7:Nat}{d8:List Nat}(hz:d7=917535/\d8=[917535]\/d7=917632/\d8=[917632])(p0:Pos)(vA:FA)(aF c1 aL aI aC:Nat)(uF tx:Tok)(vF:Value)(k:Nat)(xs:Str)(as:Array Value)(epA:Nat)(s:Shared)(hit:xs.cps[(Yh k).toNat]? =some d7)(hsz:as.size<=1000)(E:WW->ae)(hE:E=fun W=>[(A aL,ah "dict" (cond b7 [] [aa (pW W) DM uF vF]) (cond b7 0 1)),(Hb aI xs tx k),(Yk aC as epA)])(hP:az (pW W) (E W) s){Q:Prop}(kQ:∀(n tb:Nat) (s':Shared),Hn s n->Ht s tb->br (Yt W) (⟨ao (ew (pW W)) (bj (pW W) aF c1) aL aI aC,none,none,(Y1 vA),none⟩) p0 s s'->az (pW W) ([(A aL,ah "dict" [aa (pW W) DM (cond b7 (Y8 tb 1) uF) (.str ⟨⟨d8⟩⟩ (TK tb))] 1),(A aI,aK "str_iterator" [.str xs tx,KP k]),(Yk aC as epA)]) s'->af (E W) s s'->Q):Q:=by
 obtain⟨n,tb,gb,hn,ht,hg⟩:=hP.nt
 refine bT hE hP hn ht hg (fun E W Z hs=>cm (ei (Vw W) 3 [(lH 1 d7)] [] [] []) 106 (⟨ao (ew (pW W)) (bj (pW W) aF c1) aL aI aC,none,none,(Y1 vA),none⟩) (p0) (aQ (ao (ew (pW W)) (bj (pW W) aF c1) aL aI aC)) [] hs (cO E n tb gb) (mb Z)) (fun E W Z hs=>ad (lE E) (A n) gb (sl hs 0 2) (((OF aI)/\(((xs.cps[(Yh k).toNat]?):(Option Nat))=(some d7)))/\ad (lE E) (A n) gb (sl hs 3 20) (Z (.again (ao (ew (pW W)) (bj (pW W) aF c1) aL aI aC)) (Y2 n 1) (Y8 tb 5) true (ax ([(A aL,ah "dict" [aa (pW W) DM (cond b7 (Y8 tb 1) uF) (.str ⟨⟨d8⟩⟩ (TK tb))] 1),(A aI,aK "str_iterator" [.str xs tx,KP k]),(Yk aC as epA)]))))) (fun _=>[2,2,4000,2,2,1,1,0,1,0,0,0,4,4,0,0,0,4,0,0,0,0,0,3000]) (by apply iW b7<;>(rcases hz with h|h<;>apply D8 h)<;>exact iY (by kernel_rfl)) rfl ⟨fun _=>kb,trivial⟩ trivial rfl fun hs=>?_
 refine rI ⟨rfl,hit⟩ ?_
 exact rF fun s' r _ h3 h4 h5=>kQ n tb s' hn ht (am rfl r) ⟨h4,ai h3,(nx hE hP).nd,(nx hE hP).lo⟩ h5
theorem om(W:WW){d7:Nat}{d8:List Nat}{d9:List Nat}(hz:d7=917536/\d8=[917536]/\d9=[32]\/d7=917553/\d8=[917553]/\d9=[49]\/d7=917631/\d8=[917631]/\d9=[127])(p0:Pos)(vA:FA)(aF c1 aL aI aC:Nat)(uF tx:Tok)(vF:Value)(k:Nat)(xs:Str)(as:Array Value)(epA:Nat)(s:Shared)(hit:xs.cps[(Yh k).toNat]? =some d7)(hsz:as.size<=1000)(E:WW->ae)(hE:E=fun W=>[(A aL,ah "dict" [aa (pW W) Dw uF vF] 1),(Hb aI xs tx k),(Yk aC as epA)])(hP:az (pW W) (E W) s){Q:Prop}(kQ:∀(n tb:Nat) (s':Shared),Hn s n->Ht s tb->br (Yt W) (⟨ao (ew (pW W)) (bj (pW W) aF c1) aL aI aC,none,none,(Y1 vA),none⟩) p0 s s'->az (pW W) ([(A aL,ah "dict" [aa (pW W) DM uF (.str ⟨⟨d8⟩⟩ (TK tb))] 1),(A aI,aK "str_iterator" [.str xs tx,KP k]),(A aC,Obj.mapSeq (·.push (.str ⟨⟨d9⟩⟩ (Y8 tb 8))) (ab as epA))]) s'->af (E W) s s'->Q):Q:=by
 obtain⟨n,tb,gb,hn,ht,hg⟩:=hP.nt
 refine bT hE hP hn ht hg (fun E W Z hs=>cm (ei (Vw W) 3 [(lH 1 d7),(cf 2)] [] [] []) 143 (⟨ao (ew (pW W)) (bj (pW W) aF c1) aL aI aC,none,none,(Y1 vA),none⟩) (p0) (aQ (ao (ew (pW W)) (bj (pW W) aF c1) aL aI aC)) [] hs (cO E n tb gb) (mb Z)) (fun E W Z hs=>ad (lE E) (A n) gb (sl hs 0 2) (((OF aI)/\(((xs.cps[(Yh k).toNat]?):(Option Nat))=(some d7)))/\ad (lE E) (A n) gb (sl hs 3 28) (((Rf (.builtin "list.append" ⟨[(Yp aC),(.str (Str.mk ⟨d9⟩) (Y8 tb 8))],[]⟩:Code))/\(rE as))/\ad (lE E) (A n) gb (sl hs 32 1) (Z (.again (ao (ew (pW W)) (bj (pW W) aF c1) aL aI aC)) (Y2 n 1) (Y8 tb 9) true (ax ([(A aL,ah "dict" [aa (pW W) DM uF (.str ⟨⟨d8⟩⟩ (TK tb))] 1),(A aI,aK "str_iterator" [.str xs tx,KP k]),(A aC,Obj.mapSeq (·.push (.str ⟨⟨d9⟩⟩ (Y8 tb 8))) (ab as epA))])))))) (fun _=>(gE [2,2,4000,2,2,1,1,0,1,0,0,0,4,4,0,0,0,4,110000,1,3,4001,3,3000])) (by rcases hz with h|h|h<;>apply oa h<;>exact iY (by kernel_rfl)) rfl ⟨fun _=>kb,fun _=>bx,trivial⟩ trivial rfl fun hs=>?_
 refine rI ⟨rfl,hit⟩ ?_
 refine rI ⟨rfl,⟨rfl,rfl,rfl⟩,hsz⟩ ?_
 exact rF fun s' r _ h3 h4 h5=>kQ n tb s' hn ht (am rfl r) ⟨h4,ai h3,(nx hE hP).nd,(nx hE hP).lo⟩ h5
theorem EP(W:WW)(p0:Pos)(vA:FA)(aF c1 aL aI aC:Nat)(tx:Tok)(loc:List DictEntry)(k el:Nat)(xs:Str)(as:Array Value)(epA:Nat)(s:Shared)(hit:xs.cps[(Yh k).toNat]? =none)(E:WW->ae)(hE:E=fun W=>[(mh aL loc el),(Hb aI xs tx k),(Yk aC as epA)])(hP:az (pW W) (E W) s){Q:Prop}(kQ:∀(n tb:Nat) (s':Shared),Hn s n->Ht s tb->Runs (Yt W) (⟨ao (ew (pW W)) (bj (pW W) aF c1) aL aI aC,none,none,(Y1 vA),none⟩) p0 ((Yt W).den (ao (ew (pW W)) (bj (pW W) aF c1) aL aI aC)) [] s fu s'->cN (pW W) s'->cI ([(mh aL loc el),(A aI,aK "str_iterator" [.none,Ye k]),(Yk aC as epA)]) s'.heap->af (E W) s s'->Q):Q:=by
 obtain⟨n,tb,gb,hn,ht,hg⟩:=hP.nt
 refine bT hE hP hn ht hg (fun E W Z hs=>cm (ei (Vw W) 3 [(tH 1)] [] [] []) 53 (⟨ao (ew (pW W)) (bj (pW W) aF c1) aL aI aC,none,none,(Y1 vA),none⟩) (p0) (aQ (ao (ew (pW W)) (bj (pW W) aF c1) aL aI aC)) [] hs (cO E n tb gb) (mb Z)) (fun E W Z hs=>ad (lE E) (A n) gb (sl hs 0 2) (((OF aI)/\(((xs.cps[(Yh k).toNat]?):(Option Nat))=(none)))/\ad (lE E) (A n) gb (sl hs 3 3) (Z oY (Y2 n 2) (Y8 tb 0) true (ax ([(mh aL loc el),(A aI,aK "str_iterator" [.none,Ye k]),(Yk aC as epA)]))))) (fun _=>[2,2,4000,2,2,5]) (oW (by kernel_rfl)) rfl ⟨fun _=>rA,trivial⟩ trivial rfl fun hs=>?_
 refine rI ⟨rfl,hit⟩ ?_
 exact rF fun s' r _ h3 h4 h5=>kQ n tb s' hn ht (by rw [bI];exact r) h4 (ai h3) h5
abbrev HV a b c d e:=[(A a,eI),(A b,aK "str_iterator" [.str c d,Ym]),(A e,iz)]
theorem Ec(W:WW)(p0:Pos)(vA:FA)(aF c1 aL aI aC:Nat)(tx:Tok)(xs:Str)(s:Shared)(E:WW->ae)(hE:E=fun W=>(HV aL aI xs tx aC))(hP:az (pW W) (E W) s){Q:Prop}(kQ:∀(n tb:Nat) (s':Shared),Hn s n->Ht s tb->cu (Yt W) (⟨ay (ao (ew (pW W)) (bj (pW W) aF c1) aL aI aC),none,none,(Y1 vA),none⟩) (ao (ew (pW W)) (bj (pW W) aF c1) aL aI aC) p0 s s'->az (pW W) ((HV aL aI xs tx aC)) s'->af (E W) s s'->Q):Q:=by
 obtain⟨n,tb,gb,hn,ht,hg⟩:=hP.nt
 refine bT hE hP hn ht hg (fun E W Z hs=>cm (oZ W 3) 52 (⟨ay (ao (ew (pW W)) (bj (pW W) aF c1) aL aI aC),none,none,(Y1 vA),none⟩) (p0) (aQ (ay (ao (ew (pW W)) (bj (pW W) aF c1) aL aI aC))) [] hs (cO E n tb gb) (mb Z)) (fun E W Z hs=>ad (lE E) (A n) gb (zt hs W) (Z (.again (ao (ew (pW W)) (bj (pW W) aF c1) aL aI aC)) (Y2 n 0) (Y8 tb 0) true (ax ((HV aL aI xs tx aC))))) zE (pD (by kernel_rfl)) rfl trivial (by exact trivial) rfl fun hs=>?_
 exact rF fun s' r _ h3 h4 h5=>kQ n tb s' hn ht (ch r) ⟨h4,ai h3,(nx hE hP).nd,(nx hE hP).lo⟩ h5
noncomputable def Ra(c:Nat):Option Nat:=if c=917536 then some 32 else if c=917553 then some 49 else if c=917631 then some 127 else none
def tG(c:Nat):Prop:=c=917535\/c=917632\/c=917536\/c=917553\/c=917631
noncomputable def bU(cs:List Nat):List (List Nat):=(cs.filterMap Ra).map fun c=>[c]
noncomputable abbrev rB a:=(.int (Int.ofNat (a+1)) 0:Value)
section
variable(W:WW)(vA:FA)(aF c1 aL aI aC:Nat)(xs:Str)(tx:Tok)(cs:List Nat)(hxs:xs.cps.toList=cs)(ht:∀c∈cs,tG c)
include W vA aF c1 aL aI aC xs tx cs hxs ht
theorem CY:∀(rest:List Nat) (k:Nat) (pre:List (List Nat)) (as:Array Value) (ep:Nat) (uF:Tok) (vF:Value) (p0:Pos) (s:Shared),cs.drop k=rest->aX as pre->as.size+rest.length<=1000->az (pW W) [(A aL,ah "dict" [aa (pW W) Dw uF vF] 1),(Hb aI xs tx k),(Yk aC as ep)] s->
  ∀Q:Prop,(∀s' uF' vF' k' ep' as',Runs (Yt W) ⟨ao (ew (pW W)) (bj (pW W) aF c1) aL aI aC,none,none,(Y1 vA),none⟩ p0 ((Yt W).den (ao (ew (pW W)) (bj (pW W) aF c1) aL aI aC)) [] s fu s'->cN (pW W) s'->cI [(A aL,ah "dict" [aa (pW W) Dw uF' vF'] 1),(A aI,aK "str_iterator" [.none,Ye k']),(Yk aC as' ep')] s'.heap->af [(A aL,ah "dict" [aa (pW W) Dw uF vF] 1),(Hb aI xs tx k),(Yk aC as ep)] s s'->aX as' (pre++bU rest)->Q)->Q:=by
 intro rest0
 induction rest0 with
 |nil=>
  intro k pre as ep uF vF p0 s hd hls hsz hP Q kQ
  have hit:xs.cps[(Yh k).toNat]? =none:=by
   rw [<-getElem?_toList,hxs];exact List.getElem?_eq_none (List.drop_eq_nil_iff.mp hd)
  apply EP (W:=W) (hit:=hit) (hE:=rfl) (hP:=hP) (p0:=p0) (kQ:=?k41) ..
  case' k41=>intro n tb s' _ _ r h1 h2 h3
  exact kQ s' uF vF k ep as r h1 h2 h3 (by simpa [bU] using hls)
 |cons q rest ih=>
  intro k pre as ep uF vF p0 s hd hls hsz hP Q kQ
  obtain⟨hk,hd'⟩:=bw hd
  have hit:xs.cps[(Yh k).toNat]? =some q:=by
   rw [<-getElem?_toList,hxs];exact hk
  have hq:=ht q (mem_of_getElem? hk)
  have hsz':as.size<=1000:=by simp at hsz;lia
  have step:∀G:Prop,(∀s1 u v as1 ep1,br (Yt W) ⟨ao (ew (pW W)) (bj (pW W) aF c1) aL aI aC,none,none,(Y1 vA),none⟩ p0 s s1->az (pW W) [(A aL,ah "dict" [aa (pW W) Dw u v] 1),(A aI,aK "str_iterator" [.str xs tx,rB k]),(Yk aC as1 ep1)] s1->af [(A aL,ah "dict" [aa (pW W) Dw uF vF] 1),(Hb aI xs tx k),(Yk aC as ep)] s s1->aX as1 (pre++bU [q])->G)->G:=by
   intro G kG
   rcases hq with rfl|rfl|rfl|rfl|rfl
   ·apply ky (b7:=false) (hz:=(.inl ⟨rfl,rfl⟩)) (W:=W) (hit:=hit) (hsz:=hsz') (hE:=rfl) (hP:=hP) (p0:=p0) (kQ:=?k42) ..
    case' k42=>intro n tb s1 _ _ H hP1 K
    exact kG s1 _ _ _ _ H hP1 K (by rw [show bU [917535]=[] from rfl];simpa using hls)
   ·apply ky (b7:=false) (hz:=(.inr ⟨rfl,rfl⟩)) (W:=W) (hit:=hit) (hsz:=hsz') (hE:=rfl) (hP:=hP) (p0:=p0) (kQ:=?k43) ..
    case' k43=>intro n tb s1 _ _ H hP1 K
    exact kG s1 _ _ _ _ H hP1 K (by rw [show bU [917632]=[] from rfl];simpa using hls)
   ·apply om (hz:=(.inl ⟨rfl,rfl,rfl⟩)) (W:=W) (hit:=hit) (hsz:=hsz') (hE:=rfl) (hP:=hP) (p0:=p0) (kQ:=?k44) ..
    case' k44=>intro n tb s1 _ _ H hP1 K
    exact kG s1 _ _ _ _ H hP1 K (by rw [show bU [917536]=[[32]] from rfl];simpa using hls.pushS (cs:=[32]))
   ·apply om (hz:=(.inr (.inl ⟨rfl,rfl,rfl⟩))) (W:=W) (hit:=hit) (hsz:=hsz') (hE:=rfl) (hP:=hP) (p0:=p0) (kQ:=?k45) ..
    case' k45=>intro n tb s1 _ _ H hP1 K
    exact kG s1 _ _ _ _ H hP1 K (by rw [show bU [917553]=[[49]] from rfl];simpa using hls.pushS (cs:=[49]))
   ·apply om (hz:=(.inr (.inr ⟨rfl,rfl,rfl⟩))) (W:=W) (hit:=hit) (hsz:=hsz') (hE:=rfl) (hP:=hP) (p0:=p0) (kQ:=?k46) ..
    case' k46=>intro n tb s1 _ _ H hP1 K
    exact kG s1 _ _ _ _ H hP1 K (by rw [show bU [917631]=[[127]] from rfl];simpa using hls.pushS (cs:=[127]))
  refine step _ fun s1 u v as1 ep1 zq6 hP1 K1 hl1=>?_
  obtain⟨p',H⟩:=zq6
  have hsz1:as1.size<=as.size+1:=by
   rw [hl1.1,hls.1,List.length_append]
   have:(bU [q]).length<=1:=by unfold bU;rw [length_map];exact List.length_filterMap_le _ _
   lia
  refine ih (k+1) (pre++bU [q]) as1 ep1 u v p' s1 hd' hl1 (by simp at hsz⊢;lia) hP1 _ fun s2 u2 v2 k2 ep2 as2 r h4 h5 h6 h7=>?_
  exact kQ s2 u2 v2 k2 ep2 as2 (H _ _ r) h4 h5 (K1.trans (h6.cast rfl)) (by
   have e:bU (q::rest)=bU [q]++bU rest:=by
    unfold bU
    rw [<-map_append,<-List.filterMap_append];rfl
   rw [e,<-append_assoc];exact h7)
structure Cl where
 u:Tok
 v:Value
 k:Nat
 ep:Nat
 ls:Array Value
noncomputable def w0(W:WW)(vA:FA)(aF c1 aL aI aC:Nat)(xs:Str)(tx:Tok)(x:Cl):Result×List Obj×ae:=(m8,([(A aL,ah "dict" [aa (pW W) DM x.u x.v] 1),(A aI,aK "str_iterator" [.none,.int (Int.ofNat x.k) 0]),(A aC,ab x.ls x.ep)]:ae).map (·.2),[])
theorem vP(h0:cs[0]? =some 917535\/cs[0]? =some 917632)(hlen:cs.length<=900):
  cq (Vw W) ⟨ay (ao (ew (pW W)) (bj (pW W) aF c1) aL aI aC),none,none,(Y1 vA),none⟩ (HV aL aI xs tx aC) (w0 W vA aF c1 aL aI aC xs tx) (fun x=>aX x.ls (bU cs)):=
 dU (C:=ao (ew (pW W)) (bj (pW W) aF c1) aL aI aC) (fun p0 s hP=>by
  obtain⟨q,rest,rfl⟩:∃q rest,cs=q::rest:=by cases cs with|nil=>simp at h0|cons q r=>exact⟨q,r,rfl⟩
  have hit:xs.cps[(Yx).toNat]? =some q:=by rw [<-getElem?_toList,hxs];rfl
  have h0:q=917535\/q=917632:=by simpa using h0
  have hls:aX ⟨[]⟩ []:=⟨rfl,fun i l e=>by simp at e⟩
  have step:∀G:Prop,(∀s1 u v as1 ep1,br (Yt W) ⟨ao (ew (pW W)) (bj (pW W) aF c1) aL aI aC,none,none,(Y1 vA),none⟩ p0 s s1->az (pW W) [(A aL,ah "dict" [aa (pW W) Dw u v] 1),(A aI,aK "str_iterator" [.str xs tx,.int (Int.ofNat 1) 0]),(Yk aC as1 ep1)] s1->af (HV aL aI xs tx aC) s s1->aX as1 (bU [q])->G)->G:=by
   intro G kG
   rcases h0 with rfl|rfl
   ·apply ky (b7:=true) (hz:=(.inl ⟨rfl,rfl⟩)) (W:=W) (hit:=hit) (hsz:=zero_le _) (hE:=rfl) (hP:=hP) (uF:=0) (vF:=.none) (p0:=p0) (kQ:=?k47) ..
    case' k47=>intro n tb s1 _ _ H hP1 K
    exact kG s1 _ _ _ _ H hP1 K (by rw [show bU [917535]=[] from rfl];simpa using hls)
   ·apply ky (b7:=true) (hz:=(.inr ⟨rfl,rfl⟩)) (W:=W) (hit:=hit) (hsz:=zero_le _) (hE:=rfl) (hP:=hP) (uF:=0) (vF:=.none) (p0:=p0) (kQ:=?k48) ..
    case' k48=>intro n tb s1 _ _ H hP1 K
    exact kG s1 _ _ _ _ H hP1 K (by rw [show bU [917632]=[] from rfl];simpa using hls)
  refine step _ fun s1 u v as1 ep1 zq7 hP1 K1 hl1=>?_
  obtain⟨p',H⟩:=zq7
  have hsz1:as1.size<=1:=by
   rw [hl1.1];unfold bU;rw [length_map];exact List.length_filterMap_le _ _
  refine CY W vA aF c1 aL aI aC xs tx (q::rest) hxs ht rest 1 (bU [q]) as1 ep1 u v p' s1 rfl hl1 (by simp at hlen⊢;lia) hP1 _ fun s2 u2 v2 k2 ep2 as2 r h4 h5 h6 h7=>?_
  exact⟨⟨u2,v2,k2,ep2,as2⟩,s2,H _ _ r,h4,K1.trans (h6.cast rfl),⟨h5.1,h5.2.1,h5.2.2.1,trivial⟩,trivial,(fun y hy=>nomatch hy),nodup_nil,by
   have e:bU (q::rest)=bU [q]++bU rest:=by
    unfold bU
    rw [<-map_append,<-List.filterMap_append];rfl
   rw [e];exact h7⟩) fun p s hP=>by
  apply Ec (W:=W) (p0:=p) (hE:=rfl) (hP:=hP) (kQ:=?k49) ..
  case' k49=>intro n tb s' _ _ H hP' K
  exact⟨s',H,hP',K⟩
end
noncomputable def ce(st:St)(i:Nat):Nat:=Nat.sub (bm st.L st.n i) 245
noncomputable def Bi(st:St)(i:Nat):Array Value:=match st.T.get i with
 |some ⟨_,_,.seq items _,_⟩=>items
 |_=>⟨[]⟩
noncomputable def fl(st:St)(i:Nat):Nat:=match st.T.get i with
 |some ⟨_,_,.seq _ ep,_⟩=>ep
 |_=>0
noncomputable def oP{X:Type}(w':World)(pre:St->Prop)(G:St->Ctx)(E:St->ae)(is:List Nat)(mm ro:Nat)(out:St->X->Result×List Obj×ae)(cond:St->X->Prop):bM:=fun Γ p c st K=>pre st/\km w' (G st) (E st) is mm ro (out st) (cond st) Γ p c st K
theorem fp{X:Type}{w':World}{pre:St->Prop}{G:St->Ctx}{E:St->ae}{is:List Nat}{V:XV}{out:St->X->Result×List Obj×ae}{cond:St->X->Prop}(hk:V.kt=eG w'.params)(hc:∀st,pre st->bY w' (G st) (E st) V.fz (out st) (cond st)):bX V (model pw w') (oP w' pre G E is V.mm V.ro out cond):=by
 intro h0 d os Γ p c st K s H hΓ R
 exact jc hk (hc st H.1) h0 d os Γ p c st K s H.2 hΓ R
theorem cq.toF{X:Type}{w':World}{G:Ctx}{E:ae}{fz:List (Nat×Obj)}{out:X->Result×List Obj×ae}{cond:X->Prop}(h:cq w' G E out cond):bY w' G E fz out cond:=fun p s hP _=>h p s hP
noncomputable def em:Stmt->Expr
 |.For t _ _ _ _=>t
 |_=>.Constant .none 0 default
noncomputable def cJ:Stmt->List Stmt
 |.For _ _ _ o _=>o
 |_=>[]
noncomputable def sD(st:St)(i:Nat):Tok:=match st.T.get i with
 |some ⟨_,_,.cell (some (.str _ t)),_⟩=>t
 |_=>0
noncomputable def rH(st:St)(i:Nat):Str:=match st.T.get i with
 |some ⟨_,_,.fields ⟨.str x _::_⟩,_⟩=>x
 |_=>⟨⟨[]⟩⟩
noncomputable def ye(st:St)(i:Nat):Tok:=match st.T.get i with
 |some ⟨_,_,.fields ⟨.str _ t::_⟩,_⟩=>t
 |_=>0
abbrev fx a b:=Bi a b
abbrev sW a b:=(A (ce a b),ab (fx a b) (fl a b))
abbrev BY a b:=(.ref (A (ce a b)):Value)
abbrev Ph a b c:=(A (ce a b),aK "list_iterator" [BY a c,Ym])
noncomputable def wU(W:WW)(vA:FA)(aF c1:Nat)(bc:Nat)(ds:List Nat)(iL iI iC iG iK mm ro:Nat):bM:=oP (X:=qE) (Vw W) (fun st=>aZ (fx st iG) ds) (fun st=>⟨ay (ao (fn (pW W)) (bj (pW W) aF c1) (ce st iL) (ce st iI) (ce st iC)),none,none,(Y1 vA),none⟩) (fun st=>[(A (ce st iL),eI),(Ph st iI iG),(sW st iG),(A (ce st iC),iz),(A c1,⟨Yu,none,.cell (some (.str ⟨⟨[bc]⟩⟩ (sD st iK))),⟨[]⟩⟩)]) [iL,iI,iG,iC,iK] mm ro (fun st=>(xU W vA aF c1 (ce st iL) (ce st iI) (ce st iC) (ce st iG) bc (sD st iK) (fx st iG) (fl st iG))) (fun st x=>aX x.ls (ds.map (db bc)))
section
variable(W:WW)(vA:FA)(aF c1:Nat)
include W vA aF c1
theorem pV(bc:Nat)(ds:List Nat){iL iI iC iG iK:Nat}{V:XV}(hk:V.kt=eG (pW W))(h3:∀d∈ds,d<3)(hne:ds≠[])(hlen:ds.length<=900):bX V (model pw (Vw W)) (wU W vA aF c1 bc ds iL iI iC iG iK V.mm V.ro):=
 fp hk fun st h=>(vV W vA aF c1 _ _ _ _ bc _ _ _ ds h h3 hne hlen).toF
abbrev I7 a b c d:=fun st=>[(A (ce st a),eI),(A (ce st b),aK "list_iterator" [BY st c,Ym]),(sW st c),(A (ce st d),iz)]
noncomputable def xo(W:WW)(vA:FA)(aF c1:Nat)(ds:List Nat)(iL iI iC iG mm ro:Nat):bM:=oP (X:=vT) (Vw W) (fun st=>aZ (fx st iG) ds) (fun st=>⟨ay (ao (fk (pW W)) (bj (pW W) aF c1) (ce st iL) (ce st iI) (ce st iC)),none,none,(Y1 vA),none⟩) (I7 iL iI iG iC) [iL,iI,iG,iC] mm ro (fun st=>(xM W vA aF c1 (ce st iL) (ce st iI) (ce st iC) (ce st iG) (fx st iG) (fl st iG))) (fun st x=>aX x.ls (ds.map dk))
theorem qi(ds:List Nat){iL iI iC iG:Nat}{V:XV}(hk:V.kt=eG (pW W))(h3:∀d∈ds,d<3)(hne:ds≠[])(hlen:ds.length<=900):bX V (model pw (Vw W)) (xo W vA aF c1 ds iL iI iC iG V.mm V.ro):=
 fp hk fun st h=>(vn W vA aF c1 _ _ _ _ _ _ ds h h3 hne hlen).toF
noncomputable def xQ(W:WW)(vA:FA)(aF c1:Nat)(cs:List Nat)(iL iI iC mm ro:Nat):bM:=oP (X:=Cl) (Vw W) (fun st=>(rH st iI).cps.toList=cs) (fun st=>⟨ay (ao (ew (pW W)) (bj (pW W) aF c1) (ce st iL) (ce st iI) (ce st iC)),none,none,(Y1 vA),none⟩) (fun st=>[(A (ce st iL),eI),(A (ce st iI),aK "str_iterator" [.str (rH st iI) (ye st iI),Ym]),(A (ce st iC),iz)]) [iL,iI,iC] mm ro (fun st=>(w0 W vA aF c1 (ce st iL) (ce st iI) (ce st iC) (rH st iI) (ye st iI))) (fun st x=>aX x.ls (bU cs))
theorem qz(cs:List Nat){iL iI iC:Nat}{V:XV}(hk:V.kt=eG (pW W))(ht:∀c∈cs,tG c)(h0:cs[0]? =some 917535\/cs[0]? =some 917632)(hlen:cs.length<=900):bX V (model pw (Vw W)) (xQ W vA aF c1 cs iL iI iC V.mm V.ro):=
 fp hk fun st h=>(vP W vA aF c1 _ _ _ _ _ cs h ht h0 hlen).toF
end
noncomputable def sE(W:WW)(vA:FA)(cs:List Nat)(i140 i147 iS mm ro:Nat)(t140 t147:List Value):bM:=oP (X:=fB) (Vw W) (fun st=>cQ (fx st iS) cs) (fun st=>uh (ce st iS) vA) (fun st=>[(140,bD t140),(147,bD t147),(sW st iS)]) [i140,i147,iS] mm ro (fun st=>qb (ce st iS) (fx st iS) (fl st iS) cs) (fun st x=>True)
theorem yW(W:WW)(vA:FA)(c0:Nat)(cs:List Nat){i140 i147 iS:Nat}{t140 t147:List Value}{V:XV}(hk:V.kt=eG (pW W))(h0:c0=49\/c0=127)(hc:∀c∈cs,c=49\/c=127\/c=32)(hlen:cs.length<=50)(htab:t140=[]/\t147=[]\/∃r1 r2,t140=[.int 67 0,.int 19 0,.ref r1]/\t147=[.int 70 0,.int 32 0,.ref r2]):bX V (model pw (Vw W)) (sE W vA (c0::cs) i140 i147 iS V.mm V.ro t140 t147):=
 fp hk fun st h=>(p8 W vA _ t140 t147 _ _ c0 cs h h0 hc hlen htab).toF
theorem l7{lines:Array Value}{cs:List Nat}(h:aX lines (cs.map fun c=>[c])):cQ lines cs:=by
 intro i
 cases e:cs[i]? with
 |none=>exact Array.getElem?_eq_none (by rw [h.1,length_map];exact List.getElem?_eq_none_iff.mp e)
 |some c=>exact h.2 i [c] (by rw [getElem?_map,e];rfl)
noncomputable def jP(x:Str):Bool:=x.cps.all (·<128)
noncomputable def kU:bF:=fun Γ c st=>wO (BP c) nO fun b=>(c=.builtin "str.__iter__" ⟨[.str b.1 b.2],[]⟩/\jP b.1=false,.alloc ⟨.type "str_iterator",none,.fields ⟨[.str b.1 b.2,.int 0 0]⟩,⟨[]⟩⟩ fun a=>ret (.ref a))
theorem lL(x:Str)(t:Tok)(h:jP x=false):Meets (Builtin.«str.__iter__» ⟨[.str x t],[]⟩) (fun _ R s=>
   R (.ok (.ret (.ref s.heap.objs.size))) {s with heap:=s.heap.push {cls:=.type "str_iterator",data:=.fields #[.str x t,.int 0 0]}}):=
 .of_wp fun prog w A R s hR=>by
  obtain⟨hp,g,d,tk,os⟩:=s
  have ha:(Builtin.Str.isExactStr (.str x t)&&x.cps.all (·<128))=false:=by
   have:x.cps.all (·<128)=false:=h
   rw [this,Bool.and_false]
  show wpAny _ _ (do
   let(self,s,_)<-Builtin.Str.strSlot "__iter__" 0 ⟨[.str x t],[]⟩
   ret (<-newFields (if Builtin.Str.isExactStr self&&s.cps.all (·<128) then"str_ascii_iterator" else"str_iterator") [self,rawInt 0])) _ _ _
  wp_walk
  refine⟨_,rfl,?_⟩
  rw [if_neg (by rw [ha];exact Bool.false_ne_true)]
  exact hR
theorem jY{V:XV}{pr:Program}{w:World}:bE V (model pr w) kU:=by
 refine dT fun hΓ R=>fL fZ fun b=>?_
 rintro⟨rfl,hb⟩ H
 obtain⟨rfl,rfl⟩:=cK H
 rw [bg PySem.F.entry_str_iter]
 exact bv (lL _ _ hb) (by rw [hΓ];rfl) ⟨rfl,rfl⟩
section
open PySem.Builtin PySem.Builtin.Str
noncomputable def dM(is:List Nat)(f:Code->Made):bF:=fun Γ c st=>f7 is (f c) Γ c st
theorem bs{V:XV}{pr:Program}{w:World}{is:List Nat}{f:Code->Made}:bE V (model pr w) (dM is f):=
 fun h0 d os Γ c st s p r s' hc=>au (m:=f c) h0 d os Γ c st s p r s' hc
noncomputable def lT(x:Str):Str:=⟨⟨x.cps.toList.drop 1⟩⟩
noncomputable def sZ:Code->Made:=fun c=>match c with
 |.builtin _ ⟨.str x _::_,_⟩=>.str (lT x)
 |_=>.val .none
theorem kP(x:Str)(t u:Tok)(h:1<=x.length):sliceMade x t (some (1,u)) none none=.str (lT x):=by
 have e:slicePicked x (some (1,u)) none none=(List.range (x.length-1)).map (fun k=>1+k):=by
  show strSliceIndices (some 1) none 1 x.length=_
  rw [PySem.StrLaws.sliceIdx_none_hi]
  exact PySem.StrLaws.strSliceIndices_plain (a:=1) h (Nat.le_refl _)
 have e2:(slicePicked x (some (1,u)) none none).filterMap (x.cps[·]?)=x.cps.toList.drop 1:=by
  have h2:slicePicked x (some (1,u)) none none=strSliceIndices (some ((1:Nat):Int)) (some (x.length:Int)) 1 x.length:=by
   show strSliceIndices (some 1) none 1 x.length=_
   rw [PySem.StrLaws.sliceIdx_none_hi];rfl
  rw [h2,PySem.StrLaws.sliced_plain x h (Nat.le_refl _)]
  rw [take_of_length_le]
  simp [Str.length]
 unfold sliceMade
 rw [if_neg]
 ·rw [e2];rfl
 ·rw [e]
  simp
  lia
theorem mA{x:Str}{t u:Tok}{a:Addr}(h:1<=x.length)(h2:x.length<=1000):av (.builtin "str.__getitem__" ⟨[.str x t,.ref a],[]⟩) [(a,some ⟨.type "slice",none,.fields ⟨[.int (Int.ofNat 1) u,.none,.none]⟩,⟨[]⟩⟩)] (.str (lT x)):=by
 refine av.at PySem.F.entry_str_getitem (fun pr w A R s hE hp=>?_) ?_
 ·refine meets_str_getitem_slice x t a (some (1,u)) none none rfl pr w A R s ⟨⟨_,hE.1,rfl,rfl⟩,?_⟩
  rw [kP x t u h];exact hp
 ·show(lT x).length<=sizeLine
  rw [sizeLine_eq]
  have:(lT x).length=x.length-1:=by simp [lT,Str.length]
  lia
theorem pI{x y:Str}{t u:Tok}{l}(h:x.cps.toList=y.cps.toList):av (.builtin "str.__ne__" ⟨[.str x t,.str y u],[]⟩) l (.val (.bool false)):=by
 have g:=gives_str_ne x y t u
 rw [show(x.cps.toList !=y.cps.toList)=false by simp [h]] at g
 exact av.mk PySem.F.entry_str_ne g trivial
noncomputable def sx(x y:Str):Str:=if stripSame y.cps.contains false true x then x else PySem.stripped y.cps.contains false true x
noncomputable def yI(mm ro:Nat):bM:=fun Γ p c st K=>wO (BP c) False fun b=>wO (Ix c) False fun g=>(c=.builtin "str.rstrip" ⟨[.str b.1 b.2,.str g.1 g.2],[]⟩/\Nat.ble b.1.length 1000=true)/\pf (X:=cC) [] [] mm ro (fun z=>(.ok (.ret (.str (sx b.1 g.1) z.t)),[],[])) (fun _=>True) st K
theorem kH(x:Str)(a b:Nat):(strSub x a b).length<=x.length:=by
 unfold strSub Str.length
 simp
 lia
theorem xK{w:World}{x y:Str}{t u:Tok}{G:Ctx}{p:Pos}{s:Shared}(hx:x.length<=1000)(hG:G.code=.builtin "str.rstrip" ⟨[.str x t,.str y u],[]⟩)(hP:az w.params [] s):
  fP w G [] (fun z:cC=>(.ok (.ret (.str (sx x y) z.t)),[],[])) (fun _=>True) p s:=by
 have g:=gives_str_rstrip_chars x y t u
 have key:∃t' s',(if stripSame y.cps.contains false true x then Made.val (.str x t) else .str (PySem.stripped y.cps.contains false true x)).post (fun v s''=>(Except.ok (.ret v):Result)=.ok (.ret (.str (sx x y) t'))/\s''=s') s/\(s'=s\/s'={s with toks:=s.toks+1}):=by
  unfold sx
  by_cases h:stripSame y.cps.contains false true x=true
  ·rw [if_pos h,if_pos h];exact⟨t,s,⟨rfl,rfl⟩,.inl rfl⟩
  ·rw [if_neg h,if_neg h]
   refine⟨s.toks,_,⟨?_,rfl,rfl⟩,.inr rfl⟩
   rw [sizeLine_eq]
   have:=kH x (stripLo y.cps.contains false x) (stripHi y.cps.contains true x (stripLo y.cps.contains false x))
   unfold PySem.stripped;lia
 obtain⟨t',s',hp,hs⟩:=key
 have R:=bv (pr:=pw) (w:=w) g.meets (Γ:=G) (p:=p) (s:=s) (s':=s') (r:=.ok (.ret (.str (sx x y) t'))) (by rw [hG];rfl) hp
 refine⟨⟨t'⟩,s',by rw [hG,bg PySem.F.entry_str_rstrip];exact R,?_,?_,trivial,trivial,(fun y hy=>nomatch hy),nodup_nil,trivial⟩
 ·rcases hs with rfl|rfl
  ·exact hP.rdy
  ·exact⟨hP.rdy.base,hP.rdy.gens,hP.rdy.size,Nat.le_succ_of_le hP.rdy.toks⟩
 ·rcases hs with rfl|rfl
  ·exact af.refl
  ·exact⟨fun _ _ q _=>q,rfl,rfl,Nat.le_refl _⟩
theorem qC{w':World}{V:XV}(hk:V.kt=eG w'.params):bX V (model pw w') (yI V.mm V.ro):=by
 intro h0 d os Γ p c st K s H hΓ R
 revert H
 refine fL (P:=(·->_)) (fun h=>h.elim) fun b=>fL (P:=(·->_)) (fun h=>h.elim) fun g=>?_
 rintro⟨⟨q,hx⟩,H⟩
 rw [<-hΓ]
 exact fy hk (fun hP _=>xK (le_of_ble_eq_true hx) (hΓ.trans q) hP) H R
end
noncomputable def jm:bF:=fun Γ c st=>wO (BP c) nO fun b=>(c=.builtin "len" ⟨[.str b.1 b.2],[]⟩/\Nat.ble b.1.length 1000=true,.fresh fun _=>.fresh fun t=>ret (.int (Int.ofNat b.1.length) t))
theorem f8{V:XV}{pr:Program}{w:World}:bE V (model pr w) jm:=by
 refine dT fun{h0 d os Γ c st s p r s'} hΓ R=>fL fZ fun⟨x,t⟩=>?_
 rintro⟨rfl,hb⟩ H
 obtain⟨rfl,rfl⟩:=cK H
 have hb:x.length<=1000:=le_of_ble_eq_true hb
 refine dH PySem.entry_len (by rw [hΓ];rfl) ?_
 refine wpAny_mono (wpAny_len_body (v:=.str x t) (T:="str") (n:=Int.ofNat x.length) (Q:=fun r' s''=>r'=.int (Int.ofNat x.length) (s.toks+1)/\s''={s with toks:=s.toks+1+1}) rfl PySem.F.slot_str_len PySem.F.entry_str_len (PySem.F.args_str_len_1 _) (gives_str_len x t) (by simp) (by have:(Int.ofNat x.length:Int)=(x.length:Int):=rfl;lia) ⟨rfl,rfl⟩) (fun fin s'' h=>?_) (fun _ _ h=>h)
 obtain⟨r',rfl,rfl,rfl⟩:=h
 exact⟨rfl,rfl⟩
noncomputable def H4{α:Type}:List α->Nat->Option α
 |[],_=>none
 |a::_,0=>some a
 |_::l,n+1=>H4 l n
noncomputable def HG(st:St)(i j:Nat):Tok×Value:=match st.T.get i with
 |some ⟨_,_,.dict ⟨l⟩ _,_⟩=>match H4 l j with
  |some ⟨_,.str _ t,v⟩=>(t,v)
  |_=>(0,.none)
 |_=>(0,.none)
noncomputable def lj:Value->Tok
 |.int _ t=>t
 |_=>0
abbrev bW a b c:=HG a b c
noncomputable def yZ(W:WW)(vA:FA)(aF c1 aV aO B:Nat)(u1 u2 u3 tB:Tok)(tl:List DictEntry)(bR:Nat)(N iF iG mm ro:Nat):bM:=oP (X:=Ai) (Vw W) (fun st=>True) (fun st=>⟨gK (pW W) aF c1,none,none,(Y1 vA),none⟩) (fun st=>[(A aF,jE (pW W) aV aO u1 u2 u3 (bW st iF 3).1 tB B (bW st iF 3).2 ([aa (pW W) iJ (bW st iF 4).1 (.ref (A (ce st iG))),aa (pW W) iX (bW st iF 5).1 (.int (Yh N) (lj (bW st iF 5).2))]++tl) bR),(A (ce st iG),iz)]) [iF,iG] mm ro (fun st=>za W vA aF c1 aV aO (ce st iG) B u1 u2 u3 (bW st iF 3).1 (bW st iF 4).1 (bW st iF 5).1 tB (bW st iF 3).2 tl bR) (fun st x=>aZ x.gs (dp B 20 N [])/\x.gs.size<=900)
theorem pM(W:WW)(vA:FA)(aF c1 aV aO B:Nat)(u1 u2 u3 tB:Tok)(tl:List DictEntry)(bR:Nat)(N:Nat){iF iG:Nat}{V:XV}(hk:V.kt=eG (pW W))(hB:B=2\/B=3)(htl:It (pW W) tl bR)(hL:N<2^20):bX V (model pw (Vw W)) (yZ W vA aF c1 aV aO B u1 u2 u3 tB tl bR N iF iG V.mm V.ro):=
 fp hk fun st h=>(uZ W vA aF c1 aV aO _ B u1 u2 u3 _ _ _ tB _ tl bR hB htl 20 N _ hL (by decide)).toF
noncomputable def N3(c:Code):Option (Int×Tok):=match c with|.builtin _ ⟨.int a t::_,_⟩=>some (a,t)|_=>none
noncomputable def ri(mm ro:Nat):bM:=fun Γ p c st K=>wO (N3 c) False fun b=>c=.builtin "int.__abs__" ⟨[.int b.1 b.2],[]⟩/\pf (X:=cC) [] [] mm ro (fun z=>(.ok (.ret (.int (Int.ofNat b.1.natAbs) z.t)),[],[])) (fun _=>True) st K
theorem wn{w:World}{a:Int}{t:Tok}{G:Ctx}{p:Pos}{s:Shared}(hG:G.code=.builtin "int.__abs__" ⟨[.int a t],[]⟩)(hP:az w.params [] s):
  fP w G [] (fun z:cC=>(.ok (.ret (.int (Int.ofNat a.natAbs) z.t)),[],[])) (fun _=>True) p s:=by
 have key:∃(m:Made) (t':Tok) (s':Shared),Gives (Builtin.«int.__abs__» ⟨[.int a t],[]⟩) m/\m.post (fun v s''=>(Except.ok (.ret v):Result)=.ok (.ret (.int (Int.ofNat a.natAbs) t'))/\s''=s') s/\(s'=s\/s'={s with toks:=s.toks+1}):=by
  by_cases h:a<0
  ·have e: -a=Int.ofNat a.natAbs:=by show-a=((a.natAbs:Nat):Int);lia
   exact⟨_,s.toks,_,PySem.AutoIntG0.int___abs___int_0 a t h,by rw [e];exact⟨rfl,rfl⟩,.inr rfl⟩
  ·have e:a=Int.ofNat a.natAbs:=by show a=((a.natAbs:Nat):Int);lia
   exact⟨_,t,s,PySem.AutoIntG1.int___abs___int_1 a t h,⟨by rw [<-e],rfl⟩,.inl rfl⟩
 obtain⟨m,t',s',g,hp,hs⟩:=key
 have R:=bv (pr:=pw) (w:=w) g.meets (Γ:=G) (p:=p) (s:=s) (s':=s') (r:=.ok (.ret (.int (Int.ofNat a.natAbs) t'))) (by rw [hG];rfl) hp
 refine⟨⟨t'⟩,s',by rw [hG,bg PySem.F.entry_int_abs];exact R,?_,?_,trivial,trivial,(fun y hy=>nomatch hy),nodup_nil,trivial⟩
 ·rcases hs with rfl|rfl
  ·exact hP.rdy
  ·exact⟨hP.rdy.base,hP.rdy.gens,hP.rdy.size,Nat.le_succ_of_le hP.rdy.toks⟩
 ·rcases hs with rfl|rfl
  ·exact af.refl
  ·exact⟨fun _ _ q _=>q,rfl,rfl,Nat.le_refl _⟩
theorem mG{w':World}{V:XV}(hk:V.kt=eG w'.params):bX V (model pw w') (ri V.mm V.ro):=by
 intro h0 d os Γ p c st K s H hΓ R
 revert H
 refine fL (P:=(·->_)) (fun h=>h.elim) fun b=>?_
 rintro⟨q,H⟩
 rw [<-hΓ]
 exact fy hk (fun hP _=>wn (hΓ.trans q) hP) H R
noncomputable def sd(d:Nat):Nat:=if d=0 then 32 else if d=1 then 49 else 127
structure fS(ds:List Nat):Prop where
 ne:ds≠[]
 lt:∀d∈ds,d<3
 len:ds.length<=20
 hd:∀d,ds.head? =some d->d≠0
theorem i9(B:Nat):∀f L acc,dp B f L acc=dp B f L []++acc
 |0,L,acc=>rfl
 |f+1,L,acc=>by
  unfold dp
  split
  ·rfl
  ·rw [i9 B f _ (L % B::acc),i9 B f _ [L % B],append_assoc];rfl
theorem nP{B:Nat}(hB:B=2\/B=3):∀(f L:Nat),L<2^f->L≠0->(dp B f L [])≠[]/\(∀d∈dp B f L [],d<3)/\(dp B f L []).length<=f/\(∀d,(dp B f L []).head? =some d->d≠0)
 |0,L,h,h0=>by simp at h;exact absurd h h0
 |f+1,L,h,h0=>by
  have e:dp B (f+1) L []=dp B f (L/B) []++[L % B]:=by
   rw [dp,if_neg h0,i9]
  have hm:L % B<B:=mod_lt _ (by lia)
  have hlt:L/B<2^f:=by
   have h2:L/B<=L/2:=Nat.div_le_div_left (by lia) (by lia)
   have:2^(f+1)=2*2^f:=by rw [Nat.pow_succ,Nat.mul_comm]
   lia
  rw [e]
  by_cases hz:L/B=0
  ·rw [hz,jD]
   have hLB:L<B:=(Nat.div_eq_zero_iff.mp hz).resolve_left (by lia)
   have:L % B=L:=Nat.mod_eq_of_lt hLB
   refine⟨by simp,fun d hd=>?_,by simp,fun d hd=>?_⟩
   ·simp at hd;lia
   ·simp at hd;lia
  ·obtain⟨i1,i2,i3,i4⟩:=nP hB f (L/B) hlt hz
   refine⟨by simp,fun d hd=>?_,by simp;lia,fun d hd=>?_⟩
   ·rcases List.mem_append.mp hd with hd|hd
    ·exact i2 d hd
    ·simp at hd;lia
   ·refine i4 d ?_
    cases h:dp B f (L/B) [] with
    |nil=>exact absurd h i1
    |cons a l=>rw [h] at hd;exact hd
theorem Dm{B:Nat}(hB:B=2\/B=3){L:Nat}(h:L<2^20)(h0:L≠0):fS (dp B 20 L []):=by
 obtain⟨a,b,c,d⟩:=nP hB 20 L h h0
 exact⟨a,b,c,d⟩
theorem wd(ls:List (List Nat)):Builtin.Str.glued ⟨⟨[]⟩⟩ (bQ ls)=⟨⟨ls.flatten⟩⟩:=by
 have key:∀(l:List (List Nat)) (a:Array Nat),(bQ l).foldl (fun acc p=>acc++(⟨⟨[]⟩⟩:Str).cps++p.cps) a=a++(⟨l.flatten⟩:Array Nat):=by
  intro l
  induction l with
  |nil=>intro a;apply Array.ext';simp [bQ]
  |cons x l ih=>
   intro a
   show(bQ l).foldl _ (a++(⟨[]⟩:Array Nat)++(⟨x⟩:Array Nat))=_
   rw [ih]
   apply Array.ext'
   simp
 cases ls with
 |nil=>rfl
 |cons x l=>
  show(⟨(bQ l).foldl _ (⟨x⟩:Array Nat)⟩:Str)=_
  rw [key]
  refine congrArg Str.mk (Array.ext' ?_)
  simp
theorem pE{ls:Array Value}{L:List (List Nat)}(h:aX ls L)(hs:((bQ L).map fun s=>s.length+(⟨⟨[]⟩⟩:Str).length).sum<=5000):gm ⟨⟨[]⟩⟩ ls/\bN ⟨⟨[]⟩⟩ ls=⟨⟨L.flatten⟩⟩:=by
 obtain⟨a,b⟩:=gg h hs
 exact⟨a,by rw [b,wd]⟩
theorem nf{ds:List Nat}{g:Nat->List Nat}(hg:∀d∈ds,(g d).length<=2)(h:ds.length<=20):((bQ (ds.map g)).map fun s=>s.length+(⟨⟨[]⟩⟩:Str).length).sum<=5000:=by
 have:∀(l:List Nat),(∀d∈l,(g d).length<=2)->((bQ (l.map g)).map fun s=>s.length+(⟨⟨[]⟩⟩:Str).length).sum<=2*l.length:=by
  intro l
  induction l with
  |nil=>intro _;simp [bQ]
  |cons x l ih=>
   intro hl
   have:=ih fun d hd=>hl d (mem_cons_of_mem _ hd)
   have hx:=hl x (mem_cons_self ..)
   simp only [map_cons,bQ,sum_cons,length_cons] at this⊢
   show((g x).length+0)+_<=_
   lia
 have:=this ds hg
 lia
theorem pP(bc d:Nat):(db bc d).length<=2:=by unfold db;simp
theorem lM(d:Nat):(dk d).length<=2:=by unfold dk;(repeat' split)<;>decide
theorem xd{bc:Nat}{ds:List Nat}(hbc:128<=bc)(hne:ds≠[]):jP ⟨⟨(ds.map (db bc)).flatten⟩⟩=false:=by
 obtain⟨d,l,rfl⟩:∃d l,ds=d::l:=by cases ds with|nil=>exact(hne rfl).elim|cons d l=>exact⟨d,l,rfl⟩
 unfold jP
 simp [db]
 omega
theorem qJ{bc:Nat}(hbc:bc=917535\/bc=917632):∀{ds:List Nat},(∀d∈ds,d<3)->bU (ds.map (db bc)).flatten=(ds.map sd).map fun c=>[c]
 |[],_=>rfl
 |d::l,h=>by
  have ih:=qJ hbc (ds:=l) fun x hx=>h x (mem_cons_of_mem _ hx)
  have hd:=h d (mem_cons_self ..)
  have e:bU ((d::l).map (db bc)).flatten=bU (db bc d)++bU (l.map (db bc)).flatten:=by
   unfold bU
   rw [map_cons,flatten_cons,List.filterMap_append,map_append]
  rw [e,ih]
  have:bU (db bc d)=[[sd d]]:=by
   rcases hbc with rfl|rfl<;>(have:d=0\/d=1\/d=2:=by lia)<;>rcases this with rfl|rfl|rfl<;>rfl
  rw [this];rfl
theorem tE{bc:Nat}(hbc:bc=917535\/bc=917632){ds:List Nat}(h:∀d∈ds,d<3):∀c∈(ds.map (db bc)).flatten,tG c:=by
 intro c hc
 obtain⟨l,hl,hc⟩:=List.mem_flatten.mp hc
 obtain⟨d,hd,rfl⟩:=List.mem_map.mp hl
 have:=h d hd
 unfold db at hc
 simp at hc
 unfold tG
 rcases hc with rfl|rfl
 ·lia
 ·(repeat' split)<;>lia
theorem jq{g:Nat->List Nat}(hg:∀d,(g d).length<=2):∀(ds:List Nat),(ds.map g).flatten.length<=2*ds.length
 |[]=>by simp
 |d::l=>by
  have:=jq hg l
  have:=hg d
  simp only [map_cons,flatten_cons,List.length_append,length_cons];lia
theorem wh(l:List Nat)(ls:List (List Nat)):(Builtin.Str.glued ⟨⟨[124]⟩⟩ (bQ (l::ls))).cps.toList=l++(ls.map fun x=>124::x).flatten:=by
 have key:∀(l:List (List Nat)) (a:Array Nat),((bQ l).foldl (fun acc p=>acc++(⟨⟨[124]⟩⟩:Str).cps++p.cps) a).toList=a.toList++(l.map fun x=>124::x).flatten:=by
  intro l
  induction l with
  |nil=>intro a;simp [bQ]
  |cons x l ih=>
   intro a
   show((bQ l).foldl _ (a++(⟨[124]⟩:Array Nat)++(⟨x⟩:Array Nat))).toList=_
   rw [ih]
   simp
 show((bQ ls).foldl _ (⟨l⟩:Array Nat)).toList=_
 rw [key]
theorem gq:∀(ds:List Nat) (ls:List (List Nat)) (l:List Nat),(∀d∈ds,d<3)->∃ls' l',(ds.map sd).foldl cR (ls++[l])=ls'++[l']/\((ls'++[l']).map fun x=>124::x).flatten=((ls++[l]).map fun x=>124::x).flatten++(ds.map dk).flatten
 |[],ls,l,_=>⟨ls,l,rfl,by simp⟩
 |d::ds,ls,l,h=>by
  have hd:=h d (mem_cons_self ..)
  have hr:=fun x hx=>h x (mem_cons_of_mem d hx)
  have:d=0\/d=1\/d=2:=by lia
  rw [map_cons,foldl_cons]
  rcases this with rfl|rfl|rfl
  ·rw [show sd 0=32 from rfl,gS]
   obtain⟨ls',l',e1,e2⟩:=gq ds ls (l++[32]) hr
   exact⟨ls',l',e1,by rw [e2];simp [show dk 0=[32] from rfl]⟩
  ·rw [show sd 1=49 from rfl,dO _ (.inl rfl)]
   obtain⟨ls',l',e1,e2⟩:=gq ds (ls++[l]) [49] hr
   exact⟨ls',l',e1,by rw [e2];simp [show dk 1=[124,49] from rfl]⟩
  ·rw [show sd 2=127 from rfl,dO _ (.inr rfl)]
   obtain⟨ls',l',e1,e2⟩:=gq ds (ls++[l]) [127] hr
   exact⟨ls',l',e1,by rw [e2];simp [show dk 2=[124,127] from rfl]⟩
theorem oA{ds:List Nat}(h:fS ds):(jd (ds.map sd)).cps.toList=(ds.map dk).flatten.drop 1:=by
 obtain⟨d,l,rfl⟩:∃d l,ds=d::l:=by cases ds with|nil=>exact(h.ne rfl).elim|cons d l=>exact⟨d,l,rfl⟩
 have hd:=h.lt d (mem_cons_self ..)
 have h0:=h.hd d rfl
 have hr:=fun x hx=>h.lt x (mem_cons_of_mem d hx)
 have key:∀c,(sd d=c)->(c=49\/c=127)->dk d=[124,c]->(jd ((d::l).map sd)).cps.toList=((d::l).map dk).flatten.drop 1:=by
  intro c e1 hc e2
  obtain⟨ls',l',q1,q2⟩:=gq l [] [c] hr
  have q1:(l.map sd).foldl cR [[c]]=ls'++[l']:=q1
  have e3:ej ((d::l).map sd)=ls'++[l']:=by
   unfold ej
   rw [map_cons,foldl_cons,e1,dO _ hc];exact q1
  unfold jd xm
  rw [e3]
  rw [map_cons,flatten_cons,e2]
  have q2:((ls'++[l']).map fun x=>124::x).flatten=[124,c]++(l.map dk).flatten:=by rw [q2];simp
  obtain⟨x,r,hx⟩:∃x r,ls'++[l']=x::r:=by
   cases hh:ls'++[l'] with
   |nil=>simp at hh
   |cons x r=>exact⟨x,r,rfl⟩
  rw [hx] at q2⊢
  rw [wh]
  have:=congrArg (List.drop 1) q2
  simpa using this
 have:d=1\/d=2:=by lia
 rcases this with rfl|rfl
 ·exact key 49 rfl (.inl rfl) rfl
 ·exact key 127 rfl (.inr rfl) rfl
theorem wv{ls:Array Value}{ds:List Nat}{bc:Nat}(h:aX ls (ds.map (db bc)))(hD:fS ds)(hbc:bc=917535\/bc=917632):gm ⟨⟨[]⟩⟩ ls/\jP (bN ⟨⟨[]⟩⟩ ls)=false/\(bN ⟨⟨[]⟩⟩ ls).cps.toList=(ds.map (db bc)).flatten:=by
 obtain⟨a,b⟩:=pE h (nf (fun d _=>pP bc d) hD.len)
 exact⟨a,by rw [b];exact xd (by lia) hD.ne,by rw [b]⟩
theorem pY{ls:Array Value}{ds:List Nat}(h:aX ls (ds.map dk))(hD:fS ds):gm ⟨⟨[]⟩⟩ ls/\1<=(bN ⟨⟨[]⟩⟩ ls).length/\(bN ⟨⟨[]⟩⟩ ls).length<=1000/\(jd (ds.map sd)).cps.toList=(lT (bN ⟨⟨[]⟩⟩ ls)).cps.toList:=by
 obtain⟨a,b⟩:=pE h (nf (fun d _=>lM d) hD.len)
 have hl:=jq lM ds
 have:=hD.len
 refine⟨a,?_,?_,?_⟩
 ·rw [b]
  obtain⟨d,l,rfl⟩:∃d l,ds=d::l:=by cases ds with|nil=>exact(hD.ne rfl).elim|cons d l=>exact⟨d,l,rfl⟩
  show 1<=((d::l).map dk).flatten.length
  have:1<=(dk d).length:=by unfold dk;(repeat' split)<;>decide
  rw [map_cons,flatten_cons,List.length_append];lia
 ·rw [b]
  show(ds.map dk).flatten.length<=1000
  lia
 ·rw [b];exact oA hD
theorem qo{ds:List Nat}(hD:fS ds):(jd (ds.map sd)).length<=40:=by
 have e:=congrArg List.length (oA hD)
 have hl:=jq lM ds
 have:=hD.len
 rw [List.length_drop] at e
 show(jd (ds.map sd)).cps.size<=40
 rw [<-length_toList,e];omega
theorem ie{ds:List Nat}(hD:fS ds):Nat.ble (jd (ds.map sd)).length 1000=true:=Nat.ble_eq.mpr (Nat.le_trans (qo hD) (by decide))
theorem F9(x y:Str):(sx x y).length<=x.length:=by
 unfold sx
 split
 ·exact Nat.le_refl _
 ·exact kH _ _ _
theorem sA{ds:List Nat}(hD:fS ds){y:Str}:Nat.ble (sx (jd (ds.map sd)) y).length 1000=true:=Nat.ble_eq.mpr (Nat.le_trans (F9 _ _) (Nat.le_trans (qo hD) (by decide)))
theorem DF{ls:Array Value}{ds:List Nat}{bc:Nat}(h:aX ls (bU (ds.map (db bc)).flatten))(hD:fS ds)(hbc:bc=917535\/bc=917632):cQ ls (ds.map sd):=by
 rw [qJ hbc hD.lt] at h
 exact l7 h
theorem tZ{ds:List Nat}{bc:Nat}(hD:fS ds)(hbc:bc=917535\/bc=917632):(ds.map (db bc)).flatten[0]? =some 917535\/(ds.map (db bc)).flatten[0]? =some 917632:=by
 obtain⟨d,l,rfl⟩:∃d l,ds=d::l:=by cases ds with|nil=>exact(hD.ne rfl).elim|cons d l=>exact⟨d,l,rfl⟩
 rcases hbc with rfl|rfl
 ·left;simp [db]
 ·right;simp [db]
theorem xe{ds:List Nat}{bc:Nat}(hD:fS ds):(ds.map (db bc)).flatten.length<=900:=by
 have hl:=jq (pP bc) ds
 have:=hD.len
 lia
theorem nc(W:WW)(vA:FA){ds:List Nat}(hD:fS ds){i140 i147 iS:Nat}{t140 t147:List Value}{V:XV}(hk:V.kt=eG (pW W))(htab:t140=[]/\t147=[]\/∃r1 r2,t140=[.int 67 0,.int 19 0,.ref r1]/\t147=[.int 70 0,.int 32 0,.ref r2]):bX V (model pw (Vw W)) (sE W vA (ds.map sd) i140 i147 iS V.mm V.ro t140 t147):=by
 obtain⟨d,l,rfl⟩:∃d l,ds=d::l:=by cases ds with|nil=>exact(hD.ne rfl).elim|cons d l=>exact⟨d,l,rfl⟩
 have hd:=hD.lt d (mem_cons_self ..)
 have h0:=hD.hd d rfl
 refine yW W vA (sd d) (l.map sd) hk ?_ ?_ ?_ htab
 ·unfold sd
  have:d=1\/d=2:=by lia
  rcases this with rfl|rfl
  ·left;rfl
  ·right;rfl
 ·intro c hc
  obtain⟨x,hx,rfl⟩:=List.mem_map.mp hc
  unfold sd
  (repeat' split)<;>lia
 ·have:=hD.len
  simp at this⊢;lia
theorem lw{a b:Int}{t u:Tok}{v:Bool}{l}(h:(a !=b)=v):av (.builtin "int.__ne__" ⟨[.int a t,.int b u],[]⟩) l (.val (.bool v)):=by
 subst h;exact av.mk PySem.F.entry_int_ne (gives_int_ne a b t u) trivial
theorem ni{k r:Nat}{t u:Tok}{l}(h:k % 2=r):av (.builtin "int.__mod__" ⟨[.int (Int.ofNat k) t,.int (Int.ofNat 2) u],[]⟩) l (.int (Int.ofNat r)):=by
 subst h;exact mZ (.inl rfl)
abbrev kC(a:Nat)(b:Int):=dp a 20 b.natAbs []
abbrev qY(a:Nat)(b:Int):=jd (List.map sd (kC a b))
noncomputable def ir(B:Nat)(v:Int):Int:=Int.ofNat (qY B v).length-Int.ofNat (sx (qY B v) ⟨⟨[32]⟩⟩).length
theorem AA{w':World}{al rw sm ob}{fz:List dh}{E:ae}(ha:eD (jA w') al)(hs:fF (fg w' E.length al rw sm ob fz) (jA w') sm){Γ:Ctx}{p:Pos}{t:Sem Fin}{hl:List Nat}{N:Nat}{is:List Nat}{Z:Ev->Nat->Nat->List wJ->List dh->Prop}{s:Shared}(hP:az w'.params E s){n tb gb:Nat}
  (hn:s.heap.objs.size=n) (ht:s.toks=tb) (hg:s.gens.size=gb) (his:is.take E.length=List.range E.length) (hge:((is.drop E.length).all fun i=>Nat.ble E.length i)=true)
  (hZ:∀ev nk tk l f,Z ev nk tk l f->(l.map (·.1)).take E.length=E.map (·.1)/\677<=tk)
  (hfz:cH fz E s) (H:cm (fg w' E.length al rw sm ob fz) N Γ p t [] hl (qU E n tb gb) (sI is fun ev nk tk fin l f=>fin=true/\Z ev nk tk l f)):
  ∃ev s' l f,dA (jA w') Γ p t [] s ev s'/\Z ev s'.heap.objs.size s'.toks l f/\f9 l s'.heap/\cN w'.params s'/\af E s s'/\(∀x∈f,s'.heap.get? x.1=some x.2/\x.1∉l.map (·.1)/\s.heap.objs.size<=x.1)/\∀a∈(l.drop E.length).map (·.1),s.heap.objs.size<=a:=by
 refine gQ fun Q zQ=>?_
 obtain⟨ev,hs',st',s',r,R,hf,z⟩:=ik (sb ha hs) N Γ p t [] hl _ _ s H (xX (V:=fg w' E.length al rw sm ob fz) rfl rfl rfl hP.rdy hP.has hP.nd hP.lo hn ht hg hfz)
 rw [Bool.and_eq_true] at hf
 have e1:s'.heap.objs.size=Nat.add st'.n st'.k:=R.size
 have e2:s'.toks=Nat.add st'.tb st'.ti:=R.toks
 rw [<-e1,<-e2] at z
 obtain⟨h1,h3⟩:=hZ _ _ _ _ _ z
 refine zQ ?_
 have hsz:s.heap.objs.size<=s'.heap.objs.size:=by rw [e1];exact Nat.le_trans R.h0n (le_add_right _ _)
 refine⟨ev,s',_,_,r,z,gd R is,⟨fun a o e=>R.kt a o e,fU R hf.1,?_,?_⟩,⟨fun b o e hb=>?_,R.drawn,R.os,hsz⟩,fun x hx=>⟨(R.dz x hx).1,fun hm=>?_,(R.dz x hx).2.2⟩,fun a ha=>?_⟩
 ·have:=hP.rdy.size;lia
 ·exact h3
 ·refine R.keep b o e fun i hi q=>hb ?_
  have hi:i<E.length:=hi
  rw [<-h1,map_map]
  rw [<-q]
  have hm:(is.map fun i=>bm st'.L st'.n i).take E.length=(List.range E.length).map fun i=>bm st'.L st'.n i:=by rw [<-map_take,his]
  show bm st'.L st'.n i∈((is.map fun i=>bm st'.L st'.n i).take E.length)
  rw [hm]
  exact List.mem_map.mpr ⟨i,List.mem_range.mpr hi,rfl⟩
 ·rw [map_map] at hm
  obtain⟨i,hi,e⟩:=List.mem_map.mp hm
  have e:bm st'.L st'.n i=x.1:=e
  have hlt:=List.all_eq_true.mp hf.2 i hi
  exact(R.dz x hx).2.1 i (le_of_ble_eq_true hlt) e
 ·obtain⟨x,hx,rfl⟩:=List.mem_map.mp ha
  rw [<-List.map_drop] at hx
  obtain⟨i,hi,e⟩:=List.mem_map.mp hx
  subst e
  have hlt:=List.all_eq_true.mp hf.2 i (List.mem_of_mem_drop hi)
  have hg:=List.all_eq_true.mp hge i hi
  exact R.new i (le_of_ble_eq_true hg) (le_of_ble_eq_true hlt)
theorem az.mid{P:Params}{E1 E2 E3:ae}{s:Shared}(h:az P (E1++(E2++E3)) s):az P E2 s:=by
 have nd:=h.nd
 rw [map_append,map_append] at nd
 have nd2:=(List.nodup_append.mp nd).2.1
 exact⟨h.rdy,(cj.mp (cj.mp h.has).2).1,(List.nodup_append.mp nd2).1,fun a ha=>h.lo a (by rw [map_append,map_append];exact mem_append_right _ (mem_append_left _ ha))⟩
theorem lB{E T:ae}{s s':Shared}(k:af E s s')(h:cI T s.heap)(hd:∀a∈T.map (·.1),a∉E.map (·.1)):cI T s'.heap:=by
 induction T with
 |nil=>trivial
 |cons x T ih=>exact⟨k.keep _ _ h.1 (hd _ (mem_cons_self ..)),ih h.2 fun a ha=>hd a (mem_cons_of_mem _ ha)⟩
theorem az.mid_back{P:Params}{E1 E2 E3 F2:ae}{s s':Shared}(h:az P (E1++(E2++E3)) s)(hF:cI F2 s'.heap)(k:af E2 s s'):cI (E1++(F2++E3)) s'.heap/\af (E1++(E2++E3)) s s':=by
 have nd:=h.nd
 rw [map_append,map_append] at nd
 have n1:=List.nodup_append.mp nd
 have n2:=List.nodup_append.mp n1.2.1
 have hh:=cj.mp h.has
 have hh2:=cj.mp hh.2
 refine⟨cj.mpr ⟨lB k hh.1 fun a ha hb=>n1.2.2 a ha a (mem_append_left _ hb) rfl,cj.mpr ⟨hF,lB k hh2.2 fun a ha hb=>n2.2.2 a hb a ha rfl⟩⟩,⟨fun b o q hb=>k.keep b o q fun hm=>hb ?_,k.drawn,k.os,k.size⟩⟩
 rw [map_append,map_append]
 exact mem_append_right _ (mem_append_left _ hm)
theorem qB{W:WW}{al rw sm ob}{fz:List dh}{E EL:WW->ae}{Γ:Ctx}{p:Pos}{t:Sem Fin}{N:Nat}{is:List Nat}{s:Shared}(hE:E=EL)(hP:az (pW W) (E W) s){n tb gb:Nat}
  (hn:s.heap.objs.size=n) (ht:s.toks=tb) (hg:s.gens.size=gb) (f g:ae->WW->(Ev->Nat->Nat->Bool->List wJ->List dh->Prop)->List Nat->Prop) (L:WW->List Nat) {Q:Prop}
  (hq:GL f g EL L) (hf:f (E W) W=fun Z hs=>cm (fg (Vw W) (EL W).length al rw sm ob fz) N Γ p t [] hs (qU (E W) n tb gb) (sI is Z))
  (ha:eD (Yt W) al) (hs:fF (fg (Vw W) (EL W).length al rw sm ob fz) (Yt W) sm) (his:is.take (EL W).length=List.range (EL W).length) (hge:((is.drop (EL W).length).all fun i=>Nat.ble (EL W).length i)=true) (hfz:cH fz (E W) s)
  (HR:∀hs,g (E W) W (fun ev _ tk fin l f=>fin=true/\(l.map (·.1)).take (EL W).length=(EL W).map (·.1)/\677<=tk/\∀s',dA (Yt W) Γ p t [] s ev s'->s'.toks=tk->f9 l s'.heap->cN (pW W) s'->af (E W) s s'->(∀x∈f,s'.heap.get? x.1=some x.2/\x.1∉l.map (·.1)/\s.heap.objs.size<=x.1)->(∀a∈(l.drop (EL W).length).map (·.1),s.heap.objs.size<=a)->Q) hs):Q:=by
 subst hE
 obtain⟨_,s',_,_,r,z,h3,h4,h5,h6,h7⟩:=AA (Z:=fun ev _ tk l f=>(l.map (·.1)).take (E W).length=(E W).map (·.1)/\677<=tk/\∀s',dA (Yt W) Γ p t [] s ev s'->s'.toks=tk->f9 l s'.heap->cN (pW W) s'->af (E W) s s'->(∀x∈f,s'.heap.get? x.1=some x.2/\x.1∉l.map (·.1)/\s.heap.objs.size<=x.1)->(∀a∈(l.drop (E W).length).map (·.1),s.heap.objs.size<=a)->Q) ha hs hP hn ht hg his hge (fun _ _ _ _ _ h=>⟨h.1,h.2.1⟩) hfz (Eq.mpr ((congrFun (congrFun hf _) _).symm.trans (hq W _)) (HR _))
 exact z.2.2 s' r rfl h3 h4 h5 h6 h7
structure FD where mk::(p3 p4 p5 p6:Pos) (te2:Expr) (i2:Value) (bo2 e2:List Stmt) (nA nB nC:Env) (f1 f2:List Stmt)
noncomputable abbrev Bf(a:FD):Code×Pos:=(.forLoop a.te2 a.i2 a.bo2 a.e2 a.nB,a.p4)
abbrev i7 a b:=((A a,⟨Yu,none,.cell b,⟨[]⟩⟩):Nat×Obj)
noncomputable abbrev xk a:=([(.func a.f1 a.nA,a.p3),(Bf a),(.func a.f2 a.nC,a.p5),(Y7,a.p6)]:List (Code×Pos))
abbrev wG a b c:=(A a,ah "frame" b c)
theorem Gr(W:WW)(p0:Pos)(vD:FD)(aF c1 aI k bR:Nat)(frl:List DictEntry)(vc:Option Value)(s:Shared)(E:WW->ae)(hE:E=fun W=>[(wG aF frl bR),(i7 c1 vc),(ku aI k)])(hP:az (pW W) (E W) s){Q:Prop}(kQ:∀(n tb:Nat) (s':Shared),Hn s n->Ht s tb->Runs (Yt W) (⟨fj (pW W) aF c1 aI,none,none,(xk vD),none⟩) p0 ((Yt W).den (fj (pW W) aF c1 aI)) [] s fu s'->cN (pW W) s'->cI ([(wG aF frl bR),(i7 c1 vc),(ku aI k)]) s'.heap->af (E W) s s'->Q):Q:=by
 obtain⟨n,tb,gb,hn,ht,hg⟩:=hP.nt
 refine bT hE hP hn ht hg (fun E W Z hs=>cm (oZ W 3) 56 (⟨fj (pW W) aF c1 aI,none,none,(xk vD),none⟩) (p0) (aQ (fj (pW W) aF c1 aI)) [] hs (cO E n tb gb) (mb Z)) (fun E W Z hs=>ad (lE E) (A n) gb (sl hs 0 6) (Z oY (Y2 n 2) (Y8 tb 0) true (ax ([(wG aF frl bR),(i7 c1 vc),(ku aI k)])))) (fun _=>[3,3,3,3,3,5]) (oW (by kernel_rfl)) rfl trivial (by exact trivial) rfl fun hs=>?_
 exact rF fun s' r _ h3 h4 h5=>kQ n tb s' hn ht (by rw [bI];exact r) h4 (ai h3) h5
abbrev Kb(a:Nat)(b:Int):=List.map sd (kC a b)
abbrev zC a b c d e f g h i:=[140,147,(A a),(A b),(A c),(A d),(A e),(Y2 f 0),(Y2 g 0),(Y2 g 1),(Y2 g 2),(Y2 g 3),(Y2 h 0),(Y2 h 1),(Y2 h 2),(Y2 i 0),(Y2 i 1),(Y2 i 2)]
abbrev He(a b c:Nat)(d:Array Value)(e:Int)(f:Tok):=(Rf (.builtin "list.__getitem__" ⟨[(Yp a),(.int (Yh b) (TK c))],[]⟩:Code))/\(bO (Yh b)/\((((seqIndex? (Yh b) d.size).bind fun j=>d[j]?):i8)=(some (iU e f))))
abbrev CJ a b c:=(.int (Int.ofNat b) (Y8 a c):Value)
abbrev GS a b c d e f g h i j:=[140,147,(A a),(A b),(A c),(A d),(A e),(Y2 f 0),(Y2 g 0),(Y2 g 1),(Y2 g 2),(Y2 g 3),(Y2 h 0),(Y2 h 1),(Y2 h 2),(Y2 i 0),(Y2 i 1),(Y2 i 2),(Y2 j 0)]
abbrev rQ a b c:=(((A a),⟨(.type "list"),none,(.seq (b) c),⟨[]⟩⟩):Nat×Obj)
noncomputable abbrev OE(a:qE):Obj:=⟨.type "list",none,.seq (a.ls) a.ep,⟨[]⟩⟩
abbrev Pk(a b:Nat)(c:qE)(d e:Nat):=(Rf (.builtin "str.join" ⟨[.str (Str.mk ⟨[]⟩) (Y8 a d),.ref (Y2 b e)],[]⟩:Code))/\(Rf ((OE c):Obj))/\gm (Str.mk ⟨[]⟩) (c.ls)
abbrev C7(a:qE):=bN (Str.mk (Array.mk [])) a.ls
abbrev G1 a b c d e f g:=[140,147,(A a),(A b),(A c),(A d),(A e),(Y2 f 0),(Y2 g 0),(Y2 g 1),(Y2 g 2),(Y2 g 3)]
noncomputable abbrev DO(a:FD):Code×Pos:=(.func a.f1 a.nA,a.p3)
noncomputable abbrev Dq(a:FD):Code×Pos:=(.func a.f2 a.nC,a.p5)
abbrev KJ a b c d e f g h:=[140,147,(A a),(A b),(A c),(A d),(A e),(Y2 f 0),(Y2 g 0),(Y2 g 1),(Y2 g 2),(Y2 g 3),(Y2 h 0),(Y2 h 1),(Y2 h 2)]
abbrev O8:=(gE [90005,40003,40006,4000,4001,3,3,0,0,3,3,40006,4002,3001,7000,3,3,1001,0,0,3,4003,50009,4,4,3,8,8,8,10,1002,30012,7003,3,3,0,3,4004,13,1004,30015,0,1005,40003,8,8,8,16,1006,30018,7007,4005,4006,3,40007,3,0,0,3,4007,0,0,3,7008,4008,7,4009,7,3000])
abbrev JU(a:vT)(b:cC)(c:Nat):Code:=.builtin "str.__getitem__" ⟨[(.str (bN (Str.mk (Array.mk [])) a.ls) b.t),(dY c 0)],[]⟩
noncomputable abbrev zy:=(.type "range_iterator":Value)
noncomputable abbrev Pj(a:fB):Nat×Obj:=(140,⟨.none,none,(.fields ⟨[(.int (Int.ofNat 67) 0),(.int (Int.ofNat 19) 0),(.ref a.r1)]⟩),⟨[]⟩⟩)
noncomputable abbrev O9(a:fB):Nat×Obj:=(147,⟨.none,none,(.fields ⟨[(.int (Int.ofNat 70) 0),(.int (Int.ofNat 32) 0),(.ref a.r2)]⟩),⟨[]⟩⟩)
abbrev Hg a b c:=Rf (.builtin "list.append" ⟨[(Yp a),(dY b c)],[]⟩:Code)
abbrev Ih a b c:=(df a c,aK "list_iterator" [.ref (A (cT b)),Ym])
noncomputable abbrev qR:=Str.mk ⟨eM⟩
abbrev PG(a:Nat)(b:Int)(c:cC):=(Rf (.builtin "len" ⟨[(.str (sx (qY a b) (Str.mk (Array.mk [32]))) c.t)],[]⟩:Code))/\((((sx (qY a b) (Str.mk (Array.mk [32]))).length.ble 1000):(Bool))=(true))
abbrev GP a b c d e f:=[140,147,(A a),(A b),(A c),(A d),(A e),(Y2 f 0)]
noncomputable abbrev sC:=Str.mk ⟨gF⟩
noncomputable abbrev F7:=Str.mk ⟨Yq⟩
abbrev PJ a b c d e f:=(((Y2 a 0),⟨(.type "tuple"),none,(.seq ⟨[(ki b c),(.int (Int.ofNat (qY d e).length-Int.ofNat (sx (qY d e) (Str.mk (Array.mk [32]))).length) (Y8 f 2))]⟩ 0),⟨[]⟩⟩):Nat×Obj)
noncomputable abbrev DA:=(.type "frame":Value)
abbrev PM(a b:Nat)(c:vT):=(Rf (.builtin "str.join" ⟨[.str (Str.mk ⟨[]⟩) (Y8 a 1),.ref (Y2 b 1)],[]⟩:Code))/\(Rf (⟨.type "list",none,.seq (c.ls) c.ep,⟨[]⟩⟩:Obj))/\gm (Str.mk ⟨[]⟩) (c.ls)
abbrev PF(a:Nat)(b:Int)(c:fB)(d:Nat):=(Rf (.builtin "str.rstrip" ⟨[.str (qY a b) c.t,.str (EO 32) (Y8 d 4)],[]⟩:Code))/\(Nat.ble (Str.length (qY a b)) 1000=true)
abbrev PC(a:qE)(b:cC):=(Rf (.builtin "str.__iter__" ⟨[(.str (C7 a) b.t)],[]⟩:Code))/\(((jP (C7 a)):(Bool))=(false))
abbrev Pa(a:Nat)(b:Int)(c:fB):=(Rf (.builtin "len" ⟨[(.str (qY a b) c.t)],[]⟩:Code))/\((((qY a b).length.ble 1000):(Bool))=(true))
abbrev Ol a b c:=(.builtin "int.__ne__" ⟨[(iU a b),(.int Yx (Y8 c 2))],[]⟩:Code)
theorem Am(W:WW)(p0:Pos)(vD:FD)(aF c1 aI aV aO B k m:Nat)(v:Int)(u1 u2 u3 u4 u5 u6 u7 u8 tB tv:Tok)(vPl vFi vLe vTx vTo:Value)(vc:Option Value)(t140 t147:List Value)(vs pts:Array Value)(epV epO:Nat)(s:Shared)(hfk:bO (Yh k))(hvs:(zD k vs).bind (fun j=>vs[j]?)=some (b8 v tv))(hv:(v !=0)=true)(hpar:k % 2=0)(hB:B=2\/B=3)(hL:v.natAbs<2^20)(hD:fS (kC B v))(htab:t140=[]/\t147=[]\/∃r1 r2,t140=(jH r1)/\t147=(jC r2))(hsz:pts.size<=1000)(E:WW->ae)(hE:E=fun W=>[(140,bD t140),(147,bD t147),(A aF,ah "frame" [aa (pW W) gF u1 (Yp aV),aa (pW W) eM u2 (cr B tB),aa (pW W) Yq u3 (Yp aO)] 3),(i7 c1 vc),(qQ aI k m),(Yk aV vs epV),(Yk aO pts epO)])(hP:az (pW W) (E W) s){Q:Prop}(kQ:∀(n tb:Nat) (s':Shared) (r1 r2:Addr) (y4 y5 y6 y7 y8 yp:Tok) (w5 w6 w7 w8:Value) (wc:Option Value) (nt:Nat) (ep:Nat) (ta tz:Tok),Hn s n->Ht s tb->br (Yt W) (⟨fj (pW W) aF c1 aI,none,none,(xk vD),none⟩) p0 s s'->cN (pW W) s'->cI ([(140,bD (jH r1)),(147,bD (jC r2)),(A aF,ah "frame" [aa (pW W) gF u1 (Yp aV),aa (pW W) eM u2 (cr B tB),aa (pW W) Yq u3 (Yp aO),aa (pW W) my y4 (cr k yp),aa (pW W) iJ y5 w5,aa (pW W) iX y6 w6,aa (pW W) DC y7 w7,aa (pW W) DW y8 w8] 8),(i7 c1 wc),(A aI,aK "range_iterator" [rB k,.int (Int.ofNat (Nat.succ m)-1) 0,jx]),(Yk aV vs epV),(A aO,ab (pts.push (Yp nt)) ep),(A nt,a9 [.int (Yh k) ta,.int (ir B v) tz] 0)]) s'.heap->af (E W) s s'->s.heap.objs.size<=A nt->Q):Q:=by
 obtain⟨n,tb,gb,hn,ht,hg⟩:=hP.nt
 refine qB (fz:=[]) hE hP hn ht hg (fun E W Z hs=>cm (ei (Vw W) 7 [(co 5 (b8 v tv)),pn,(co 5 (b8 v tv)),(f7 [] (.int Yx)),kU,(dM [18] sZ),mx,jm,jm,(cf 6)] [] [ri 7 7,yZ W ⟨⟨121,12,123,35⟩,vD.p3,vD.p4,vD.p5,vD.p6,(em (dC (pW W))),vD.te2,(tJ aI),vD.i2,(bk (dC (pW W))),vD.bo2,(cJ (dC (pW W))),vD.e2,(bj (pW W) aF c1),vD.nA,vD.nB,vD.nC,vD.f1,vD.f2⟩ aF c1 aV aO B u1 u2 u3 tB [] 6 v.natAbs 2 7 7 7,wU W ⟨⟨125,89,125,96⟩,vD.p3,vD.p4,vD.p5,vD.p6,(em (dC (pW W))),vD.te2,(tJ aI),vD.i2,(bk (dC (pW W))),vD.bo2,(cJ (dC (pW W))),vD.e2,(bj (pW W) aF c1),vD.nA,vD.nB,vD.nC,vD.f1,vD.f2⟩ aF c1 917535 (kC B v) 11 9 10 7 3 7 7,g8 10 7 7,xQ W ⟨⟨126,67,126,71⟩,vD.p3,vD.p4,vD.p5,vD.p6,(em (dC (pW W))),vD.te2,(tJ aI),vD.i2,(bk (dC (pW W))),vD.bo2,(cJ (dC (pW W))),vD.e2,(bj (pW W) aF c1),vD.nA,vD.nB,vD.nC,vD.f1,vD.f2⟩ aF c1 (List.flatten (List.map (db 917535) (kC B v))) 14 12 13 7 7,sE W ⟨⟨126,19,126,94⟩,vD.p3,vD.p4,vD.p5,vD.p6,(em (dC (pW W))),vD.te2,(tJ aI),vD.i2,(bk (dC (pW W))),vD.bo2,(cJ (dC (pW W))),vD.e2,(bj (pW W) aF c1),vD.nA,vD.nB,vD.nC,vD.f1,vD.f2⟩ (Kb B v) 0 1 13 7 7 t140 t147,xo W ⟨⟨127,82,127,89⟩,vD.p3,vD.p4,vD.p5,vD.p6,(em (dC (pW W))),vD.te2,(tJ aI),vD.i2,(bk (dC (pW W))),vD.bo2,(cJ (dC (pW W))),vD.e2,(bj (pW W) aF c1),vD.nA,vD.nB,vD.nC,vD.f1,vD.f2⟩ aF c1 (kC B v) 17 15 16 7 7 7,g8 16 7 7,yI 7 7] []) 325 (⟨fj (pW W) aF c1 aI,none,none,(xk vD),none⟩) (p0) (aQ (fj (pW W) aF c1 aI)) [] hs (cO E n tb gb) (sI [0,1,2,3,4,5,6,19] Z)) (fun E W Z hs=>ad (lE E) (A n) gb (sl hs 0 17) ((He aV k tb vs v tv)/\ad (lE E) (A n) gb (sl hs 17 0) ((av (Ol v tv tb) [] ww/\Yc)/\ad (lE E) (A n) gb (sl hs 19 10) ((He aV k tb vs v tv)/\ad (lE E) (A n) gb (sl hs 29 0) ((Rf (.builtin "int.__abs__" ⟨[.int (v) tv],[]⟩:Code))/\(Rf (ax ([])))/\Yc/\Yc/\∀(x0:cC) (n0 tb0 gb0:Nat),True->Yc/\ad (GP aF c1 aI aV aO n) (A n0) gb0 (sl hs 32 2) (True/\(Rf (⟨gK (pW W) aF c1,none,none,[(.forLoop (em (dC (pW W))) (Yp aI) (bk (dC (pW W))) (cJ (dC (pW W))) (bj (pW W) aF c1),⟨121,12,123,35⟩),(DO vD),(Bf vD),(Dq vD),(Y7,vD.p6)],none⟩:Ctx))/\(Rf (ax ([(A aF,jE (pW W) aV aO u1 u2 u3 (Y8 tb 1) tB B (ki k tb) ([aa (pW W) iJ (Y8 tb 3) (.ref (A (cT n))),aa (pW W) iX (TK tb0) (.int (Int.ofNat (v.natAbs)) x0.t)]++[]) 6),(mS n 0)])))/\Yc/\Yc/\∀(x1:Ai) (n1 tb1 gb1:Nat),aZ x1.gs (kC B v)/\x1.gs.size<=900->Yc/\ad (GP aF c1 aI aV aO n) (A n1) gb1 (sl hs 35 3) ((av (.builtin "int.__mod__" ⟨[(ki k tb),(CJ tb1 2 2)],[]⟩) [] (Made.int Yx)/\Yc)/\ad (GP aF c1 aI aV aO n) (A n1) gb1 (sl hs 39 12) ((aZ (x1.gs) (kC B v))/\(Rf (⟨ay (ao (fn (pW W)) (bj (pW W) aF c1) (bK n1 3) (dE n1) (bK n1 2)),none,none,[(.forLoop (em (dC (pW W))) (Yp aI) (bk (dC (pW W))) (cJ (dC (pW W))) (bj (pW W) aF c1),⟨125,89,125,96⟩),(DO vD),(Bf vD),(Dq vD),(Y7,vD.p6)],none⟩:Ctx))/\(Rf (ax ([(df n1 3,eI),(Ih n1 n 1),(df n 0,ab (x1.gs) x1.ep),(mS n1 2),(A c1,⟨Yu,none,.cell (some (.str ⟨⟨[917535]⟩⟩ (Y8 tb1 4))),⟨[]⟩⟩)])))/\Yc/\Yc/\∀(x2:qE) (n2 tb2 gb2:Nat),aX x2.ls (List.map (db 917535) (kC B v))->Yc/\ad (G1 aF c1 aI aV aO n n1) (A n2) gb2 (sl hs 52 3) ((Pk tb1 n1 x2 5 2)/\(Rf (ax ([((Y2 n1 2),((OE x2):Obj))])))/\Yc/\Yc/\∀(x3:cC) (n3 tb3 gb3:Nat),True->Yc/\ad (G1 aF c1 aI aV aO n n1) (A n3) gb3 (sl hs 56 4) ((PC x2 x3)/\ad (G1 aF c1 aI aV aO n n1) (A n3) gb3 (sl hs 61 1) ((Array.toList (Str.cps (C7 x2))=(List.flatten (List.map (db 917535) (kC B v))))/\(Rf (⟨ay (ao (ew (pW W)) (bj (pW W) aF c1) (bK n3 2) (cT n3) (dE n3)),none,none,[(.forLoop (em (dC (pW W))) (Yp aI) (bk (dC (pW W))) (cJ (dC (pW W))) (bj (pW W) aF c1),⟨126,67,126,71⟩),(DO vD),(Bf vD),(Dq vD),(Y7,vD.p6)],none⟩:Ctx))/\(Rf (ax ([(df n3 2,eI),(df n3 0,aK "str_iterator" [.str (C7 x2) x3.t,Ym]),(mS n3 1)])))/\Yc/\Yc/\∀(x4:Cl) (n4 tb4 gb4:Nat),aX x4.ls (bU (List.flatten (List.map (db 917535) (kC B v))))->Yc/\ad (KJ aF c1 aI aV aO n n1 n3) (A n4) gb4 (sl hs 63 4) ((cQ (x4.ls) (Kb B v))/\(Rf (uh (dE n3) ⟨⟨126,19,126,94⟩,vD.p3,vD.p4,vD.p5,vD.p6,(em (dC (pW W))),vD.te2,(tJ aI),vD.i2,(bk (dC (pW W))),vD.bo2,(cJ (dC (pW W))),vD.e2,(bj (pW W) aF c1),vD.nA,vD.nB,vD.nC,vD.f1,vD.f2⟩:Ctx))/\(Rf (ax ([(140,bD t140),(147,bD t147),(df n3 1,ab (x4.ls) x4.ep)])))/\Yc/\Yc/\∀(x5:fB) (n5 tb5 gb5:Nat),True->Yc/\ad (KJ aF c1 aI aV aO n n1 n3) (A n5) gb5 (sl hs 68 8) ((aZ (x1.gs) (kC B v))/\(Rf (⟨ay (ao (fk (pW W)) (bj (pW W) aF c1) (bK n5 2) (cT n5) (dE n5)),none,none,[(.forLoop (em (dC (pW W))) (Yp aI) (bk (dC (pW W))) (cJ (dC (pW W))) (bj (pW W) aF c1),⟨127,82,127,89⟩),(DO vD),(Bf vD),(Dq vD),(Y7,vD.p6)],none⟩:Ctx))/\(Rf (ax ([(df n5 2,eI),(Ih n5 n 0),(df n 0,ab (x1.gs) x1.ep),(mS n5 1)])))/\Yc/\Yc/\∀(x6:vT) (n6 tb6 gb6:Nat),aX x6.ls (List.map dk (kC B v))->Yc/\ad (zC aF c1 aI aV aO n n1 n3 n5) (A n6) gb6 (sl hs 77 3) ((PM tb5 n5 x6)/\(Rf (ax ([((Y2 n5 1),(⟨.type "list",none,.seq (x6.ls) x6.ep,⟨[]⟩⟩:Obj))])))/\Yc/\Yc/\∀(x7:cC) (n7 tb7 gb7:Nat),True->Yc/\ad (zC aF c1 aI aV aO n n1 n3 n5) (A n7) gb7 (sl hs 80 0) ((av (JU x6 x7 n7) [((Y2 n7 0),(some ⟨(.type "slice"),none,(.fields ⟨[(.int (Int.ofNat 1) (TK tb7)),.none,.none]⟩),⟨[]⟩⟩))] (sZ (JU x6 x7 n7))/\Yc)/\ad (zC aF c1 aI aV aO n n1 n3 n5) (A n7) gb7 (sl hs 80 0) ((av (.builtin "str.__ne__" ⟨[(.str (qY B v) x5.t),(.str (Str.mk ({toList:=List.drop 1 (bN (Str.mk (Array.mk [])) x6.ls).cps.toList})) (Y8 tb7 1))],[]⟩) [] wu/\Yc)/\ad (zC aF c1 aI aV aO n n1 n3 n5) (A n7) gb7 (sl hs 83 9) ((Pa B v x5)/\ad (zC aF c1 aI aV aO n n1 n3 n5) (A n7) gb7 (sl hs 93 3) ((PF B v x5 tb7)/\(Rf (ax ([])))/\Yc/\Yc/\∀(x8:cC) (n8 tb8 gb8:Nat),True->Yc/\ad (GS aF c1 aI aV aO n n1 n3 n5 n7) (A n8) gb8 (sl hs 96 0) ((PG B v x8)/\ad (GS aF c1 aI aV aO n n1 n3 n5 n7) (A n8) gb8 (sl hs 98 1) (((Hg aO n8 0)/\(rE pts))/\ad (GS aF c1 aI aV aO n n1 n3 n5 n7) (A n8) gb8 (sl hs 100 1) (Z (.again (fj (pW W) aF c1 aI)) (Y2 n8 1) (Y8 tb8 3) true (ax ([(Pj x5),(O9 x5),((A aF),⟨DA,none,(.dict ⟨[⟨(PyData.keyHash (pW W) sC),(.str sC u1),(Yp aV)⟩,⟨(PyData.keyHash (pW W) qR),(.str qR u2),(cr B tB)⟩,⟨(PyData.keyHash (pW W) (Str.mk ⟨Yq⟩)),(.str F7 u3),(Yp aO)⟩,⟨(PyData.keyHash (pW W) (Str.mk ⟨my⟩)),(.str (Str.mk ⟨my⟩) (Y8 tb 1)),(ki k tb)⟩,⟨(PyData.keyHash (pW W) (Str.mk ⟨iJ⟩)),(.str (Str.mk ⟨iJ⟩) (Y8 tb 3)),(dY n 0)⟩,⟨(PyData.keyHash (pW W) (Str.mk ⟨iX⟩)),(.str (Str.mk ⟨iX⟩) (TK tb0)),(.int Yx x1.tL)⟩,⟨(PyData.keyHash (pW W) (Str.mk ⟨DN⟩)),(.str (Str.mk ⟨DN⟩) (TK tb3)),(.str (C7 x2) x3.t)⟩,⟨(PyData.keyHash (pW W) (Str.mk ⟨DS⟩)),(.str (Str.mk ⟨DS⟩) (TK tb5)),(.str (qY B v) x5.t)⟩]⟩ 8),⟨[]⟩⟩),((A c1),⟨(.type "cell"),none,(.cell (some (.str (EO 917535) (Y8 tb1 4)))),⟨[]⟩⟩),((A aI),⟨zy,none,(.fields ⟨[(.int (Int.ofNat k+Int.ofNat 1) 0),(.int (Int.ofNat (m.add 1)-1) 0),(.int (Int.ofNat 1) 0)]⟩),⟨[]⟩⟩),(rQ aV vs epV),(A aO,Obj.mapSeq (·.push (dY n8 0)) (ab pts epO)),(PJ n8 k tb B v tb8)])) ([])))))))))))))))))))))) (fun _=>O8) (iY (by kernel_rfl)) rfl ⟨fun _=>bB,fun _=>au,fun _=>bB,fun _=>au,fun _=>jY,fun _=>bs,fun _=>au,fun _=>f8,fun _=>f8,fun _=>bx,trivial⟩ ⟨mG rfl,pM _ _ _ _ _ _ _ _ _ _ _ _ _ _ rfl hB (.inl ⟨rfl,rfl⟩) hL,pV _ _ _ _ _ _ rfl hD.lt hD.ne (Nat.le_trans hD.len (by decide)),fc rfl,qz _ _ _ _ _ rfl (tE (.inl rfl) hD.lt) (tZ hD (.inl rfl)) (xe hD),nc _ _ hD rfl htab,qi _ _ _ _ _ rfl hD.lt hD.ne (Nat.le_trans hD.len (by decide)),fc rfl,qC rfl,trivial⟩ rfl rfl (fun x hx=>nomatch hx) fun hs=>?_
 refine rI ⟨rfl,hfk,hvs⟩ ?_
 refine rI ⟨lw hv,rfl⟩ ?_
 refine rI ⟨rfl,hfk,hvs⟩ ?_
 refine ag ⟨rfl,rfl,rfl,rfl,fun x0 n0 tb0 gb0 hx0=>⟨rfl,?_⟩⟩ _
 refine ag ⟨trivial,rfl,rfl,rfl,rfl,fun x1 n1 tb1 gb1 hx1=>⟨rfl,?_⟩⟩ _
 refine rI ⟨ni hpar,rfl⟩ ?_
 refine ag ⟨hx1.1,rfl,rfl,rfl,rfl,fun x2 n2 tb2 gb2 hx2=>⟨rfl,?_⟩⟩ _
 refine ag ⟨⟨rfl,rfl,(wv hx2 hD (.inl rfl)).1⟩,rfl,rfl,rfl,fun x3 n3 tb3 gb3 hx3=>⟨rfl,?_⟩⟩ _
 refine rI ⟨rfl,(wv hx2 hD (.inl rfl)).2.1⟩ ?_
 refine ag ⟨(wv hx2 hD (.inl rfl)).2.2,rfl,rfl,rfl,rfl,fun x4 n4 tb4 gb4 hx4=>⟨rfl,?_⟩⟩ _
 refine ag ⟨DF hx4 hD (.inl rfl),rfl,rfl,rfl,rfl,fun x5 n5 tb5 gb5 hx5=>⟨rfl,?_⟩⟩ _
 refine ag ⟨hx1.1,rfl,rfl,rfl,rfl,fun x6 n6 tb6 gb6 hx6=>⟨rfl,?_⟩⟩ _
 refine ag ⟨⟨rfl,rfl,(pY hx6 hD).1⟩,rfl,rfl,rfl,fun x7 n7 tb7 gb7 hx7=>⟨rfl,?_⟩⟩ _
 refine rI ⟨mA (pY hx6 hD).2.1 (pY hx6 hD).2.2.1,rfl⟩ ?_
 refine rI ⟨pI (pY hx6 hD).2.2.2,rfl⟩ ?_
 refine rI ⟨rfl,ie hD⟩ ?_
 refine ag ⟨⟨rfl,ie hD⟩,rfl,rfl,rfl,fun x8 n8 tb8 gb8 hx8=>⟨rfl,?_⟩⟩ _
 refine rI ⟨rfl,sA hD⟩ ?_
 refine rI ⟨rfl,⟨rfl,rfl,rfl⟩,hsz⟩ ?_
 exact rF fun s' r _ h3 h4 h5 h6 h7=>kQ n tb s' x5.r1 x5.r2 _ _ _ _ _ _ _ _ _ _ _ (cT n8) _ _ _ hn ht (am rfl r) h4 (ai h3) h5 (h7 _ (mem_cons_self ..))
theorem yM(W:WW){d7:Nat}{d8:Nat}{d9:List Nat}(hz:d7=0/\d8=917535/\d9=[917535]\/d7=1/\d8=917632/\d9=[917632])(p0:Pos)(vD:FD)(aF c1 aI aV aO B k m:Nat)(v:Int)(u1 u2 u3 u4 u5 u6 u7 u8 tB tv:Tok)(vPl vFi vLe vTx vTo:Value)(vc:Option Value)(t140 t147:List Value)(vs pts:Array Value)(epV epO:Nat)(s:Shared)(hfk:bO (Yh k))(hvs:(zD k vs).bind (fun j=>vs[j]?)=some (b8 v tv))(hv:(v !=0)=true)(hpar:k % 2=d7)(hB:B=2\/B=3)(hL:v.natAbs<2^20)(hD:fS (kC B v))(htab:t140=[]/\t147=[]\/∃r1 r2,t140=(jH r1)/\t147=(jC r2))(hsz:pts.size<=1000)(E:WW->ae)(hE:E=fun W=>[(140,bD t140),(147,bD t147),(A aF,ah "frame" [aa (pW W) gF u1 (Yp aV),aa (pW W) eM u2 (cr B tB),aa (pW W) Yq u3 (Yp aO),aa (pW W) my u4 vPl,aa (pW W) iJ u5 vFi,aa (pW W) iX u6 vLe,aa (pW W) DC u7 vTx,aa (pW W) DW u8 vTo] 8),(i7 c1 vc),(qQ aI k m),(Yk aV vs epV),(Yk aO pts epO)])(hP:az (pW W) (E W) s){Q:Prop}(kQ:∀(n tb:Nat) (s':Shared) (r1 r2:Addr) (y4 y5 y6 y7 y8 yp:Tok) (w5 w6 w7 w8:Value) (wc:Option Value) (nt:Nat) (ep:Nat) (ta tz:Tok),Hn s n->Ht s tb->br (Yt W) (⟨fj (pW W) aF c1 aI,none,none,(xk vD),none⟩) p0 s s'->cN (pW W) s'->cI ([(140,bD (jH r1)),(147,bD (jC r2)),(A aF,ah "frame" [aa (pW W) gF u1 (Yp aV),aa (pW W) eM u2 (cr B tB),aa (pW W) Yq u3 (Yp aO),aa (pW W) my y4 (cr k yp),aa (pW W) iJ y5 w5,aa (pW W) iX y6 w6,aa (pW W) DC y7 w7,aa (pW W) DW y8 w8] 8),(i7 c1 wc),(A aI,aK "range_iterator" [rB k,.int (Int.ofNat (Nat.succ m)-1) 0,jx]),(Yk aV vs epV),(A aO,ab (pts.push (Yp nt)) ep),(A nt,a9 [.int (Yh k) ta,.int (ir B v) tz] 0)]) s'.heap->af (E W) s s'->s.heap.objs.size<=A nt->Q):Q:=by
 obtain⟨n,tb,gb,hn,ht,hg⟩:=hP.nt
 refine qB (fz:=[]) hE hP hn ht hg (fun E W Z hs=>cm (ei (Vw W) 7 [(co 5 (b8 v tv)),pn,(co 5 (b8 v tv)),(f7 [] (.int (Yh d7))),kU,(dM [18] sZ),mx,jm,jm,(cf 6)] [] [ri 7 7,yZ W ⟨⟨121,12,123,35⟩,vD.p3,vD.p4,vD.p5,vD.p6,(em (dC (pW W))),vD.te2,(tJ aI),vD.i2,(bk (dC (pW W))),vD.bo2,(cJ (dC (pW W))),vD.e2,(bj (pW W) aF c1),vD.nA,vD.nB,vD.nC,vD.f1,vD.f2⟩ aF c1 aV aO B u1 u2 u3 tB [aa (pW W) DC u7 vTx,aa (pW W) DW u8 vTo] 8 v.natAbs 2 7 7 7,wU W ⟨⟨125,89,125,96⟩,vD.p3,vD.p4,vD.p5,vD.p6,(em (dC (pW W))),vD.te2,(tJ aI),vD.i2,(bk (dC (pW W))),vD.bo2,(cJ (dC (pW W))),vD.e2,(bj (pW W) aF c1),vD.nA,vD.nB,vD.nC,vD.f1,vD.f2⟩ aF c1 d8 (kC B v) 11 9 10 7 3 7 7,g8 10 7 7,xQ W ⟨⟨126,67,126,71⟩,vD.p3,vD.p4,vD.p5,vD.p6,(em (dC (pW W))),vD.te2,(tJ aI),vD.i2,(bk (dC (pW W))),vD.bo2,(cJ (dC (pW W))),vD.e2,(bj (pW W) aF c1),vD.nA,vD.nB,vD.nC,vD.f1,vD.f2⟩ aF c1 (List.flatten (List.map (db d8) (kC B v))) 14 12 13 7 7,sE W ⟨⟨126,19,126,94⟩,vD.p3,vD.p4,vD.p5,vD.p6,(em (dC (pW W))),vD.te2,(tJ aI),vD.i2,(bk (dC (pW W))),vD.bo2,(cJ (dC (pW W))),vD.e2,(bj (pW W) aF c1),vD.nA,vD.nB,vD.nC,vD.f1,vD.f2⟩ (Kb B v) 0 1 13 7 7 t140 t147,xo W ⟨⟨127,82,127,89⟩,vD.p3,vD.p4,vD.p5,vD.p6,(em (dC (pW W))),vD.te2,(tJ aI),vD.i2,(bk (dC (pW W))),vD.bo2,(cJ (dC (pW W))),vD.e2,(bj (pW W) aF c1),vD.nA,vD.nB,vD.nC,vD.f1,vD.f2⟩ aF c1 (kC B v) 17 15 16 7 7 7,g8 16 7 7,yI 7 7] []) 325 (⟨fj (pW W) aF c1 aI,none,none,(xk vD),none⟩) (p0) (aQ (fj (pW W) aF c1 aI)) [] hs (cO E n tb gb) (sI [0,1,2,3,4,5,6,19] Z)) (fun E W Z hs=>ad (lE E) (A n) gb (sl hs 0 17) ((He aV k tb vs v tv)/\ad (lE E) (A n) gb (sl hs 17 0) ((av (Ol v tv tb) [] ww/\Yc)/\ad (lE E) (A n) gb (sl hs 19 10) ((He aV k tb vs v tv)/\ad (lE E) (A n) gb (sl hs 29 0) ((Rf (.builtin "int.__abs__" ⟨[.int (v) tv],[]⟩:Code))/\(Rf (ax ([])))/\Yc/\Yc/\∀(x0:cC) (n0 tb0 gb0:Nat),True->Yc/\ad (GP aF c1 aI aV aO n) (A n0) gb0 (sl hs 32 2) (True/\(Rf (⟨gK (pW W) aF c1,none,none,[(.forLoop (em (dC (pW W))) (Yp aI) (bk (dC (pW W))) (cJ (dC (pW W))) (bj (pW W) aF c1),⟨121,12,123,35⟩),(DO vD),(Bf vD),(Dq vD),(Y7,vD.p6)],none⟩:Ctx))/\(Rf (ax ([(A aF,jE (pW W) aV aO u1 u2 u3 u4 tB B (ki k tb) ([aa (pW W) iJ u5 (.ref (A (cT n))),aa (pW W) iX u6 (.int (Int.ofNat (v.natAbs)) x0.t)]++[aa (pW W) DC u7 vTx,aa (pW W) DW u8 vTo]) 8),(mS n 0)])))/\Yc/\Yc/\∀(x1:Ai) (n1 tb1 gb1:Nat),aZ x1.gs (kC B v)/\x1.gs.size<=900->Yc/\ad (GP aF c1 aI aV aO n) (A n1) gb1 (sl hs 35 3) ((av (.builtin "int.__mod__" ⟨[(ki k tb),(CJ tb1 2 2)],[]⟩) [] (Made.int (Yh d7))/\Yc)/\ad (GP aF c1 aI aV aO n) (A n1) gb1 (sl hs 39 12) ((aZ (x1.gs) (kC B v))/\(Rf (⟨ay (ao (fn (pW W)) (bj (pW W) aF c1) (bK n1 3) (dE n1) (bK n1 2)),none,none,[(.forLoop (em (dC (pW W))) (Yp aI) (bk (dC (pW W))) (cJ (dC (pW W))) (bj (pW W) aF c1),⟨125,89,125,96⟩),(DO vD),(Bf vD),(Dq vD),(Y7,vD.p6)],none⟩:Ctx))/\(Rf (ax ([(df n1 3,eI),(Ih n1 n 1),(df n 0,ab (x1.gs) x1.ep),(mS n1 2),(A c1,⟨Yu,none,.cell (some (.str ⟨⟨d9⟩⟩ (Y8 tb1 4))),⟨[]⟩⟩)])))/\Yc/\Yc/\∀(x2:qE) (n2 tb2 gb2:Nat),aX x2.ls (List.map (db d8) (kC B v))->Yc/\ad (G1 aF c1 aI aV aO n n1) (A n2) gb2 (sl hs 52 3) ((Pk tb1 n1 x2 5 2)/\(Rf (ax ([((Y2 n1 2),((OE x2):Obj))])))/\Yc/\Yc/\∀(x3:cC) (n3 tb3 gb3:Nat),True->Yc/\ad (G1 aF c1 aI aV aO n n1) (A n3) gb3 (sl hs 56 4) ((PC x2 x3)/\ad (G1 aF c1 aI aV aO n n1) (A n3) gb3 (sl hs 61 1) ((Array.toList (Str.cps (C7 x2))=(List.flatten (List.map (db d8) (kC B v))))/\(Rf (⟨ay (ao (ew (pW W)) (bj (pW W) aF c1) (bK n3 2) (cT n3) (dE n3)),none,none,[(.forLoop (em (dC (pW W))) (Yp aI) (bk (dC (pW W))) (cJ (dC (pW W))) (bj (pW W) aF c1),⟨126,67,126,71⟩),(DO vD),(Bf vD),(Dq vD),(Y7,vD.p6)],none⟩:Ctx))/\(Rf (ax ([(df n3 2,eI),(df n3 0,aK "str_iterator" [.str (C7 x2) x3.t,Ym]),(mS n3 1)])))/\Yc/\Yc/\∀(x4:Cl) (n4 tb4 gb4:Nat),aX x4.ls (bU (List.flatten (List.map (db d8) (kC B v))))->Yc/\ad (KJ aF c1 aI aV aO n n1 n3) (A n4) gb4 (sl hs 63 4) ((cQ (x4.ls) (Kb B v))/\(Rf (uh (dE n3) ⟨⟨126,19,126,94⟩,vD.p3,vD.p4,vD.p5,vD.p6,(em (dC (pW W))),vD.te2,(tJ aI),vD.i2,(bk (dC (pW W))),vD.bo2,(cJ (dC (pW W))),vD.e2,(bj (pW W) aF c1),vD.nA,vD.nB,vD.nC,vD.f1,vD.f2⟩:Ctx))/\(Rf (ax ([(140,bD t140),(147,bD t147),(df n3 1,ab (x4.ls) x4.ep)])))/\Yc/\Yc/\∀(x5:fB) (n5 tb5 gb5:Nat),True->Yc/\ad (KJ aF c1 aI aV aO n n1 n3) (A n5) gb5 (sl hs 68 8) ((aZ (x1.gs) (kC B v))/\(Rf (⟨ay (ao (fk (pW W)) (bj (pW W) aF c1) (bK n5 2) (cT n5) (dE n5)),none,none,[(.forLoop (em (dC (pW W))) (Yp aI) (bk (dC (pW W))) (cJ (dC (pW W))) (bj (pW W) aF c1),⟨127,82,127,89⟩),(DO vD),(Bf vD),(Dq vD),(Y7,vD.p6)],none⟩:Ctx))/\(Rf (ax ([(df n5 2,eI),(Ih n5 n 0),(df n 0,ab (x1.gs) x1.ep),(mS n5 1)])))/\Yc/\Yc/\∀(x6:vT) (n6 tb6 gb6:Nat),aX x6.ls (List.map dk (kC B v))->Yc/\ad (zC aF c1 aI aV aO n n1 n3 n5) (A n6) gb6 (sl hs 77 3) ((PM tb5 n5 x6)/\(Rf (ax ([((Y2 n5 1),(⟨.type "list",none,.seq (x6.ls) x6.ep,⟨[]⟩⟩:Obj))])))/\Yc/\Yc/\∀(x7:cC) (n7 tb7 gb7:Nat),True->Yc/\ad (zC aF c1 aI aV aO n n1 n3 n5) (A n7) gb7 (sl hs 80 0) ((av (JU x6 x7 n7) [((Y2 n7 0),(some ⟨(.type "slice"),none,(.fields ⟨[(.int (Int.ofNat 1) (TK tb7)),.none,.none]⟩),⟨[]⟩⟩))] (sZ (JU x6 x7 n7))/\Yc)/\ad (zC aF c1 aI aV aO n n1 n3 n5) (A n7) gb7 (sl hs 80 0) ((av (.builtin "str.__ne__" ⟨[(.str (qY B v) x5.t),(.str (Str.mk ({toList:=List.drop 1 (bN (Str.mk (Array.mk [])) x6.ls).cps.toList})) (Y8 tb7 1))],[]⟩) [] wu/\Yc)/\ad (zC aF c1 aI aV aO n n1 n3 n5) (A n7) gb7 (sl hs 83 9) ((Pa B v x5)/\ad (zC aF c1 aI aV aO n n1 n3 n5) (A n7) gb7 (sl hs 93 3) ((PF B v x5 tb7)/\(Rf (ax ([])))/\Yc/\Yc/\∀(x8:cC) (n8 tb8 gb8:Nat),True->Yc/\ad (GS aF c1 aI aV aO n n1 n3 n5 n7) (A n8) gb8 (sl hs 96 0) ((PG B v x8)/\ad (GS aF c1 aI aV aO n n1 n3 n5 n7) (A n8) gb8 (sl hs 98 1) (((Hg aO n8 0)/\(rE pts))/\ad (GS aF c1 aI aV aO n n1 n3 n5 n7) (A n8) gb8 (sl hs 100 1) (Z (.again (fj (pW W) aF c1 aI)) (Y2 n8 1) (Y8 tb8 3) true (ax ([(Pj x5),(O9 x5),((A aF),⟨DA,none,(.dict ⟨[⟨(PyData.keyHash (pW W) sC),(.str sC u1),(Yp aV)⟩,⟨(PyData.keyHash (pW W) qR),(.str qR u2),(cr B tB)⟩,⟨(PyData.keyHash (pW W) (Str.mk ⟨Yq⟩)),(.str F7 u3),(Yp aO)⟩,⟨(PyData.keyHash (pW W) (Str.mk ⟨my⟩)),(.str (Str.mk ⟨my⟩) u4),(ki k tb)⟩,⟨(PyData.keyHash (pW W) (Str.mk ⟨iJ⟩)),(.str (Str.mk ⟨iJ⟩) u5),(dY n 0)⟩,⟨(PyData.keyHash (pW W) (Str.mk ⟨iX⟩)),(.str (Str.mk ⟨iX⟩) u6),(.int Yx x1.tL)⟩,⟨(PyData.keyHash (pW W) (Str.mk ⟨DN⟩)),(.str (Str.mk ⟨DN⟩) u7),(.str (C7 x2) x3.t)⟩,⟨(PyData.keyHash (pW W) (Str.mk ⟨DS⟩)),(.str (Str.mk ⟨DS⟩) u8),(.str (qY B v) x5.t)⟩]⟩ 8),⟨[]⟩⟩),((A c1),⟨(.type "cell"),none,(.cell (some (.str (Str.mk ⟨d9⟩) (Y8 tb1 4)))),⟨[]⟩⟩),((A aI),⟨zy,none,(.fields ⟨[(.int (Int.ofNat k+Int.ofNat 1) 0),(.int (Int.ofNat (m.add 1)-1) 0),(.int (Int.ofNat 1) 0)]⟩),⟨[]⟩⟩),(rQ aV vs epV),(A aO,Obj.mapSeq (·.push (dY n8 0)) (ab pts epO)),(PJ n8 k tb B v tb8)])) ([])))))))))))))))))))))) (fun _=>O8) (by rcases hz with h|h<;>apply oa h<;>exact iY (by kernel_rfl)) rfl ⟨fun _=>bB,fun _=>au,fun _=>bB,fun _=>au,fun _=>jY,fun _=>bs,fun _=>au,fun _=>f8,fun _=>f8,fun _=>bx,trivial⟩ ⟨mG rfl,pM _ _ _ _ _ _ _ _ _ _ _ _ _ _ rfl hB (.inr ⟨_,_,_,_,rfl,rfl⟩) hL,pV _ _ _ _ _ _ rfl hD.lt hD.ne (Nat.le_trans hD.len (by decide)),fc rfl,qz _ _ _ _ _ rfl (tE (by rcases hz with h|h<;>apply oa h<;>first|exact .inl rfl|exact .inr rfl) hD.lt) (tZ hD (by rcases hz with h|h<;>apply oa h<;>first|exact .inl rfl|exact .inr rfl)) (xe hD),nc _ _ hD rfl htab,qi _ _ _ _ _ rfl hD.lt hD.ne (Nat.le_trans hD.len (by decide)),fc rfl,qC rfl,trivial⟩ rfl rfl (fun x hx=>nomatch hx) fun hs=>?_
 refine rI ⟨rfl,hfk,hvs⟩ ?_
 refine rI ⟨lw hv,rfl⟩ ?_
 refine rI ⟨rfl,hfk,hvs⟩ ?_
 refine ag ⟨rfl,rfl,rfl,rfl,fun x0 n0 tb0 gb0 hx0=>⟨rfl,?_⟩⟩ _
 refine ag ⟨trivial,rfl,rfl,rfl,rfl,fun x1 n1 tb1 gb1 hx1=>⟨rfl,?_⟩⟩ _
 refine rI ⟨ni hpar,rfl⟩ ?_
 refine ag ⟨hx1.1,rfl,rfl,rfl,rfl,fun x2 n2 tb2 gb2 hx2=>⟨rfl,?_⟩⟩ _
 refine ag ⟨⟨rfl,rfl,(wv hx2 hD (by rcases hz with h|h<;>apply oa h<;>first|exact .inl rfl|exact .inr rfl)).1⟩,rfl,rfl,rfl,fun x3 n3 tb3 gb3 hx3=>⟨rfl,?_⟩⟩ _
 refine rI ⟨rfl,(wv hx2 hD (by rcases hz with h|h<;>apply oa h<;>first|exact .inl rfl|exact .inr rfl)).2.1⟩ ?_
 refine ag ⟨(wv hx2 hD (by rcases hz with h|h<;>apply oa h<;>first|exact .inl rfl|exact .inr rfl)).2.2,rfl,rfl,rfl,rfl,fun x4 n4 tb4 gb4 hx4=>⟨rfl,?_⟩⟩ _
 refine ag ⟨DF hx4 hD (by rcases hz with h|h<;>apply oa h<;>first|exact .inl rfl|exact .inr rfl),rfl,rfl,rfl,rfl,fun x5 n5 tb5 gb5 hx5=>⟨rfl,?_⟩⟩ _
 refine ag ⟨hx1.1,rfl,rfl,rfl,rfl,fun x6 n6 tb6 gb6 hx6=>⟨rfl,?_⟩⟩ _
 refine ag ⟨⟨rfl,rfl,(pY hx6 hD).1⟩,rfl,rfl,rfl,fun x7 n7 tb7 gb7 hx7=>⟨rfl,?_⟩⟩ _
 refine rI ⟨mA (pY hx6 hD).2.1 (pY hx6 hD).2.2.1,rfl⟩ ?_
 refine rI ⟨pI (pY hx6 hD).2.2.2,rfl⟩ ?_
 refine rI ⟨rfl,ie hD⟩ ?_
 refine ag ⟨⟨rfl,ie hD⟩,rfl,rfl,rfl,fun x8 n8 tb8 gb8 hx8=>⟨rfl,?_⟩⟩ _
 refine rI ⟨rfl,sA hD⟩ ?_
 refine rI ⟨rfl,⟨rfl,rfl,rfl⟩,hsz⟩ ?_
 exact rF fun s' r _ h3 h4 h5 h6 h7=>kQ n tb s' x5.r1 x5.r2 _ _ _ _ _ _ _ _ _ _ _ (cT n8) _ _ _ hn ht (am rfl r) h4 (ai h3) h5 (h7 _ (mem_cons_self ..))
theorem Gc(W:WW)(p0:Pos)(vD:FD)(aF c1 aI aV aO B k m:Nat)(v:Int)(u1 u2 u3 u4 u5 u6 u7 u8 tB tv:Tok)(vPl vFi vLe vTx vTo:Value)(vc:Option Value)(t140 t147:List Value)(vs pts:Array Value)(epV epO:Nat)(s:Shared)(hfk:bO (Yh k))(hvs:(zD k vs).bind (fun j=>vs[j]?)=some (b8 v tv))(hv:(v !=0)=false)(E:WW->ae)(hE:E=fun W=>[(140,bD t140),(147,bD t147),(A aF,ah "frame" [aa (pW W) gF u1 (Yp aV),aa (pW W) eM u2 (cr B tB),aa (pW W) Yq u3 (Yp aO),aa (pW W) my u4 vPl,aa (pW W) iJ u5 vFi,aa (pW W) iX u6 vLe,aa (pW W) DC u7 vTx,aa (pW W) DW u8 vTo] 8),(i7 c1 vc),(qQ aI k m),(Yk aV vs epV),(Yk aO pts epO)])(hP:az (pW W) (E W) s){Q:Prop}(kQ:∀(n tb:Nat) (s':Shared) (y4 yp:Tok),Hn s n->Ht s tb->br (Yt W) (⟨fj (pW W) aF c1 aI,none,none,(xk vD),none⟩) p0 s s'->az (pW W) ([(140,bD t140),(147,bD t147),(A aF,ah "frame" [aa (pW W) gF u1 (Yp aV),aa (pW W) eM u2 (cr B tB),aa (pW W) Yq u3 (Yp aO),aa (pW W) my y4 (cr k yp),aa (pW W) iJ u5 vFi,aa (pW W) iX u6 vLe,aa (pW W) DC u7 vTx,aa (pW W) DW u8 vTo] 8),(i7 c1 vc),(A aI,aK "range_iterator" [rB k,.int (Int.ofNat (Nat.succ m)-1) 0,jx]),(Yk aV vs epV),(Yk aO pts epO)]) s'->af (E W) s s'->Q):Q:=by
 obtain⟨n,tb,gb,hn,ht,hg⟩:=hP.nt
 refine bT hE hP hn ht hg (fun E W Z hs=>cm (ei (Vw W) 7 [(co 5 (b8 v tv)),mx] [] [] []) 81 (⟨fj (pW W) aF c1 aI,none,none,(xk vD),none⟩) (p0) (aQ (fj (pW W) aF c1 aI)) [] hs (cO E n tb gb) (kZ [0,1,2,3,4,5,6] Z)) (fun E W Z hs=>ad (lE E) (A n) gb (sl hs 0 17) ((He aV k tb vs v tv)/\ad (lE E) (A n) gb (sl hs 17 0) ((av (Ol v tv tb) [] wu/\Yc)/\ad (lE E) (A n) gb (sl hs 17 0) (Z (.again (fj (pW W) aF c1 aI)) (Y2 n 0) (Y8 tb 3) true (ax ([(140,⟨.none,none,(.fields ({toList:=t140})),⟨[]⟩⟩),(147,⟨.none,none,(.fields ({toList:=t147})),⟨[]⟩⟩),((A aF),⟨DA,none,(.dict ⟨[⟨(PyData.keyHash (pW W) sC),(.str sC u1),(Yp aV)⟩,⟨(PyData.keyHash (pW W) qR),(.str qR u2),(cr B tB)⟩,⟨(PyData.keyHash (pW W) (Str.mk ⟨Yq⟩)),(.str F7 u3),(Yp aO)⟩,⟨(PyData.keyHash (pW W) (Str.mk ⟨my⟩)),(.str (Str.mk ⟨my⟩) u4),(ki k tb)⟩,⟨(PyData.keyHash (pW W) (Str.mk ⟨iJ⟩)),(.str (Str.mk ⟨iJ⟩) u5),(vFi)⟩,⟨(PyData.keyHash (pW W) (Str.mk ⟨iX⟩)),(.str (Str.mk ⟨iX⟩) u6),(vLe)⟩,⟨(PyData.keyHash (pW W) (Str.mk ⟨DN⟩)),(.str (Str.mk ⟨DN⟩) u7),(vTx)⟩,⟨(PyData.keyHash (pW W) (Str.mk ⟨DS⟩)),(.str (Str.mk ⟨DS⟩) u8),(vTo)⟩]⟩ 8),⟨[]⟩⟩),((A c1),⟨(.type "cell"),none,(.cell (vc)),⟨[]⟩⟩),((A aI),⟨zy,none,(.fields ⟨[(.int (Int.ofNat k+Int.ofNat 1) 0),(.int (Int.ofNat (m.add 1)-1) 0),(.int (Int.ofNat 1) 0)]⟩),⟨[]⟩⟩),(rQ aV vs epV),(rQ aO pts epO)])))))) (fun _=>(gE [90005,40003,40006,4000,4001,3000])) (iY (by kernel_rfl)) rfl ⟨fun _=>bB,fun _=>au,trivial⟩ trivial rfl fun hs=>?_
 refine rI ⟨rfl,hfk,hvs⟩ ?_
 refine rI ⟨lw hv,rfl⟩ ?_
 exact rF fun s' r _ h3 h4 h5=>kQ n tb s' _ _ hn ht (am rfl r) ⟨h4,ai h3,(nx hE hP).nd,(nx hE hP).lo⟩ h5
theorem az.addL{P:Params}{E T:ae}{s:Shared}{fz:List dh}(hP:az P E s)(hf:cH fz E s)(hT:∀x∈T,x∈fz)(ha:∀x∈T,245<=x.1)(nd:(T.map (·.1)).Nodup):az P (E++T) s:=by
 refine⟨hP.rdy,cj.mpr ⟨hP.has,?_⟩,?_,?_⟩
 ·have:∀(T':ae),(∀x∈T',x∈T)->cI T' s.heap:=by
   intro T'
   induction T' with
   |nil=>intro _;trivial
   |cons y T' ih=>intro hs;exact⟨(hf y (hT y (hs y (mem_cons_self ..)))).1,ih fun x hx=>hs x (mem_cons_of_mem _ hx)⟩
  exact this T fun _ h=>h
 ·rw [map_append]
  refine List.nodup_append.mpr ⟨hP.nd,nd,fun a h1 b h2 e=>?_⟩
  obtain⟨x,hx,rfl⟩:=List.mem_map.mp h2
  subst e
  exact(hf x (hT x hx)).2 h1
 ·intro a h
  rw [map_append] at h
  rcases List.mem_append.mp h with h|h
  ·exact hP.lo a h
  ·obtain⟨x,hx,rfl⟩:=List.mem_map.mp h
   exact jg (.inl (by have:=ha x hx;lia))
theorem af.cutL{E T:ae}{s s':Shared}(h:af (E++T) s s')(h1:cI T s.heap)(h2:cI T s'.heap):af E s s':=by
 refine⟨fun b o e hb=>?_,h.drawn,h.os,h.size⟩
 by_cases q:b∈T.map (·.1)
 ·obtain⟨x,hx,rfl⟩:=List.mem_map.mp q
  obtain⟨i,hi⟩:=List.mem_iff_getElem?.mp hx
  rw [h1.get hi] at e;cases e
  exact h2.get hi
 ·refine h.keep b o e fun hm=>?_
  rw [map_append] at hm
  rcases List.mem_append.mp hm with hm|hm
  ·exact hb hm
  ·exact q hm
def bS:List (Int×Int)->List Value->ae->Prop
 |[],vs,T=>vs=[]/\T=[]
 |p::l,vs,T=>∃a tx ty et vs' T',vs=.ref (A a)::vs'/\T=(A a,a9 [.int p.1 tx,.int p.2 ty] et)::T'/\bS l vs' T'
theorem aw.size{items:Array Value}{fz}{ps:List (Int×Int)}(h:aw items fz ps):items.size=ps.length:=by
 have h1:items[ps.length]? =Option.none:=by
  have:=h ps.length
  rw [List.getElem?_eq_none (Nat.le_refl _)] at this;exact this
 have h2:items.size<=ps.length:=by
  rcases lt_or_ge ps.length items.size with q|q
  ·rw [Array.getElem?_eq_getElem q] at h1;cases h1
  ·exact q
 rcases lt_or_ge items.size ps.length with q|q
 ·have z:=h items.size
  rw [List.getElem?_eq_getElem q] at z
  obtain⟨a,tx,ty,et,e,_⟩:=z
  rw [Array.getElem?_eq_none (Nat.le_refl _)] at e;cases e
 ·lia
theorem aw.tups{fz:List dh}:∀{ps:List cA} {items:List Value},aw ⟨items⟩ fz ps->∃T,bS ps items T/\∀x∈T,x∈fz
 |[],items,h=>by
  have:=h.size
  exact⟨[],⟨eq_nil_of_length_eq_zero this,rfl⟩,fun x hx=>nomatch hx⟩
 |p::l,items,h=>by
  have hs:=h.size
  cases items with
  |nil=>simp at hs
  |cons v vs=>
   obtain⟨a,tx,ty,et,e,hm⟩:=h 0
   have e:Option.some v=Option.some (Value.ref (A a)):=by simpa using e
   cases e
   obtain⟨T,h1,h2⟩:=aw.tups (ps:=l) (items:=vs) (fz:=fz) (fun i=>by
    have z:=h (i+1)
    have q:(⟨Value.ref (A a)::vs⟩:Array Value)[i+1]? =(⟨vs⟩:Array Value)[i]?:=by simp
    rw [List.getElem?_cons_succ] at z
    revert z
    cases l[i]? with
    |none=>intro z;rw [q] at z;exact z
    |some p=>intro z;obtain⟨a,tx,ty,et,e,hm⟩:=z;rw [q] at e;exact⟨a,tx,ty,et,e,hm⟩)
   exact⟨(A a,a9 [.int p.1 tx,.int p.2 ty] et)::T,⟨a,tx,ty,et,vs,T,rfl,rfl,h1⟩,fun x hx=>by
    rcases List.mem_cons.mp hx with rfl|hx
    ·exact hm
    ·exact h2 x hx⟩
theorem bS.drop:∀{k:Nat} {ps:List (Int×Int)} {vs:List Value} {T:ae},bS ps vs T->bS (ps.drop k) (vs.drop k) (T.drop k)
 |0,_,_,_,h=>h
 |k+1,[],vs,T,h=>by obtain⟨rfl,rfl⟩:=h;exact⟨rfl,rfl⟩
 |k+1,p::l,vs,T,h=>by
  obtain⟨a,tx,ty,et,vs',T',rfl,rfl,h⟩:=h
  exact bS.drop (k:=k) h
theorem bS.refs:∀{ps:List (Int×Int)} {vs:List Value} {T:ae},bS ps vs T->vs=T.map (fun x=>.ref x.1)
 |[],_,_,h=>by obtain⟨rfl,rfl⟩:=h;rfl
 |p::l,_,_,h=>by
  obtain⟨a,tx,ty,et,vs',T',rfl,rfl,h⟩:=h
  rw [map_cons,<-h.refs]
theorem bS.pts:∀{ps:List (Int×Int)} {vs:List Value} {T:ae},bS ps vs T->aw ⟨vs⟩ T ps
 |[],_,_,h=>by obtain⟨rfl,rfl⟩:=h;intro i;simp
 |p::l,_,_,h=>by
  obtain⟨a,tx,ty,et,vs',T',rfl,rfl,h⟩:=h
  intro i
  cases i with
  |zero=>exact⟨a,tx,ty,et,rfl,mem_cons_self ..⟩
  |succ i=>
   have z:=h.pts i
   have q:(⟨Value.ref (A a)::vs'⟩:Array Value)[i+1]? =(⟨vs'⟩:Array Value)[i]?:=by simp
   rw [List.getElem?_cons_succ]
   revert z
   cases l[i]? with
   |none=>intro z;show _=_;rw [q];exact z
   |some p=>intro z;obtain⟨a,tx,ty,et,e,hm⟩:=z;exact⟨a,tx,ty,et,by rw [q];exact e,mem_cons_of_mem _ hm⟩
theorem bS.ge:∀{ps:List (Int×Int)} {vs:List Value} {T:ae},bS ps vs T->∀x∈T,245<=x.1
 |[],_,_,h=>by obtain⟨rfl,rfl⟩:=h;intro x hx;cases hx
 |p::l,_,_,h=>by
  obtain⟨a,tx,ty,et,vs',T',rfl,rfl,h⟩:=h
  intro x hx
  rcases List.mem_cons.mp hx with rfl|hx
  ·show 245<=a+245;lia
  ·exact h.ge x hx
theorem bS.nodup{ps:List (Int×Int)}{vs:List Value}{T:ae}(h:bS ps vs T)(nd:vs.Nodup):(T.map (·.1)).Nodup:=by
 rw [h.refs] at nd
 have:T.map (fun x=>Value.ref x.1)=(T.map (·.1)).map Value.ref:=by rw [map_map];rfl
 rw [this] at nd
 exact List.Pairwise.of_map Value.ref (fun a b h e=>h (by rw [e])) nd
def lC(ds:List cA)(j:Nat)(e:Int×Int):Prop:=ds[j]? =some e/\∀i f,ds[i]? =some f->aY e f/\(aY f e->i<=j)
theorem B9{ds:List cA}{j:Nat}(h10:cb ds)(h:∃d,cL ds d/\(ff ds (bf d.1 d.2) (List.length ds)).getLast? =some j):∃e,lC ds j e:=by
 obtain⟨d,⟨hd,hl⟩,hj⟩:=h
 have hmem:=List.mem_of_getLast? hj
 have hlast:∀i∈ff ds (bf d.1 d.2) ds.length,i<=j:=by
  intro i hi
  obtain⟨l',hl'⟩:=List.getLast?_eq_some_iff.mp hj
  have hp:=iu ds (bf d.1 d.2) ds.length
  rw [hl'] at hp hi
  rcases List.mem_append.mp hi with hi|hi
  ·exact Nat.le_of_lt ((List.pairwise_append.mp hp).2.2 i hi j (List.mem_singleton.mpr rfl))
  ·rw [List.mem_singleton.mp hi];exact Nat.le_refl _
 have hm:=(List.mem_filter.mp hmem)
 have hjl:=List.mem_range.mp hm.1
 have he:ds[j]? =some ds[j]:=List.getElem?_eq_getElem hjl
 have key:∀(i:Nat) (f:Int×Int),ds[i]? =some f->(gP ds (bf d.1 d.2) i=true↔f.2*d.1=d.2*f.1):=by
  intro i f hf
  unfold gP
  rw [hf]
  show(Float64.cmp (bf f.1 f.2) (bf d.1 d.2)==some .eq)=true↔_
  rw [iQ (h10 f (mem_of_getElem? hf)) (h10 d hd)]
  exact decide_eq_true_iff
 have hej:=(key j _ he).mp hm.2
 have pos:∀f∈ds,0<f.1:=fun f hf=>by have:=(h10 f hf).1;lia
 have hde:aY ds[j] d:=by unfold aY;rw [hej];exact Int.le_refl _
 refine⟨ds[j],he,fun i f hf=>⟨?_,fun hle=>?_⟩⟩
 ·exact ct (pos d hd) (pos _ (getElem_mem hjl)) (pos f (mem_of_getElem? hf)) hde (hl f (mem_of_getElem? hf))
 ·refine hlast i (List.mem_filter.mpr ⟨List.mem_range.mpr (List.getElem?_eq_some_iff.mp hf).1,(key i f hf).mpr ?_⟩)
  have h1:=hl f (mem_of_getElem? hf)
  have h2:=ct (pos _ (getElem_mem hjl)) (pos f (mem_of_getElem? hf)) (pos d hd) hle hde
  exact Int.le_antisymm h2 h1
noncomputable def difs(p:Int×Int)(l:List cA):List cA:=l.map fun q=>(q.1-p.1,q.2-p.2)
def fa(ps:List cA):Prop:=ps.Pairwise fun p q=>cW (q.1-p.1,q.2-p.2)
theorem fa.difs{ps:List (Int×Int)}{k:Nat}{p:Int×Int}{l:List (Int×Int)}(h:fa ps)(e:ps.drop k=p::l):cb (Mine.difs p l):=by
 have h1:fa (ps.drop k):=List.Pairwise.drop (i:=k) h
 rw [e] at h1
 intro d hd
 obtain⟨q,hq,rfl⟩:=List.mem_map.mp hd
 exact(List.pairwise_cons.mp h1).1 q hq
theorem cb.ranged{ds:List (Int×Int)}(h:cb ds):ranged ds:=fun d hd=>(h d hd).range
theorem rf{items:Array Value}{k:Nat}{l:List Value}(h:items.toList.drop (k+1)=l):slicePick items (some (Int.ofNat k+1)) none none=⟨l⟩:=by
 have:=slicePick_from' items (k+1)
 rw [h] at this
 exact this
theorem Gl{items:Array Value}{k:Nat}{v:Value}{l:List Value}(h:items.toList.drop k=v::l):(seqIndex? (Int.ofNat k) items.size).bind (fun j=>items[j]?)=some v:=by
 have hx:=(bw h).1
 have hlt:=(List.getElem?_eq_some_iff.mp hx).1
 rw [fW (n:=items.size) (by simpa using hlt)]
 show items[k]? =some v
 rw [<-hx];simp
abbrev jz a b c:=((A a,⟨Yu,none,.cell (some (.int (Yh b) c)),⟨[]⟩⟩):Nat×Obj)
noncomputable def eS(P:Params)(aF c1 c2 c3 c4 aP aE:Nat)(uE:Tok)(fr:List DictEntry)(bR k:Nat)(tk:Tok)(w3 w4:Option Value)(pts:Array Value)(epP:Nat)(eds:Array Value)(epE:Nat):ae:=
 [(A aF,ah "frame" (aa P [101,100,103,101] uE (Yp aE)::fr) bR),(Y6 c1 aP),(jz c2 k tk),(i7 c3 w3),(i7 c4 w4),(Yk aP pts epP),(Yk aE eds epE)]
def kA(P:Params)(fr:List DictEntry)(bR:Nat)(w3 w4:Option Value):Prop:=∃uW vW uB vB v3 v4,fr=[aa P [119,97,121,115] uW vW,aa P [98,101,115,116] uB vB]/\bR=3/\w3=some v3/\w4=some v4
def Iq(P:Params)(fr:List DictEntry)(bR:Nat)(w3 w4:Option Value):Prop:=(fr=[]/\bR=1/\w3=none/\w4=none)\/kA P fr bR w3 w4
def Gb(W:WW)(p0 p4:Pos)(vC:FC)(aF c1 c2 c3 c4 aP aE:Nat)(uE:Tok)(pts:Array Value)(epP:Nat)(fr:List DictEntry)(bR k:Nat)(tk:Tok)(w3 w4:Option Value)(eds:Array Value)(epE:Nat)(s:Shared)(q0:Int×Int)(l:List cA):Prop:=
 ∃s' fr' cnt' w3' w4' tk' epE' j e a tx ty et,br (Yt W) ⟨fi (pW W) (bh (ak (pW W)) (A aF) 231 [A c1,A c2,A c3,A c4]),none,none,[(gL (ak (pW W)) (A aF) 231 [A c1,A c2,A c3,A c4],p4),(.forLoop vC.te vC.i1 vC.bo1 vC.e1 vC.n3,vC.p7),(.func vC.f2 vC.n4,vC.p5),(Y7,vC.p6)],none⟩ p0 s s'/\kA (pW W) fr' cnt' w3' w4'/\az (pW W) (eS (pW W) aF c1 c2 c3 c4 aP aE uE fr' cnt' (k+(j+1)) tk' w3' w4' pts epP (eds.push (Yp a)) epE') s'/\af (eS (pW W) aF c1 c2 c3 c4 aP aE uE fr bR k tk w3 w4 pts epP eds epE) s s'/\lC (difs q0 l) j e/\s'.heap.get? (A a)=some (a9 [.int e.1 tx,.int e.2 ty] et)/\s.heap.objs.size<=A a
theorem vb(W:WW)(p0 p4:Pos)(vC:FC)(aF c1 c2 c3 c4:Nat)(aP aE:Nat)(tq:Tok)(w3 w4:Option Value)(k mm:Nat)(pts eds:Array Value)(epP epE bR:Nat)(frl:List DictEntry)(s:Shared)(hsz:pts.size=Nat.add mm 1)(hmm:Nat.blt (Nat.succ mm) 1000=true)(hlt:decide (Int.ofNat k<Int.ofNat mm.succ-1)=false)(E:WW->ae)(hE:E=fun W=>[(wG aF frl bR),(Y6 c1 aP),(jz c2 k tq),(i7 c3 w3),(i7 c4 w4),(Yk aP pts epP),(Yk aE eds epE)])(hP:az (pW W) (E W) s){Q:Prop}(kQ:∀(n tb:Nat) (s':Shared),Hn s n->Ht s tb->Runs (Yt W) (⟨fi (pW W) (bh (ak (pW W)) (A aF) 231 [A c1,A c2,A c3,A c4]),none,none,[(gL (ak (pW W)) (A aF) 231 [A c1,A c2,A c3,A c4],p4),(.forLoop vC.te vC.i1 vC.bo1 vC.e1 vC.n3,vC.p7),(.func vC.f2 vC.n4,vC.p5),(Y7,vC.p6)],none⟩) p0 ((Yt W).den (fi (pW W) (bh (ak (pW W)) (A aF) 231 (iq c1 c2 c3 c4)))) [] s fu s'->cN (pW W) s'->cI ([(wG aF frl bR),(Y6 c1 aP),(jz c2 k tq),(i7 c3 w3),(i7 c4 w4),(Yk aP pts epP),(Yk aE eds epE)]) s'.heap->af (E W) s s'->Q):Q:=by
 obtain⟨n,tb,gb,hn,ht,hg⟩:=hP.nt
 refine bT hE hP hn ht hg (fun E W Z hs=>cm (ei (Vw W) 7 [(gT 5 mm),mx] [] [] []) 66 (⟨fi (pW W) (bh (ak (pW W)) (A aF) 231 [A c1,A c2,A c3,A c4]),none,none,[(gL (ak (pW W)) (A aF) 231 [A c1,A c2,A c3,A c4],p4),(.forLoop vC.te vC.i1 vC.bo1 vC.e1 vC.n3,vC.p7),(.func vC.f2 vC.n4,vC.p5),(Y7,vC.p6)],none⟩) (p0) (aQ (fi (pW W) (bh (ak (pW W)) (A aF) 231 (iq c1 c2 c3 c4)))) [] hs (cO E n tb gb) (kZ [0,1,2,3,4,5,6] Z)) (fun E W Z hs=>ad (lE E) (A n) gb (sl hs 0 4) (((Rf (.builtin "len" ⟨[(Yp aP)],[]⟩:Code))/\(Hd/\((((pts.size):(Nat))=(dE mm))/\(((mm.succ.blt 1000):(Bool))=(true)))))/\ad (lE E) (A n) gb [] ((av (.builtin "int.__lt__" ⟨[(cr k tq),(.int (Int.ofNat mm.succ-1) (Y8 tb 3))],[]⟩) [] wu/\Yc)/\ad (lE E) (A n) gb [] (Z oY (Y2 n 0) (Y8 tb 4) true (ax ([(wG aF frl bR),(Y6 c1 aP),(jz c2 k tq),(i7 c3 w3),(i7 c4 w4),(Yk aP pts epP),(Yk aE eds epE)])))))) (fun W=>[3,0,0,2,4000,3001,4001]) (pD (by kernel_rfl)) rfl ⟨fun _=>gY,fun _=>au,trivial⟩ trivial rfl fun hs=>?_
 refine rI ⟨rfl,rfl,hsz,hmm⟩ ?_
 refine rI ⟨gM hlt,rfl⟩ ?_
 exact rF fun s' r _ h3 h4 h5=>kQ n tb s' hn ht (by rw [bI];exact r) h4 (ai h3) h5
section
abbrev PT:=Nat×cA×Tok×Tok×Nat
noncomputable def yD(p:PT):Nat×Obj:=(A p.1,a9 [.int p.2.1.1 p.2.2.1,.int p.2.1.2 p.2.2.2.1] p.2.2.2.2)
noncomputable def zo(p:PT):Value:=.ref (A p.1)
noncomputable def Mz(p:PT):Int×Int:=p.2.1
noncomputable def di(o:PT)(ps:List PT):List cA:=ps.map fun p=>(p.2.1.1-o.2.1.1,p.2.1.2-o.2.1.2)
noncomputable def Ce(tb:Nat)(o p:PT)(i:Nat):Obj:=a9 [.int (p.2.1.1-o.2.1.1) (Nat.add (TK tb) (9+6*i)),.int (p.2.1.2-o.2.1.2) (Nat.add (TK tb) (11+6*i))] 0
noncomputable def rt(n tb:Nat)(o:PT):List PT->Nat->ae
 |[],_=>[]
 |p::l,i=>(A (Nat.add n (8+4*i)),Ce tb o p i)::rt n tb o l (i+1)
noncomputable def Ed(n tb:Nat)(o:PT):List PT->Nat->ae
 |[],_=>[]
 |p::l,i=>(Nat.add (A n) (8+4*i),Ce tb o p i)::Ed n tb o l (i+1)
noncomputable def zs(n:Nat):List PT->Nat->List Value
 |[],_=>[]
 |_::l,i=>.ref (A (Nat.add n (8+4*i)))::zs n l (i+1)
noncomputable def im(n:Nat):List PT->Nat->List Value
 |[],_=>[]
 |_::l,i=>.ref (Nat.add (A n) (8+4*i))::im n l (i+1)
noncomputable def rp(x k:Nat):List Nat:=List.replicate k x
noncomputable def HK(M i:Nat):List Nat:=
 rp (9+i) 4++rp (M+6+4*i) 5++[9+i]++rp (M+6+4*i) 6++[9+i]++rp (M+6+4*i) 6++[9+i]++rp (M+6+4*i) 2++[M+8+4*i]++rp (M+5) 5++[2,3,6,6,6,6,4003+2*i]++rp 8 5++[M+5,2,3,6,6,6,6,4004+2*i]++rp 8 5++rp (M+4) 4++rp (M+3) 4++[M+2]++rp (M+3) 2
noncomputable def Dx(M:Nat):Nat->Nat->List Nat
 |0,_=>[]
 |1,i=>HK M i
 |m+2,i=>HK M i++[M+3]++Dx M (m+1) (i+1)
noncomputable def BK(b2:Bool)(m:Nat):List Nat:=
 [3,0,0,2,4000,3001,4001,2,3,6,6,6,6,4002]++rp (m+10) 3++rp (m+11) 5++cond b2 [] (rp (m+11) 4)++[m+10]++rp (m+11) 3++Dx (m+8) m 0++
 [15+5*m,1,1]++rp (m+13) 6++[1]++rp (m+12) 3++[16+5*m,1000]++rp (18+5*m) 3++[4,4,0,0,4,7001,5,5,0,0,0,0,0,0,1]++rp (m+12) 3++rp (19+5*m) 10++[20+5*m,1002]++rp (22+5*m) 3++
 [7003,1,1,1,7,7,7,7,1,1]++rp (m+12) 4++[4003+2*m,7,4004+2*m,7,3,1,3,3,3000]
noncomputable def Nm(M:Nat):Nat->Nat->List Nat
 |0,_=>[]
 |m+1,i=>(M+8+4*i)::Nm M m (i+1)
noncomputable def np(m:Nat):List Nat:=List.range (8+m)++Nm (8+m) m 0
noncomputable def kF(o:PT)(ps:List PT)(mm:Nat):List bF:=
 [gT 5 mm,f7 [] (.val (.bool true)),gI 5 (8+ps.length) ⟨ps.map zo⟩]++(List.replicate (2*ps.length) (co 5 (zo o))++[jr (11+ps.length),cf 6])
section
variable(W:WW)(p4 p5 p6 p7:Pos)(te:Expr)(i1:Value)(bo1 e1:List Stmt)(n3 n4:Env)(f2:List Stmt)(aF c1 c2 c3 c4:Nat)
noncomputable abbrev Fd:Env:=bh (ak (pW W)) (A aF) 231 (iq c1 c2 c3 c4)
noncomputable abbrev rP:Stmt:=fE (be (ak (pW W))) 2
noncomputable abbrev wK(a:Nat)(b:List PT)(c:Nat):=Nat.add a (c+4*b.length)
abbrev O7 a b:=[(A (wK a b 9),eI),(A (wK a b 7),aK "list_iterator" [.ref (qS a 3),Ym]),(df a 3,ab ⟨zs a b 0⟩ b.length),(A (wK a b 8),iz)]
abbrev jQ a b c d e f:=Fd a b c d e f
abbrev Oe a b c d e f:=(.whileLoop (lF (rP a)) (bk (rP a)) (kY (rP a)) (jQ a b c d e f):Code)
noncomputable def nZ(n tb:Nat)(o:PT)(ps:List PT):List bM:=
 [km (Vw W) (⟨ay (dl (pW W) (jQ W aF c1 c2 c3 c4) (A (wK n ps 9)) (A (wK n ps 7)) (A (wK n ps 8))),none,none,(Oe W aF c1 c2 c3 c4,⟨138,41,138,45⟩)::(.func (be (ak (pW W))) (jQ W aF c1 c2 c3 c4),p4)::[(.forLoop te i1 bo1 e1 n3,p7),(.func f2 n4,p5),(Y7,p6)],none⟩)
  ((O7 n ps)++rt n tb o ps 0)
  ([17+5*ps.length,15+5*ps.length,11+ps.length,16+5*ps.length]++Nm (8+ps.length) ps.length 0) (8+ps.length) (8+ps.length)
  (fun x:xG=>((nU W ⟨default,⟨138,41,138,45⟩,p4,p5,p6,p7,(lF (rP W)),(bk (rP W)),(kY (rP W)),(jQ W aF c1 c2 c3 c4),(be (ak (pW W))),(jQ W aF c1 c2 c3 c4),te,i1,bo1,e1,n3,n4,f2⟩ aF c1 c2 c3 c4 (wK n ps 9) (wK n ps 7) (bK n 3) (wK n ps 8) ⟨zs n ps 0⟩ ps.length (rt n tb o ps 0) (di o ps) x).1,
   (nU W ⟨default,⟨138,41,138,45⟩,p4,p5,p6,p7,(lF (rP W)),(bk (rP W)),(kY (rP W)),(jQ W aF c1 c2 c3 c4),(be (ak (pW W))),(jQ W aF c1 c2 c3 c4),te,i1,bo1,e1,n3,n4,f2⟩ aF c1 c2 c3 c4 (wK n ps 9) (wK n ps 7) (bK n 3) (wK n ps 8) ⟨zs n ps 0⟩ ps.length (rt n tb o ps 0) (di o ps) x).2.1++List.map (fun y=>y.2) (rt n tb o ps 0),[])) (fun x=>bC x.hs (di o ps)),
  rk (di o ps) (16+5*ps.length) (8+ps.length) (8+ps.length),
  yj W ⟨default,⟨140,31,140,47⟩,p4,p5,p6,p7,(lF (rP W)),(bk (rP W)),(kY (rP W)),(jQ W aF c1 c2 c3 c4),(be (ak (pW W))),(jQ W aF c1 c2 c3 c4),te,i1,bo1,e1,n3,n4,f2⟩ aF c1 c2 c3 c4 (di o ps) (21+5*ps.length) (19+5*ps.length) (20+5*ps.length) 3 4 (16+5*ps.length) (8+ps.length) (8+ps.length),
  rD (di o ps) (20+5*ps.length) (8+ps.length) (8+ps.length)]
noncomputable abbrev jl(f:Bool)(uW uB:Tok)(vW vB:Value):List DictEntry:=cond f [] [aa (pW W) [119,97,121,115] uW vW,aa (pW W) [98,101,115,116] uB vB]
def Fb(L:List Nat)(n gb:Nat)(hs:List Nat)(bb:Bool)(C:Prop):Nat->Nat->Prop->Prop
 |0,_,R=>R
 |1,i,R=>C/\ad L n gb (sl hs (cond bb (65+69*i) (69+69*i)) 12) (C/\ad L n gb (sl hs (cond bb (78+69*i) (82+69*i)) 30) R)
 |m+2,i,R=>C/\ad L n gb (sl hs (cond bb (65+69*i) (69+69*i)) 12) (C/\ad L n gb (sl hs (cond bb (78+69*i) (82+69*i)) 55) (Fb L n gb hs bb C (m+1) (i+1) R))
theorem lr{L:List Nat}{n gb:Nat}{hs:List Nat}{bb:Bool}{C:Prop}(hC:C):∀(m i:Nat) {R:Prop},R->Fb L n gb hs bb C m i R
 |0,_,_,h=>h
 |1,_,_,h=>⟨hC,ag ⟨hC,ag h _⟩ _⟩
 |m+2,i,_,h=>⟨hC,ag ⟨hC,ag (lr hC (m+1) (i+1) h) _⟩ _⟩
noncomputable def lA(E:ae)(n k:Nat):List Nat:=lE E++(List.range k).map (Nat.add (A n))
abbrev tt:Prop:=(true:Bool)=true
noncomputable abbrev Hz(n n1 m:Nat)(ds:List cA)(x0:xG)(x1:kK):ae:=[(df n1 3,eI),(df n1 1,aK "range_iterator" [Ym,.int (Int.ofNat (List.length ds)) 0,jx]),(mS n1 2),(A c3,⟨Yu,none,.cell (some (.ref (A (Nat.add n (8+4*m))))),⟨[]⟩⟩),(A c4,⟨Yu,none,.cell (some (.float (bf x1.d.fst x1.d.snd) x1.t)),⟨[]⟩⟩),(A (Nat.add n (8+4*m)),ab (x0.hs) x0.eph)]
noncomputable abbrev M7(n m:Nat):Ctx:=⟨ay (dl (pW W) (jQ W aF c1 c2 c3 c4) (A (Nat.add n (9+4*m))) (A (Nat.add n (7+4*m))) (A (Nat.add n (8+4*m)))),none,none,(Oe W aF c1 c2 c3 c4,⟨138,41,138,45⟩)::(.func (be (ak (pW W))) (jQ W aF c1 c2 c3 c4),p4)::[(.forLoop te i1 bo1 e1 n3,p7),(.func f2 n4,p5),(Y7,p6)],none⟩
noncomputable abbrev K9(n1:Nat):Ctx:=⟨ay (eK (pW W) (jQ W aF c1 c2 c3 c4) (qS n1 3) (A (dE n1)) (qS n1 2)),none,none,(Oe W aF c1 c2 c3 c4,⟨140,31,140,47⟩)::(.func (be (ak (pW W))) (jQ W aF c1 c2 c3 c4),p4)::[(.forLoop te i1 bo1 e1 n3,p7),(.func f2 n4,p5),(Y7,p6)],none⟩
noncomputable abbrev zc:Ctx:=⟨fi (pW W) (jQ W aF c1 c2 c3 c4),none,none,[(gL (ak (pW W)) (A aF) 231 (iq c1 c2 c3 c4),p4),(.forLoop te i1 bo1 e1 n3,p7),(.func f2 n4,p5),(Y7,p6)],none⟩
noncomputable abbrev Oi(n tb:Nat)(o:PT)(ps:List PT):ae:=(O7 n ps)++rt n tb o ps 0
noncomputable abbrev pm(f:Bool)(aP aE:Nat)(uE uW uB:Tok)(k:Nat)(pts eds:Array Value)(epP epE:Nat)(n tb tb3:Nat)(x1:kK)(x3:jf)(o:PT)(ps:List PT):ae:=
 [(A aF,ah "frame" [aa (pW W) [101,100,103,101] uE (Yp aE),aa (pW W) [119,97,121,115] (cond f (Nat.add (TK tb) (6+6*ps.length)) uW) (dY n 3),aa (pW W) [98,101,115,116] (cond f (TK tb3) uB) (.int (Int.ofNat x3.j) x3.t)] 3),(Y6 c1 aP),(A c2,⟨Yu,none,.cell (some (.int (Int.ofNat k+(Int.ofNat x3.j+1)) (Y8 tb3 3))),⟨[]⟩⟩),(A c3,⟨Yu,none,.cell (some (.ref (Nat.add (A n) (8+4*ps.length)))),⟨[]⟩⟩),(A c4,⟨Yu,none,.cell (some (.float (bf x1.d.1 x1.d.2) x1.t)),⟨[]⟩⟩),(Yk aP pts epP),(A aE,Obj.mapSeq (·.push (.ref (j9 ⟨im n ps 0⟩ (Int.ofNat x3.j)))) (ab eds epE))]++((o::ps).map yD++Ed n tb o ps 0)
noncomputable abbrev jK(ds:List cA)(j:Nat):Prop:=∃d,cL ds d/\(ff ds (bf d.1 d.2) (List.length ds)).getLast? =some j
abbrev C0:=bV Value.none
abbrev IM(a:ae)(b:Nat)(c:List PT)(d:Nat):=lA a b (10+4*c.length)++(List.range 4).map (Nat.add (A d))
noncomputable def Bm(f:Bool)(aP aE:Nat)(uE uW uB tk:Tok)(k mm:Nat)(pts eds:Array Value)(epP epE:Nat)(o:PT)(ps:List PT)(n tb gb:Nat)(Z:ZB)(hs:List Nat)(E:ae):Prop:=
 ad (lE E) (A n) gb (sl hs 0 4) (
  ((Rf (.builtin "len" ⟨[(Yp aP)],[]⟩:Code))/\Rf (Value.type "list")/\pts.size=Nat.add mm 1/\mm.succ.blt 1000=true)/\ad (lE E) (A n) gb [] (
  (av (.builtin "int.__lt__" ⟨[(cr k tk),(.int (Int.ofNat mm.succ-1) (Y8 tb 3))],[]⟩) [] ww/\tt)/\ad (lE E) (A n) gb (sl hs 7 6) (
  ((Rf (.builtin "list.__getitem__" ⟨[(Yp aP),(dY n 0)],[]⟩:Code))/\(Rf (Value.type "list")/\Rf (Value.type "slice")/\Rf Value.none)/\tt/\pts.size.le 1000/\slicePick pts (bV (Value.int (Int.ofNat k+1) ((TK tb).add 5))) C0 none=Array.mk (ps.map zo))/\ad (lE E) (A n) gb (sl hs 14 (cond W.b2 50 54)) (
  Fb (lE E) (A n) gb hs W.b2 ((Rf (.builtin "list.__getitem__" ⟨[(Yp aP),(cr k tk)],[]⟩:Code))/\bO (Yh k)/\(Hf k pts)=some (zo o)) ps.length 0 (
  Rf (M7 W p4 p5 p6 p7 te i1 bo1 e1 n3 n4 f2 aF c1 c2 c3 c4 n ps.length)/\Rf (ax (Oi n tb o ps))/\tt/\tt/\∀(x0:xG) (n0 tb0 gb0:Nat),bC x0.hs (di o ps)->tt/\ad (lA E n (10+4*ps.length)) (A n0) gb0 (sl hs (cond W.b2 (40+69*ps.length) (44+69*ps.length)) 8) (
  ((Rf (.builtin "min" ⟨[.ref (Nat.add (A n) (8+4*ps.length))],[]⟩:Code)/\Rf (none:Option Value)/\Rf (none:Option Value)/\Rf (none:Option Value))/\tt/\Rf (ab (x0.hs) x0.eph)/\bC (x0.hs) (di o ps))/\Rf (ax ([((Nat.add (A n) (8+4*ps.length)),(ab (x0.hs) x0.eph:Obj))]))/\tt/\tt/\∀(x1:kK) (n1 tb1 gb1:Nat),cL (di o ps) x1.d->tt/\ad (lA E n (10+4*ps.length)) (A n1) gb1 (sl hs (cond W.b2 (49+69*ps.length) (53+69*ps.length)) 23) (
  (bC (x0.hs) (di o ps))/\Rf (K9 W p4 p5 p6 p7 te i1 bo1 e1 n3 n4 f2 aF c1 c2 c3 c4 n1)/\Rf (ax (Hz c3 c4 n n1 ps.length (di o ps) x0 x1))/\tt/\tt/\∀(x2:CU) (n2 tb2 gb2:Nat),aZ x2.js (ff (di o ps) (bf x1.d.fst x1.d.snd) (List.length (di o ps)))->tt/\ad (IM E n ps n1) (A n2) gb2 (sl hs (cond W.b2 (73+69*ps.length) (77+69*ps.length)) 3) (
  ((Rf (.builtin "max" ⟨[.ref (Y2 n1 2)],[]⟩:Code)/\Rf (none:Option Value)/\Rf (none:Option Value)/\Rf (none:Option Value))/\tt/\Rf (ab (x2.js) x2.epj)/\(∃d,cL (di o ps) d/\aZ (x2.js) (ff (di o ps) (bf d.1 d.2) (List.length (di o ps)))))/\Rf (ax ([((Y2 n1 2),(ab (x2.js) x2.epj:Obj))]))/\tt/\tt/\∀(x3:jf) (n3_ tb3 gb3:Nat),jK (di o ps) x3.j->tt/\ad (IM E n ps n1) (A n3_) gb3 (sl hs (cond W.b2 (77+69*ps.length) (81+69*ps.length)) 13) (
  (Rf (.builtin "list.__getitem__" ⟨[(dY n 3),(.int (Int.ofNat x3.j) x3.t)],[]⟩:Code)/\bO (Int.ofNat x3.j)/\((seqIndex? (Int.ofNat x3.j) (Array.mk (im n ps 0)).size).bind fun j=>(Array.mk (im n ps 0))[j]?)=(some (.ref (j9 (Array.mk (im n ps 0)) (Int.ofNat x3.j)))))/\ad (IM E n ps n1) (A n3_) gb3 (sl hs (cond W.b2 (91+69*ps.length) (95+69*ps.length)) 1) (
  (Rf (.builtin "list.append" ⟨[(Yp aE),(.ref (j9 (Array.mk (im n ps 0)) (Int.ofNat x3.j)))],[]⟩:Code)/\(Rf (Value.type "list")/\Rf (none:Option Addr)/\Rf (Array.mk []:Array i8))/\eds.size.le 1000)/\ad (IM E n ps n1) (A n3_) gb3 (sl hs (cond W.b2 (93+69*ps.length) (97+69*ps.length)) 5) (
  Z (.again (fi (pW W) (jQ W aF c1 c2 c3 c4))) (Y2 n3_ 0) (Y8 tb3 4) true (ax (pm W aF c1 c2 c3 c4 f aP aE uE uW uB k pts eds epP epE n tb tb3 x1 x3 o ps)))))))))))))
noncomputable def G0(F:WW->Bool->Prop)(w:World):List Prop:=[F ⟨w,true,true⟩ true,F ⟨w,true,true⟩ false,F ⟨w,true,false⟩ true,F ⟨w,true,false⟩ false,F ⟨w,false,true⟩ true,F ⟨w,false,true⟩ false,F ⟨w,false,false⟩ true,F ⟨w,false,false⟩ false]
noncomputable def G8(F:WW->Bool->Prop)(w:World):List Prop:=[F ⟨w,true,true⟩ true,F ⟨w,true,true⟩ false,F ⟨w,true,false⟩ true,F ⟨w,true,false⟩ false,F ⟨w,false,true⟩ true,F ⟨w,false,true⟩ false,F ⟨w,false,false⟩ true,F ⟨w,false,false⟩ false]
noncomputable def SK(F:WW->Bool->PT->List PT->List Nat->ae->Prop)(L:WW->List PT->List Nat)(E:WW->Bool->PT->List PT->ae):World->PT->PT->PT->PT->PT->PT->List (List Prop):=fun w o p1 p2 p3 p4 p5=>[G0 (fun W f=>F W f o [p1] (L W [p1]) (E W f o [p1])) w,G0 (fun W f=>F W f o [p1,p2] (L W [p1,p2]) (E W f o [p1,p2])) w,G0 (fun W f=>F W f o [p1,p2,p3] (L W [p1,p2,p3]) (E W f o [p1,p2,p3])) w,G0 (fun W f=>F W f o [p1,p2,p3,p4] (L W [p1,p2,p3,p4]) (E W f o [p1,p2,p3,p4])) w,G0 (fun W f=>F W f o [p1,p2,p3,p4,p5] (L W [p1,p2,p3,p4,p5]) (E W f o [p1,p2,p3,p4,p5])) w]
noncomputable def R8(F:WW->Bool->PT->List PT->List Nat->ae->Prop)(L:WW->List PT->List Nat)(E:WW->Bool->PT->List PT->ae):World->PT->PT->PT->PT->PT->PT->List (List Prop):=fun w o p1 p2 p3 p4 p5=>[G8 (fun W f=>F W f o [p1] (L W [p1]) (E W f o [p1])) w,G8 (fun W f=>F W f o [p1,p2] (L W [p1,p2]) (E W f o [p1,p2])) w,G8 (fun W f=>F W f o [p1,p2,p3] (L W [p1,p2,p3]) (E W f o [p1,p2,p3])) w,G8 (fun W f=>F W f o [p1,p2,p3,p4] (L W [p1,p2,p3,p4]) (E W f o [p1,p2,p3,p4])) w,G8 (fun W f=>F W f o [p1,p2,p3,p4,p5] (L W [p1,p2,p3,p4,p5]) (E W f o [p1,p2,p3,p4,p5])) w]
theorem kL{F G:WW->Bool->Prop}{w:World}(h:G0 F w=G8 G w)(b1 b2 f:Bool):F ⟨w,b1,b2⟩ f=G ⟨w,b1,b2⟩ f:=by
 have g:=fun i=>congrArg (fun l=>l.getD i True) h
 cases b1<;>cases b2<;>cases f
 ·exact g 7
 ·exact g 6
 ·exact g 5
 ·exact g 4
 ·exact g 3
 ·exact g 2
 ·exact g 1
 ·exact g 0
theorem FQ{F G:WW->Bool->PT->List PT->List Nat->ae->Prop}{L:WW->List PT->List Nat}{E:WW->Bool->PT->List PT->ae}(h:SK F L E=R8 G L E)(W:WW)(f:Bool)(o:PT)(ps:List PT)(hps:ps≠[])(hp5:ps.length<=5)(hs:List Nat)(hhs:hs=L W ps)(e:ae)(he:e=E W f o ps):F W f o ps hs e=G W f o ps hs e:=by
 subst hhs he
 obtain⟨w,b1,b2⟩:=W
 have g:=fun i p1 p2 p3 p4 p5=>congrArg (fun g=>(g w o p1 p2 p3 p4 p5).getD i []) h
 rcases ps with _|⟨p1,_|⟨p2,_|⟨p3,_|⟨p4,_|⟨p5,_|⟨p6,r⟩⟩⟩⟩⟩⟩
 ·exact(hps rfl).elim
 ·exact kL (F:=fun W f=>F W f o [p1] (L W [p1]) (E W f o [p1])) (G:=fun W f=>G W f o [p1] (L W [p1]) (E W f o [p1])) (g 0 p1 p1 p1 p1 p1) b1 b2 f
 ·exact kL (F:=fun W f=>F W f o [p1,p2] (L W [p1,p2]) (E W f o [p1,p2])) (G:=fun W f=>G W f o [p1,p2] (L W [p1,p2]) (E W f o [p1,p2])) (g 1 p1 p2 p2 p2 p2) b1 b2 f
 ·exact kL (F:=fun W f=>F W f o [p1,p2,p3] (L W [p1,p2,p3]) (E W f o [p1,p2,p3])) (G:=fun W f=>G W f o [p1,p2,p3] (L W [p1,p2,p3]) (E W f o [p1,p2,p3])) (g 2 p1 p2 p3 p3 p3) b1 b2 f
 ·exact kL (F:=fun W f=>F W f o [p1,p2,p3,p4] (L W [p1,p2,p3,p4]) (E W f o [p1,p2,p3,p4])) (G:=fun W f=>G W f o [p1,p2,p3,p4] (L W [p1,p2,p3,p4]) (E W f o [p1,p2,p3,p4])) (g 3 p1 p2 p3 p4 p4) b1 b2 f
 ·exact kL (F:=fun W f=>F W f o [p1,p2,p3,p4,p5] (L W [p1,p2,p3,p4,p5]) (E W f o [p1,p2,p3,p4,p5])) (G:=fun W f=>G W f o [p1,p2,p3,p4,p5] (L W [p1,p2,p3,p4,p5]) (E W f o [p1,p2,p3,p4,p5])) (g 4 p1 p2 p3 p4 p5) b1 b2 f
 ·exact absurd hp5 (by simp)
noncomputable abbrev qT(a:Bool)(b:Value):=cond a none (some b)
theorem HO(f:Bool)(p0:Pos)(aP aE:Nat)(uE uW uB tk:Tok)(vW vB v3 v4:Value)(k mm:Nat)(pts eds:Array Value)(epP epE:Nat)(o:PT)(ps:List PT)(hps:ps≠[])(hp5:ps.length<=5)(n tb gb:Nat)(Z:ZB)(hs:List Nat)(hhs:hs=BK W.b2 ps.length)(E:ae)(hE:E=eS (pW W) aF c1 c2 c3 c4 aP aE uE (jl W f uW uB vW vB) (cond f 1 3) k tk (qT f v3) (qT f v4) pts epP eds epE++(o::ps).map yD):
  cm (ei (Vw W) (8+ps.length) (kF o ps mm) [] (nZ W p4 p5 p6 p7 te i1 bo1 e1 n3 n4 f2 aF c1 c2 c3 c4 n tb o ps) []) 1100 (zc W p4 p5 p6 p7 te i1 bo1 e1 n3 n4 f2 aF c1 c2 c3 c4) p0 (aQ (fi (pW W) (jQ W aF c1 c2 c3 c4))) [] hs (cO E n tb gb) (kZ (np ps.length) Z)=
  Bm W p4 p5 p6 p7 te i1 bo1 e1 n3 n4 f2 aF c1 c2 c3 c4 f aP aE uE uW uB tk k mm pts eds epP epE o ps n tb gb Z hs E:=
 FQ (F:=fun W f o ps hs E=>cm (ei (Vw W) (8+ps.length) (kF o ps mm) [] (nZ W p4 p5 p6 p7 te i1 bo1 e1 n3 n4 f2 aF c1 c2 c3 c4 n tb o ps) []) 1100 (zc W p4 p5 p6 p7 te i1 bo1 e1 n3 n4 f2 aF c1 c2 c3 c4) p0 (aQ (fi (pW W) (jQ W aF c1 c2 c3 c4))) [] hs (cO E n tb gb) (kZ (np ps.length) Z)) (G:=fun W f o ps hs E=>Bm W p4 p5 p6 p7 te i1 bo1 e1 n3 n4 f2 aF c1 c2 c3 c4 f aP aE uE uW uB tk k mm pts eds epP epE o ps n tb gb Z hs E) (L:=fun W ps=>BK W.b2 ps.length) (E:=fun W f o ps=>eS (pW W) aF c1 c2 c3 c4 aP aE uE (jl W f uW uB vW vB) (cond f 1 3) k tk (qT f v3) (qT f v4) pts epP eds epE++(o::ps).map yD) (by kernel_rfl) W f o ps hps hp5 hs hhs E hE
end
end
set_option linter.all false
theorem bS.data:∀{l:List (Int×Int)} {vs:List Value} {T:ae},bS l vs T->∃ps:List PT,l=ps.map Mz/\vs=ps.map zo/\T=ps.map yD
 |[],_,_,h=>⟨[],rfl,h.1,h.2⟩
 |p::l,_,_,h=>by
  obtain⟨a,tx,ty,et,vs',T',rfl,rfl,h⟩:=h
  obtain⟨ps,rfl,rfl,rfl⟩:=h.data
  exact⟨(a,p,tx,ty,et)::ps,rfl,rfl,rfl⟩
theorem nj{M:Model}{a:bF}{l:List bF}(ha:∀V,bE V M a)(hl:eD M l):∀k,eD M (List.replicate k a++l)
 |0=>hl
 |k+1=>⟨ha,nj ha hl k⟩
theorem wj{M:Model}{o:PT}{ps:List PT}{mm:Nat}(h1:∀V i m,bE V M (gT i m))(h2:∀V,bE V M (f7 [] (.val (.bool true))))(h3:∀V i j v,bE V M (gI i j v))(h4:∀V i v,bE V M (co i v))(h5:∀V i,bE V M (jr i))(h6:∀V i,bE V M (cf i)):eD M (kF o ps mm):=
 show eD M (gT 5 mm::f7 [] (.val (.bool true))::gI 5 (8+ps.length) ⟨ps.map zo⟩::(List.replicate (2*ps.length) (co 5 (zo o))++[jr (11+ps.length),cf 6])) from
  ⟨fun V=>h1 V _ _,h2,fun V=>h3 V _ _ _,nj (l:=[jr (11+ps.length),cf 6]) (fun V=>h4 V _ _) ⟨fun V=>h5 V _,fun V=>h6 V _,trivial⟩ _⟩
theorem pe{n tb:Nat}{o p:PT}:∀{l:List PT} {i j:Nat},l[j]? =some p->(Ed n tb o l i)[j]? =some (Nat.add (A n) (8+4*(i+j)),Ce tb o p (i+j))
 |[],_,_,h=>by simp at h
 |q::l,i,0,h=>by simp at h;subst h;rfl
 |q::l,i,j+1,h=>by
  have:=pe (n:=n) (tb:=tb) (o:=o) (l:=l) (i:=i+1) (j:=j) (by simpa using h)
  rw [show i+1+j=i+(j+1) by lia] at this
  exact this
theorem kD(n:Nat):∀(l:List PT) (i:Nat),(im n l i).length=l.length
 |[],_=>rfl
 |_::l,i=>congrArg (·+1) (kD n l (i+1))
theorem pC(n:Nat):∀(l:List PT) (i:Nat),(im n l i).all yK=true
 |[],_=>rfl
 |_::l,i=>pC n l (i+1)
theorem qI{n:Nat}:∀{l:List PT} {i j:Nat},j<l.length->(im n l i)[j]? =some (.ref (Nat.add (A n) (8+4*(i+j))))
 |[],_,_,h=>by simp at h
 |q::l,i,0,h=>rfl
 |q::l,i,j+1,h=>by
  have:=qI (n:=n) (l:=l) (i:=i+1) (j:=j) (by simpa using h)
  rw [show i+1+j=i+(j+1) by lia] at this
  exact this
theorem bS.new{n tb:Nat}{o:PT}:∀(ps:List PT) (i:Nat),bS (di o ps) (zs n ps i) (rt n tb o ps i)
 |[],_=>⟨rfl,rfl⟩
 |p::l,i=>⟨_,_,_,_,_,_,rfl,rfl,bS.new l (i+1)⟩
section
variable(W:WW)(p0 p4:Pos)(vC:FC)(aF c1 c2 c3 c4 aP aE:Nat)(f:Bool)(uE uW uB tk:Tok)(vW vB v3 v4:Value)(k:Nat)(pts eds:Array Value)(epP epE:Nat)(o:PT)(pl:List PT)(n tb gb:Nat)(hs:List Nat)
include W p0 p4 vC aF c1 c2 c3 c4 aP aE f uE uW uB tk vW vB v3 v4 k pts eds epP epE o pl n tb gb hs
theorem Fn(E:ae)(hne:pl≠[])(h5:pl.length<=5)(hk:k<=100)(hsz:pts.size=Nat.add (k+pl.length) 1)(hmm:Nat.blt (Nat.succ (k+pl.length)) 1000=true)(hlt:decide (Int.ofNat k<Int.ofNat (k+pl.length).succ-1)=true)(hsl:slicePick pts (some (Int.ofNat k+1)) none none=⟨pl.map zo⟩)(hg0:(zD k pts).bind (fun j=>pts[j]?)=some (zo o))(hpz:pts.size<=1000)(hed:eds.size<=1000):Bm W p4 vC.p5 vC.p6 vC.p7 vC.te vC.i1 vC.bo1 vC.e1 vC.n3 vC.n4 vC.f2 aF c1 c2 c3 c4 f aP aE uE uW uB tk k (k+pl.length) pts eds epP epE o pl n tb gb (fun ev nk tk fin l=>fin=true/\((∃(x1:kK) (x3:jf) (tb3:Nat),jK (di o pl) x3.j/\ev=(.again (fi (pW W) (jQ W aF c1 c2 c3 c4)))/\l=ax (pm W aF c1 c2 c3 c4 f aP aE uE uW uB k pts eds epP epE n tb tb3 x1 x3 o pl))/\677<=tk)) hs E:=by
 unfold Bm
 refine rI ⟨rfl,rfl,hsz,hmm⟩ ?_
 refine rI ⟨gM hlt,rfl⟩ ?_
 refine rI ⟨rfl,⟨rfl,rfl,rfl⟩,rfl,hpz,hsl⟩ ?_
 refine ag (lr ⟨rfl,bZ (by lia),hg0⟩ _ _ ?_) _
 refine⟨rfl,rfl,rfl,rfl,fun x0 n0 tb0 gb0 hx0=>⟨rfl,ag ?_ _⟩⟩
 refine⟨⟨⟨rfl,rfl,rfl,rfl⟩,rfl,rfl,hx0⟩,rfl,rfl,rfl,fun x1 n1 tb1 gb1 hx1=>⟨rfl,ag ?_ _⟩⟩
 refine⟨hx0,rfl,rfl,rfl,rfl,fun x2 n2 tb2 gb2 hx2=>⟨rfl,ag ?_ _⟩⟩
 refine⟨⟨⟨rfl,rfl,rfl,rfl⟩,rfl,rfl,⟨x1.d,hx1,hx2⟩⟩,rfl,rfl,rfl,fun x3 n3' tb3 gb3 hx3=>⟨rfl,ag ?_ _⟩⟩
 have hj:=tr hx3
 rw [show(di o pl).length=pl.length from length_map _] at hj
 refine⟨⟨rfl,bZ (by lia),Bl (by rw [kD];exact hj) (pC n pl 0)⟩,ag ?_ _⟩
 refine⟨⟨rfl,⟨rfl,rfl,rfl⟩,hed⟩,ag ?_ _⟩
 exact⟨rfl,⟨x1,x3,tb3,hx3,rfl,rfl⟩,eU⟩
theorem FH(hhs:hs=BK W.b2 pl.length)(hne:pl≠[])(h5:pl.length<=5)(hk:k<=100)(hsz:pts.size=Nat.add (k+pl.length) 1)(hmm:Nat.blt (Nat.succ (k+pl.length)) 1000=true)(hlt:decide (Int.ofNat k<Int.ofNat (k+pl.length).succ-1)=true)(hsl:slicePick pts (some (Int.ofNat k+1)) none none=⟨pl.map zo⟩)(hg0:(zD k pts).bind (fun j=>pts[j]?)=some (zo o))(hpz:pts.size<=1000)(hed:eds.size<=1000):cm (ei (Vw W) (8+pl.length) (kF o pl (k+pl.length)) [] (nZ W p4 vC.p5 vC.p6 vC.p7 vC.te vC.i1 vC.bo1 vC.e1 vC.n3 vC.n4 vC.f2 aF c1 c2 c3 c4 n tb o pl) []) 1100 (zc W p4 vC.p5 vC.p6 vC.p7 vC.te vC.i1 vC.bo1 vC.e1 vC.n3 vC.n4 vC.f2 aF c1 c2 c3 c4) p0 (aQ (fi (pW W) (jQ W aF c1 c2 c3 c4))) [] hs (qU (eS (pW W) aF c1 c2 c3 c4 aP aE uE (jl W f uW uB vW vB) (cond f 1 3) k tk (qT f v3) (qT f v4) pts epP eds epE++(o::pl).map yD) (A n) (TK tb) gb) (kZ (np pl.length) (fun ev nk tk fin l=>fin=true/\((∃(x1:kK) (x3:jf) (tb3:Nat),jK (di o pl) x3.j/\ev=(.again (fi (pW W) (jQ W aF c1 c2 c3 c4)))/\l=ax (pm W aF c1 c2 c3 c4 f aP aE uE uW uB k pts eds epP epE n tb tb3 x1 x3 o pl))/\677<=tk))):=
 Eq.mpr (HO W p4 vC.p5 vC.p6 vC.p7 vC.te vC.i1 vC.bo1 vC.e1 vC.n3 vC.n4 vC.f2 aF c1 c2 c3 c4 f p0 aP aE uE uW uB tk vW vB v3 v4 k (k+pl.length) pts eds epP epE o pl hne h5 n tb gb (fun ev nk tk fin l=>fin=true/\((∃(x1:kK) (x3:jf) (tb3:Nat),jK (di o pl) x3.j/\ev=(.again (fi (pW W) (jQ W aF c1 c2 c3 c4)))/\l=ax (pm W aF c1 c2 c3 c4 f aP aE uE uW uB k pts eds epP epE n tb tb3 x1 x3 o pl))/\677<=tk)) hs hhs _ rfl) (Fn W p0 p4 vC aF c1 c2 c3 c4 aP aE f uE uW uB tk vW vB v3 v4 k pts eds epP epE o pl n tb gb _ _ hne h5 hk hsz hmm hlt hsl hg0 hpz hed)
end
theorem xh:∀m,m<=5->(np m).take (8+m)=List.range (8+m):=by decide
theorem CH(f:Bool)(aP aE:Nat)(uE uW uB:Tok)(k:Nat)(pts eds:Array Value)(epP epE:Nat)(n tb tb3:Nat)(x1:kK)(x3:jf)(o:PT)(ps:List PT){E:ae}(hE:E.map (·.1)=[A aF,A c1,A c2,A c3,A c4,A aP,A aE]++(o::ps).map (A ·.1)):((ax (pm W aF c1 c2 c3 c4 f aP aE uE uW uB k pts eds epP epE n tb tb3 x1 x3 o ps)).map (·.1)).take E.length=E.map (·.1):=by
 have h:E.length=7+(o::ps).length:=by rw [<-length_map (as:=E),hE,List.length_append,length_map];rfl
 rw [h,hE]
 unfold ax pm
 rw [map_map,map_append,map_append,<-append_assoc]
 refine(List.take_append_of_le_length ?_).trans ?_
 ·simp;lia
 ·rw [take_of_length_le (by simp;lia)]
  simp [yD,Function.comp_def]
theorem FX(W:WW)(p0 p4:Pos)(vC:FC)(aF c1 c2 c3 c4 aP aE:Nat)(f:Bool)(uE uW uB tk:Tok)(vW vB v3 v4:Value)(k:Nat)(pts eds:Array Value)(epP epE:Nat)(o:PT)(pl:List PT)(n tb gb:Nat)(hs:List Nat)(s:Shared)(hn:s.heap.objs.size=A n)(ht:s.toks=TK tb)(hg:s.gens.size=gb)(hP':az (pW W) (eS (pW W) aF c1 c2 c3 c4 aP aE uE (jl W f uW uB vW vB) (cond f 1 3) k tk (qT f v3) (qT f v4) pts epP eds epE++(o::pl).map yD) s)(hne:pl≠[])(h5:pl.length<=5)(h10:cb (di o pl))(h100:(di o pl).length<=100)(hd:di o pl≠[])(H:cm (ei (Vw W) (8+pl.length) (kF o pl (k+pl.length)) [] (nZ W p4 vC.p5 vC.p6 vC.p7 vC.te vC.i1 vC.bo1 vC.e1 vC.n3 vC.n4 vC.f2 aF c1 c2 c3 c4 n tb o pl) []) 1100 (zc W p4 vC.p5 vC.p6 vC.p7 vC.te vC.i1 vC.bo1 vC.e1 vC.n3 vC.n4 vC.f2 aF c1 c2 c3 c4) p0 (aQ (fi (pW W) (jQ W aF c1 c2 c3 c4))) [] hs (qU (eS (pW W) aF c1 c2 c3 c4 aP aE uE (jl W f uW uB vW vB) (cond f 1 3) k tk (qT f v3) (qT f v4) pts epP eds epE++(o::pl).map yD) (A n) (TK tb) gb) (kZ (np pl.length) (fun ev nk tk fin l=>fin=true/\((∃(x1:kK) (x3:jf) (tb3:Nat),jK (di o pl) x3.j/\ev=(.again (fi (pW W) (jQ W aF c1 c2 c3 c4)))/\l=ax (pm W aF c1 c2 c3 c4 f aP aE uE uW uB k pts eds epP epE n tb tb3 x1 x3 o pl))/\677<=tk)))):∃ev s' l,dA (Yt W) (zc W p4 vC.p5 vC.p6 vC.p7 vC.te vC.i1 vC.bo1 vC.e1 vC.n3 vC.n4 vC.f2 aF c1 c2 c3 c4) p0 (aQ (fi (pW W) (jQ W aF c1 c2 c3 c4))) [] s ev s'/\((∃(x1:kK) (x3:jf) (tb3:Nat),jK (di o pl) x3.j/\ev=(.again (fi (pW W) (jQ W aF c1 c2 c3 c4)))/\l=ax (pm W aF c1 c2 c3 c4 f aP aE uE uW uB k pts eds epP epE n tb tb3 x1 x3 o pl))/\677<=s'.toks)/\f9 l s'.heap/\cN (pW W) s'/\af (eS (pW W) aF c1 c2 c3 c4 aP aE uE (jl W f uW uB vW vB) (cond f 1 3) k tk (qT f v3) (qT f v4) pts epP eds epE++(o::pl).map yD) s s':=by
 have hE:(eS (pW W) aF c1 c2 c3 c4 aP aE uE (jl W f uW uB vW vB) (cond f 1 3) k tk (qT f v3) (qT f v4) pts epP eds epE++(o::pl).map yD).map (·.1)=[A aF,A c1,A c2,A c3,A c4,A aP,A aE]++(o::pl).map (A ·.1):=by
  rw [map_append,map_map];rfl
 have hl:(eS (pW W) aF c1 c2 c3 c4 aP aE uE (jl W f uW uB vW vB) (cond f 1 3) k tk (qT f v3) (qT f v4) pts epP eds epE++(o::pl).map yD).length=8+pl.length:=by
  rw [List.length_append,length_map];show 7+(pl.length+1)=8+pl.length;lia
 rw [<-hl] at H
 refine dw (is:=np _) (wj (fun _ _ _=>gY) (fun _=>au) (fun _ _ _ _=>jZ) (fun _ _ _=>bB) (fun _ _=>rU) (fun _ _=>bx)) ?_ hP' hn ht hg (by rw [hl];exact xh _ h5) ?_ H
 ·rw [hl]
  refine⟨?_,?_,?_,?_,trivial⟩
  ·exact jc rfl (j8 (fz:=[]) (rX W ⟨default,⟨138,41,138,45⟩,p4,vC.p5,vC.p6,vC.p7,(lF (rP W)),(bk (rP W)),(kY (rP W)),(jQ W aF c1 c2 c3 c4),(be (ak (pW W))),(jQ W aF c1 c2 c3 c4),vC.te,vC.i1,vC.bo1,vC.e1,vC.n3,vC.n4,vC.f2⟩ aF c1 c2 c3 c4 _ _ _ _ _ _ _ _ (bS.pts (bS.new _ 0)) h10.ranged h100 hd) (fun _=>rfl))
  ·exact vr rfl h10 hd
  ·exact uT _ _ _ _ _ _ _ _ rfl h100 hd
  ·exact vO rfl h10
 ·rintro ev nk tk l ⟨⟨x1,x3,tb3,hc,rfl,rfl⟩,h⟩;exact⟨CH (hE:=hE) ..,h⟩
theorem rC{W:WW}{fr:List DictEntry}{bR:Nat}{w3 w4:Option Value}(hfr:Iq (pW W) fr bR w3 w4):∃(f:Bool) (uW uB:Tok) (vW vB v3 v4:Value),fr=jl W f uW uB vW vB/\bR=cond f 1 3/\w3=cond f none (some v3)/\w4=cond f none (some v4):=by
 rcases hfr with⟨rfl,rfl,rfl,rfl⟩|⟨uW,vW,uB,vB,v3,v4,rfl,rfl,rfl,rfl⟩
 ·exact⟨true,0,0,.none,.none,.none,.none,rfl,rfl,rfl,rfl⟩
 ·exact⟨false,uW,uB,vW,vB,v3,v4,rfl,rfl,rfl,rfl⟩
theorem sG(W:WW)(p0 p4:Pos)(vC:FC)(aF c1 c2 c3 c4 aP aE:Nat)(uE:Tok)(pts:Array Value)(epP:Nat)(fz:List dh)(ps:List cA)(q0:Int×Int)(l:List cA)(hl:l≠[])(hl5:l.length<=5)(fr:List DictEntry)(bR k:Nat)(tk:Tok)(w3 w4:Option Value)(eds:Array Value)(epE:Nat)(s:Shared)(hps:aw pts fz ps)(hle:ps.length<=100)(hnd:pts.toList.Nodup)(hok:fa ps)(hed:eds.size<=100)(hk:ps.drop k=q0::l)(hfr:Iq (pW W) fr bR w3 w4)(hP:az (pW W) (eS (pW W) aF c1 c2 c3 c4 aP aE uE fr bR k tk w3 w4 pts epP eds epE) s)(hfz:cH fz (eS (pW W) aF c1 c2 c3 c4 aP aE uE fr bR k tk w3 w4 pts epP eds epE) s):Gb W p0 p4 vC aF c1 c2 c3 c4 aP aE uE pts epP fr bR k tk w3 w4 eds epE s q0 l:=by
 refine gQ fun Q zQ=>?_
 obtain⟨f,uW,uB,vW,vB,v3,v4,rfl,rfl,rfl,rfl⟩:=rC hfr
 obtain⟨T,hT,hTm⟩:=aw.tups (items:=pts.toList) hps
 have hD:=hT.drop (k:=k)
 rw [hk] at hD
 obtain⟨os,e1',e2,e3⟩:=hD.data
 refine zQ ?_
 rcases os with _|⟨o,pl⟩
 ·cases e1'
 refine gQ fun Q zQ=>?_
 obtain⟨rfl,rfl⟩:=List.cons.inj e1'
 have hTk:∀x∈T.drop k,x∈fz:=fun x hx=>hTm x (List.mem_of_mem_drop hx)
 have hge:∀x∈T.drop k,245<=x.1:=fun x hx=>hT.ge x (List.mem_of_mem_drop hx)
 have nd:((T.drop k).map (·.1)).Nodup:=List.Nodup.sublist (List.Sublist.map _ (List.drop_sublist _ _)) (hT.nodup hnd)
 rw [e3] at hTk hge nd
 have hP':=hP.addL hfz hTk hge nd
 have hlen:ps.length=k+(pl.length+1):=by have:=congrArg List.length hk;simp at this;lia
 have hsz:pts.size=Nat.add (k+pl.length) 1:=by rw [hps.size,hlen];rfl
 have hmm:Nat.blt (Nat.succ (k+pl.length)) 1000=true:=Nat.blt_eq.mpr (by lia)
 have hne:pl≠[]:=fun h=>hl (by rw [h];rfl)
 have hp0:0<pl.length:=List.length_pos_iff.mpr hne
 have h5:pl.length<=5:=by simpa using hl5
 have hlt:decide (Int.ofNat k<Int.ofNat (k+pl.length).succ-1)=true:=decide_eq_true (by show(k:Int)<((k+pl.length+1:Nat):Int)-1;lia)
 have hsl:=rf (items:=pts) (k:=k) (bw e2).2
 have hg0:=Gl (items:=pts) e2
 have ed:difs (Mz o) (pl.map Mz)=di o pl:=by unfold difs di;rw [map_map];rfl
 have h10:cb (di o pl):=by rw [<-ed];exact hok.difs hk
 have hdl:(di o pl).length=pl.length:=length_map _
 have hpz:pts.size<=1000:=by have:=hps.size;lia
 obtain⟨n,hn⟩:=hP'.size
 obtain⟨tb,ht⟩:=hP'.toks
 generalize hg:s.gens.size=gb
 obtain⟨hs,hhs⟩:∃hs,hs=BK W.b2 pl.length:=⟨_,rfl⟩
 have H:=FH W p0 p4 vC aF c1 c2 c3 c4 aP aE f uE uW uB tk vW vB v3 v4 k pts eds epP epE o pl n tb gb hs hhs hne h5 (by lia) hsz hmm hlt hsl hg0 hpz (by lia)
 obtain⟨ev,s',lz,r,⟨⟨x1,⟨j,tj⟩,tb3,hc,rfl,rfl⟩,htk⟩,h3,h4,K⟩:=FX W p0 p4 vC aF c1 c2 c3 c4 aP aE f uE uW uB tk vW vB v3 v4 k pts eds epP epE o pl n tb gb hs s hn ht hg hP' hne h5 h10 (by rw [hdl];lia) (by intro e;rw [e] at hdl;simp at hdl;lia) H
 have hF:=ai h3
 obtain⟨h7,hpt⟩:=cj.mp hF
 obtain⟨hpts,hnew⟩:=cj.mp hpt
 have K':=af.cutL K (cj.mp hP'.has).2 hpts
 obtain⟨e,he⟩:=B9 h10 hc
 refine zQ ?_
 have hj:j<pl.length:=by have:=tr hc;rw [hdl] at this;exact this
 have hpj:pl[j]? =some pl[j]:=List.getElem?_eq_getElem hj
 have hee:e=(pl[j].2.1.1-o.2.1.1,pl[j].2.1.2-o.2.1.2):=by
  have:=he.1
  unfold di at this
  rw [getElem?_map,hpj] at this
  exact(Option.some.inj this).symm
 have hi:j9 ⟨im n pl 0⟩ (Yh j)=A (Nat.add n (8+4*(0+j))):=by
  have:=qI (n:=n) (i:=0) hj
  have e2:lU ⟨im n pl 0⟩ (Yh j)=.ref (Nat.add (A n) (8+4*(0+j))):=by
   unfold lU
   rw [fW (show j<(Array.mk (im n pl 0)).size by show j<(im n pl 0).length;rw [kD];exact hj)]
   show((Array.mk (im n pl 0))[j]?).getD .none=_
   rw [show(Array.mk (im n pl 0))[j]? =(im n pl 0)[j]? from by simp,this];rfl
  unfold j9
  rw [e2]
  show n+245+(8+4*(0+j))=n+(8+4*(0+j))+245
  lia
 have hN:=hnew.get (pe (n:=n) (tb:=tb) (o:=o) (i:=0) hpj)
 have hN':s'.heap.get? (A (Nat.add n (8+4*(0+j))))=some (Ce tb o pl[j] (0+j)):=by
  rw [<-hN,show A (Nat.add n (8+4*(0+j)))=Nat.add (A n) (8+4*(0+j)) by show n+(8+4*(0+j))+245=n+245+(8+4*(0+j));lia]
 subst hee
 rw [hi] at h7
 exact⟨s',_,_,_,_,_,_,j,_,Nat.add n (8+4*(0+j)),_,_,_,am rfl r,⟨_,_,_,_,_,_,rfl,rfl,rfl,rfl⟩,⟨h4,⟨h7.1,h7.2.1,h7.2.2.1,h7.2.2.2.1,h7.2.2.2.2.1,h7.2.2.2.2.2.1,h7.2.2.2.2.2.2.1,trivial⟩,hP.nd,hP.lo⟩,K',by rw [ed];exact he,(show s'.heap.get? (A (Nat.add n (8+4*(0+j))))=some (a9 [.int (pl[j].2.1.1-o.2.1.1,pl[j].2.1.2-o.2.1.2).1 _,.int (pl[j].2.1.1-o.2.1.1,pl[j].2.1.2-o.2.1.2).2 _] _) from hN'),by rw [hn];show n+245<=n+(8+4*(0+j))+245;lia⟩
inductive eH:Int×Int->List (Int×Int)->List (Int×Int)->Prop
 |nil (q):eH q [] []
 |cons {q l j e q' l' es} (hl:l≠[]) (hb:lC (difs q l) j e) (hd:l.drop j=q'::l') (h:eH q' l' es):eH q l (e::es)
theorem aw.push{eds:Array Value}{fz:List dh}{es:List cA}{a tx ty et}{e:Int×Int}(h:aw eds fz es):aw (eds.push (Yp a)) (fz++[(A a,a9 [.int e.1 tx,.int e.2 ty] et)]) (es++[e]):=by
 intro i
 have hs:=h.size
 by_cases q:i<es.length
 ·rw [getElem?_append_left q]
  have z:=h i
  revert z
  rw [List.getElem?_eq_getElem q]
  intro z
  obtain⟨a',tx',ty',et',e',hm⟩:=z
  exact⟨a',tx',ty',et',by rw [getElem?_push,if_neg (by lia)];exact e',mem_append_left _ hm⟩
 ·by_cases q2:i=es.length
  ·subst q2
   rw [getElem?_append_right (Nat.le_refl _),Nat.sub_self]
   exact⟨a,tx,ty,et,by rw [getElem?_push,if_pos hs.symm],mem_append_right _ (List.mem_singleton.mpr rfl)⟩
  ·rw [getElem?_append_right (by lia),List.getElem?_eq_none (by simp;lia)]
   show _=Option.none
   rw [getElem?_push,if_neg (by lia),Array.getElem?_eq_none (by lia)]
def dc(fz:List dh)(E:ae)(n0:Nat)(s:Shared):Prop:=∀y∈fz,s.heap.get? y.1=some y.2/\y.1∉E.map (·.1)/\n0<=y.1
theorem dc.keep{fz:List (Nat×Obj)}{E E':ae}{n0:Nat}{s s':Shared}(h:dc fz E n0 s)(k:af E s s')(e:E.map (·.1)=E'.map (·.1)):dc fz E' n0 s':=
 fun y hy=>⟨k.keep _ _ (h y hy).1 (h y hy).2.1,by rw [<-e];exact(h y hy).2.1,(h y hy).2.2⟩
theorem az.lt{P:Params}{E:ae}{s:Shared}(h:az P E s){a:Nat}(ha:a∈E.map (·.1)):a<s.heap.objs.size:=by
 obtain⟨x,hx,rfl⟩:=List.mem_map.mp ha
 obtain⟨i,hi⟩:=List.mem_iff_getElem?.mp hx
 exact Heap.lt_size (h.has.get hi)
theorem dc.add{fz:List (Nat×Obj)}{P:Params}{E E':ae}{n0:Nat}{s s':Shared}{y:Nat×Obj}(h:dc fz E' n0 s')(hP:az P E s)(e:E.map (·.1)=E'.map (·.1))(h1:s'.heap.get? y.1=some y.2)(h2:s.heap.objs.size<=y.1)(h3:n0<=s.heap.objs.size):dc (fz++[y]) E' n0 s':=by
 intro x hx
 rcases List.mem_append.mp hx with hx|hx
 ·exact h x hx
 ·rw [List.mem_singleton.mp hx]
  exact⟨h1,fun hm=>by rw [<-e] at hm;have:=hP.lt hm;lia,by lia⟩
theorem mF{ds:List (Int×Int)}{j:Nat}{e:Int×Int}(h:lC ds j e):j<ds.length:=(List.getElem?_eq_some_iff.mp h.1).1
section
variable(W:WW)(p4:Pos)(vC:FC)(aF c1 c2 c3 c4 aP aE:Nat)(uE:Tok)(pts:Array Value)(epP:Nat)(fz:List dh)
include W p4 vC aF c1 c2 c3 c4 aP aE uE pts epP fz
theorem Cm(ps:List cA)(hps:aw pts fz ps)(hle:ps.length<=100)(hnd:pts.toList.Nodup)(hok:fa ps):∀(N:Nat) (l:List cA) (q0:Int×Int) (fr:List DictEntry) (bR k:Nat) (tk:Tok) (w3 w4:Option Value) (eds:Array Value) (epE:Nat) (fzE:List dh) (es:List cA) (n0:Nat) (p0:Pos) (s:Shared),l.length<=N->l.length<=5->ps.drop k=q0::l->kA (pW W) fr bR w3 w4->eds.size+l.length<=50->az (pW W) (eS (pW W) aF c1 c2 c3 c4 aP aE uE fr bR k tk w3 w4 pts epP eds epE) s->cH fz (eS (pW W) aF c1 c2 c3 c4 aP aE uE fr bR k tk w3 w4 pts epP eds epE) s->aw eds fzE es->dc fzE (eS (pW W) aF c1 c2 c3 c4 aP aE uE fr bR k tk w3 w4 pts epP eds epE) n0 s->n0<=s.heap.objs.size->
  ∀Q:Prop,(∀s' fr' cnt' k' tk' w3' w4' eds' epE' fzE' es',Runs (Yt W) ⟨fi (pW W) (bh (ak (pW W)) (A aF) 231 [A c1,A c2,A c3,A c4]),none,none,[(gL (ak (pW W)) (A aF) 231 [A c1,A c2,A c3,A c4],p4),(.forLoop vC.te vC.i1 vC.bo1 vC.e1 vC.n3,vC.p7),(.func vC.f2 vC.n4,vC.p5),(Y7,vC.p6)],none⟩ p0 ((Yt W).den (fi (pW W) (bh (ak (pW W)) (A aF) 231 (iq c1 c2 c3 c4)))) [] s fu s'->cN (pW W) s'->cI (eS (pW W) aF c1 c2 c3 c4 aP aE uE fr' cnt' k' tk' w3' w4' pts epP eds' epE') s'.heap->af (eS (pW W) aF c1 c2 c3 c4 aP aE uE fr bR k tk w3 w4 pts epP eds epE) s s'->kA (pW W) fr' cnt' w3' w4'->aw eds' fzE' (es++es')->dc fzE' (eS (pW W) aF c1 c2 c3 c4 aP aE uE fr' cnt' k' tk' w3' w4' pts epP eds' epE') n0 s'->eH q0 l es'->eds'.size<=50->Q)->Q:=by
 intro N
 induction N with
 |zero=>
  intro l q0 fr bR k tk w3 w4 eds epE fzE es n0 p0 s hN h5 hk hfr hsz hP hfz hes hst hn0 Q kQ
  cases l with
  |cons=>simp at hN
  |nil=>
   have hlen:ps.length=k+1:=by have:=congrArg List.length hk;simp at this;lia
   refine vb W p0 p4 vC aF c1 c2 c3 c4 aP aE tk w3 w4 k k pts eds epP epE bR _ s (by rw [hps.size,hlen];try rfl) (Nat.blt_eq.mpr (by lia)) (decide_eq_false (by show¬((k:Int)<((k+1:Nat):Int)-1);lia)) _ rfl hP fun n tb s' _ _ r h1 h2 h3=>?_
   exact kQ s' fr bR k tk w3 w4 eds epE fzE ([]) r h1 h2 h3 hfr (by rw [List.append_nil];exact hes) (hst.keep h3 rfl) (.nil _) (by lia)
 |succ N ih=>
  intro l q0 fr bR k tk w3 w4 eds epE fzE es n0 p0 s hN h5 hk hfr hsz hP hfz hes hst hn0 Q kQ
  by_cases hl:l=[]
  ·subst hl
   exact ih [] q0 fr bR k tk w3 w4 eds epE fzE es n0 p0 s (zero_le _) h5 hk hfr hsz hP hfz hes hst hn0 Q kQ
  ·obtain⟨s1,fr1,cnt1,w31,w41,tk1,epE1,j,e,a,tx,ty,et,⟨p',H⟩,hfr1,hP1,K1,hb,ho,hs1⟩:=sG W p0 p4 vC aF c1 c2 c3 c4 aP aE uE pts epP fz ps q0 l hl h5 fr bR k tk w3 w4 eds epE s hps hle hnd hok (by lia) hk (.inr hfr) hP hfz
   have hj:j<l.length:=by have:=mF hb;unfold difs at this;rwa [length_map] at this
   obtain⟨q',l',hd⟩:∃q' l',l.drop j=q'::l':=by
    cases h:l.drop j with
    |nil=>have:=congrArg List.length h;simp at this;lia
    |cons a b=>exact⟨a,b,rfl⟩
   have hk':ps.drop (k+(j+1))=q'::l':=by
    rw [show k+(j+1)=(k+1)+j by lia,<-drop_drop,(bw hk).2,hd]
   have hll:l'.length<l.length:=by have:=congrArg List.length hd;simp at this;lia
   refine ih l' q' fr1 cnt1 (k+(j+1)) tk1 w31 w41 (eds.push (Yp a)) epE1 (fzE++[(A a,a9 [.int e.1 tx,.int e.2 ty] et)]) (es++[e]) n0 p' s1 (by lia) (by lia) hk' hfr1 (by rw [Array.size_push];lia) hP1 (hfz.keep K1 rfl) hes.push ((hst.keep K1 rfl).add hP rfl ho hs1 hn0) (Nat.le_trans hn0 K1.size) _ fun s2 fr2 cnt2 k2 tk2 w32 w42 eds2 epE2 fzE2 es2 r h1 h2 h3 h4 h6 h7 h8 h9=>?_
   exact kQ s2 fr2 cnt2 k2 tk2 w32 w42 eds2 epE2 fzE2 (e::es2) (H _ _ r) h1 h2 (K1.trans (h3.cast rfl)) h4 (by simpa using h6) h7 (.cons hl hb hd h8) h9
structure wY where
 uW:Tok
 uB:Tok
 tk:Tok
 k:Nat
 vW:Value
 vB:Value
 v3:Value
 v4:Value
 eds:Array Value
 epE:Nat
 fz:List (Nat×Obj)
 es:List (Int×Int)
noncomputable def rx(P:Params)(aF c1 c2 c3 c4 aP aE:Nat)(uE:Tok)(pts:Array Value)(epP:Nat)(x:wY):Result×List Obj×ae:=(m8,(eS P aF c1 c2 c3 c4 aP aE uE [aa P [119,97,121,115] x.uW x.vW,aa P [98,101,115,116] x.uB x.vB] 3 x.k x.tk (some x.v3) (some x.v4) pts epP x.eds x.epE).map (·.2),[])
abbrev GO a:=(⟨[]⟩:Array Value).push (Yp a)
theorem uQ(q0:Int×Int)(l:List cA)(hps:aw pts fz (q0::l))(hl:l≠[])(hl5:l.length<=5)(hnd:pts.toList.Nodup)(hok:fa (q0::l))(tk:Tok):
  cw (Vw W) ⟨fi (pW W) (bh (ak (pW W)) (A aF) 231 [A c1,A c2,A c3,A c4]),none,none,[(gL (ak (pW W)) (A aF) 231 [A c1,A c2,A c3,A c4],p4),(.forLoop vC.te vC.i1 vC.bo1 vC.e1 vC.n3,vC.p7),(.func vC.f2 vC.n4,vC.p5),(Y7,vC.p6)],none⟩ (eS (pW W) aF c1 c2 c3 c4 aP aE uE [] 1 0 tk none none pts epP ⟨[]⟩ 0) fz (rx (pW W) aF c1 c2 c3 c4 aP aE uE pts epP) (fun x=>x.fz) (fun x=>aw x.eds x.fz x.es/\eH q0 l x.es/\x.eds.size<=50):=by
 intro p0 s hP hfz
 have hle:(q0::l).length<=100:=by simp;lia
 refine gQ fun Q zQ=>?_
 obtain⟨s1,fr1,cnt1,w31,w41,tk1,epE1,j,e,a,tx,ty,et,⟨p',H⟩,hfr1,hP1,K1,hb,ho,hs1⟩:=sG W p0 p4 vC aF c1 c2 c3 c4 aP aE uE pts epP fz (q0::l) q0 l hl hl5 [] 1 0 tk none none ⟨[]⟩ 0 s hps hle hnd hok (by simp) rfl (.inl ⟨rfl,rfl,rfl,rfl⟩) hP hfz
 have hj:j<l.length:=by have:=mF hb;unfold difs at this;rwa [length_map] at this
 obtain⟨q',l',hd⟩:∃q' l',l.drop j=q'::l':=by
  cases h:l.drop j with
  |nil=>have:=congrArg List.length h;simp at this;lia
  |cons a b=>exact⟨a,b,rfl⟩
 have hk':(q0::l).drop (0+(j+1))=q'::l':=by rw [zero_add];exact hd
 have hll:l'.length<l.length:=by have:=congrArg List.length hd;simp at this;lia
 have hst0:dc [] (eS (pW W) aF c1 c2 c3 c4 aP aE uE [] 1 0 tk none none pts epP ⟨[]⟩ 0) s.heap.objs.size s:=fun y hy=>nomatch hy
 have hes0:aw (⟨[]⟩:Array Value) [] []:=fun i=>by simp
 refine Cm W p4 vC aF c1 c2 c3 c4 aP aE uE pts epP fz (q0::l) hps hle hnd hok l'.length l' q' fr1 cnt1 (0+(j+1)) tk1 w31 w41 (GO a) epE1 ([]++[(A a,a9 [.int e.1 tx,.int e.2 ty] et)]) ([]++[e]) s.heap.objs.size p' s1 (Nat.le_refl _) (by lia) hk' hfr1 (by rw [Array.size_push];show 0+1+_<=50;lia) hP1 (hfz.keep K1 rfl) hes0.push ((hst0.keep K1 rfl).add hP rfl ho hs1 (Nat.le_refl _)) K1.size _ fun s2 fr2 cnt2 k2 tk2 w32 w42 eds2 epE2 fzE2 es2 r h1 h2 h3 h4 h6 h7 h8 h9=>?_
 obtain⟨uW,vW,uB,vB,v3,v4,rfl,rfl,rfl,rfl⟩:=h4
 refine zQ ?_
 refine⟨⟨uW,uB,tk2,k2,vW,vB,v3,v4,eds2,epE2,fzE2,e::es2⟩,s2,H _ _ r,h1,K1.trans (h3.cast rfl),?_,trivial,(fun y hy=>nomatch hy),nodup_nil,⟨by simpa using h6,.cons hl hb hd h8,h9⟩,fun y hy=>⟨(h7 y hy).1,(h7 y hy).2.2,by simp [rx]⟩⟩
 exact⟨h2.1,h2.2.1,h2.2.2.1,h2.2.2.2.1,h2.2.2.2.2.1,h2.2.2.2.2.2.1,h2.2.2.2.2.2.2.1,trivial⟩
end
noncomputable def cE(r:Addr):List Value:=(jH r)
noncomputable def cD(r:Addr):List Value:=(jC r)
def I4(P:Params)(fr:List DictEntry):Prop:=∃u4 u5 u6 u7 u8 v4 v5 v6 v7 v8,fr=[aa P my u4 v4,aa P iJ u5 v5,aa P iX u6 v6,aa P DN u7 v7,aa P DS u8 v8]
noncomputable def i6(P:Params)(aF c1 aI aV aO B:Nat)(u1 u2 u3 tB:Tok)(vs:Array Value)(epV:Nat)(fr:List DictEntry)(bR:Nat)(vc:Option Value)(k m:Nat)(t140 t147:List Value)(pts:Array Value)(epO:Nat):ae:=
 [(140,bD t140),(147,bD t147),(A aF,ah "frame" ([aa P gF u1 (Yp aV),aa P eM u2 (cr B tB),aa P Yq u3 (Yp aO)]++fr) bR),(i7 c1 vc),(C3 aI k m),(Yk aV vs epV),(Yk aO pts epO)]
def aj(vs:Array Value)(l:List Int):Prop:=vs.size=l.length/\∀(i:Nat) (v:Int),l[i]? =some v->∃t,vs[i]? =some (b8 v t)
noncomputable def a8(B:Nat):Nat->List Int->List (Int×Int)
 |_,[]=>[]
 |k,v::l=>if v=0 then a8 B (k+1) l else(Int.ofNat k,ir B v)::a8 B (k+1) l
theorem bJ(m:Nat):(Int.ofNat (Nat.succ m)-1)=Int.ofNat m:=by show((m+1:Nat):Int)-1=((m:Nat):Int);lia
theorem ft{vs:Array Value}{k:Nat}{v:Value}(h:vs[k]? =some v):(seqIndex? (Int.ofNat k) vs.size).bind (fun j=>vs[j]?)=some v:=by
 have hlt:=(Array.getElem?_eq_some_iff.mp h).1
 rw [fW (n:=vs.size) hlt]
 exact h
def SH(P:Params)(fr:List DictEntry)(bR k:Nat):Prop:=(fr=[]/\bR=3/\k % 2=0)\/(I4 P fr/\bR=8)
theorem tI(W:WW)(vD:FD)(aF c1 aI aV aO B:Nat)(u1 u2 u3 tB:Tok)(vs:Array Value)(epV:Nat)(fr:List DictEntry)(bR k m:Nat)(vc:Option Value)(t140 t147:List Value)(pts:Array Value)(epO:Nat)(v:Int)(tv:Tok)(p0:Pos)(s:Shared)(hfr:SH (pW W) fr bR k)(hk:k<=100)(hgv:(zD k vs).bind (fun j=>vs[j]?)=some (b8 v tv))(hv0:v≠0)(hB:B=2\/B=3)(hL:v.natAbs<2^20)(htab:t140=[]/\t147=[]\/∃r1 r2,t140=(jH r1)/\t147=(jC r2))(hsz:pts.size<=1000)(hP:az (pW W) (i6 (pW W) aF c1 aI aV aO B u1 u2 u3 tB vs epV fr bR vc k (m+1) t140 t147 pts epO) s){Q:Prop}(kQ:∀s1 fr' wc r1 r2 nt ep ta tz,br (Yt W) ⟨fj (pW W) aF c1 aI,none,none,(xk vD),none⟩ p0 s s1->I4 (pW W) fr'->az (pW W) (i6 (pW W) aF c1 aI aV aO B u1 u2 u3 tB vs epV fr' 8 wc (k+1) m (cE r1) (cD r2) (pts.push (Yp nt)) ep) s1->af (i6 (pW W) aF c1 aI aV aO B u1 u2 u3 tB vs epV fr bR vc k (m+1) t140 t147 pts epO) s s1->s1.heap.get? (A nt)=some (a9 [.int (Yh k) ta,.int (ir B v) tz] 0)->s.heap.objs.size<=A nt->Q):Q:=by
 have hv:(v !=0)=true:=by simpa using hv0
 have hfk:bO (Yh k):=bZ (by lia)
 have hD:=Dm hB hL (by lia)
 rcases hfr with⟨rfl,rfl,hpar⟩|⟨⟨u4,u5,u6,u7,u8,v4,v5,v6,v7,v8,rfl⟩,rfl⟩
 ·apply Am (W:=W) (hfk:=hfk) (hvs:=hgv) (hv:=hv) (hpar:=hpar) (hB:=hB) (hL:=hL) (hD:=hD) (htab:=htab) (hsz:=hsz) (hE:=rfl) (hP:=hP) (p0:=p0) (m:=m) (u4:=0) (u5:=0) (u6:=0) (u7:=0) (u8:=0) (vPl:=.none) (vFi:=.none) (vLe:=.none) (vTx:=.none) (vTo:=.none) (kQ:=?k50) ..
  case' k50=>intro n tb s1 r1 r2 y4 y5 y6 y7 y8 yp w5 w6 w7 w8 wc nt ep ta tz _ _ H h4 hF K hnew
  rw [bJ] at hF
  exact kQ s1 _ wc r1 r2 nt ep ta tz H ⟨y4,y5,y6,y7,y8,_,w5,w6,w7,w8,rfl⟩ ⟨h4,⟨hF.1,hF.2.1,hF.2.2.1,hF.2.2.2.1,hF.2.2.2.2.1,hF.2.2.2.2.2.1,hF.2.2.2.2.2.2.1,trivial⟩,hP.nd,hP.lo⟩ K hF.2.2.2.2.2.2.2.1 hnew
 ·rcases Nat.mod_two_eq_zero_or_one k with hpar|hpar
  ·apply yM (hz:=(.inl ⟨rfl,rfl,rfl⟩)) (W:=W) (hfk:=hfk) (hvs:=hgv) (hv:=hv) (hpar:=hpar) (hB:=hB) (hL:=hL) (hD:=hD) (htab:=htab) (hsz:=hsz) (hE:=rfl) (hP:=hP) (p0:=p0) (m:=m) (kQ:=?k51) ..
   case' k51=>intro n tb s1 r1 r2 y4 y5 y6 y7 y8 yp w5 w6 w7 w8 wc nt ep ta tz _ _ H h4 hF K hnew
   rw [bJ] at hF
   exact kQ s1 _ wc r1 r2 nt ep ta tz H ⟨y4,y5,y6,y7,y8,_,w5,w6,w7,w8,rfl⟩ ⟨h4,⟨hF.1,hF.2.1,hF.2.2.1,hF.2.2.2.1,hF.2.2.2.2.1,hF.2.2.2.2.2.1,hF.2.2.2.2.2.2.1,trivial⟩,hP.nd,hP.lo⟩ K hF.2.2.2.2.2.2.2.1 hnew
  ·apply yM (hz:=(.inr ⟨rfl,rfl,rfl⟩)) (W:=W) (hfk:=hfk) (hvs:=hgv) (hv:=hv) (hpar:=hpar) (hB:=hB) (hL:=hL) (hD:=hD) (htab:=htab) (hsz:=hsz) (hE:=rfl) (hP:=hP) (p0:=p0) (m:=m) (kQ:=?k52) ..
   case' k52=>intro n tb s1 r1 r2 y4 y5 y6 y7 y8 yp w5 w6 w7 w8 wc nt ep ta tz _ _ H h4 hF K hnew
   rw [bJ] at hF
   exact kQ s1 _ wc r1 r2 nt ep ta tz H ⟨y4,y5,y6,y7,y8,_,w5,w6,w7,w8,rfl⟩ ⟨h4,⟨hF.1,hF.2.1,hF.2.2.1,hF.2.2.2.1,hF.2.2.2.2.1,hF.2.2.2.2.2.1,hF.2.2.2.2.2.2.1,trivial⟩,hP.nd,hP.lo⟩ K hF.2.2.2.2.2.2.2.1 hnew
theorem D6{pts:Array Value}{fz:List (Nat×Obj)}{ps:List (Int×Int)}{E:ae}{n0 nt:Nat}{s:Shared}(h:aw pts fz ps)(hs:dc fz E n0 s)(hn:s.heap.objs.size<=A nt):Value.ref (A nt)∉pts.toList:=by
 intro hm
 refine gQ fun Q zQ=>?_
 obtain⟨i,hi⟩:=List.mem_iff_getElem?.mp hm
 have hi:pts[i]? =some (.ref (A nt)):=by simpa using hi
 have hlt:=(Array.getElem?_eq_some_iff.mp hi).1
 rw [h.size] at hlt
 have z:=h i
 rw [List.getElem?_eq_getElem hlt] at z
 obtain⟨a,tx,ty,et,e,hmem⟩:=z
 refine zQ ?_
 rw [hi] at e
 have:A nt=A a:=by injection e with e;injection e
 have q:=Heap.lt_size (hs _ hmem).1
 have q:A a<s.heap.objs.size:=q
 rw [<-this] at q
 exact Nat.not_lt.mpr hn q
theorem ma{pts:Array Value}{v:Value}(h:pts.toList.Nodup)(hn:v∉pts.toList):(pts.push v).toList.Nodup:=by
 rw [Array.toList_push]
 refine List.nodup_append.mpr ⟨h,by simp,fun a ha b hb e=>?_⟩
 rw [List.mem_singleton.mp hb] at e
 exact hn (e▸ha)
section
variable(W:WW)(vD:FD)(aF c1 aI aV aO B:Nat)(u1 u2 u3 tB:Tok)(vs:Array Value)(epV:Nat)(vals:List Int)(hvs:aj vs vals)(hB:B=2\/B=3)(hL:∀v∈vals,v.natAbs<2^20)(hlen:vals.length<=20)
include W vD aF c1 aI aV aO B u1 u2 u3 tB vs epV vals hvs hB hL hlen
theorem CQ:∀(rest:List Int) (k:Nat) (fr:List DictEntry) (vc:Option Value) (r1 r2:Addr) (pts:Array Value) (epO:Nat) (fzP:List dh) (ps:List cA) (n0:Nat) (p0:Pos) (s:Shared),vals.drop k=rest->I4 (pW W) fr->pts.size+rest.length<=100->az (pW W) (i6 (pW W) aF c1 aI aV aO B u1 u2 u3 tB vs epV fr 8 vc k rest.length (cE r1) (cD r2) pts epO) s->aw pts fzP ps->pts.toList.Nodup->dc fzP (i6 (pW W) aF c1 aI aV aO B u1 u2 u3 tB vs epV fr 8 vc k rest.length (cE r1) (cD r2) pts epO) n0 s->n0<=s.heap.objs.size->
  ∀Q:Prop,(∀s' fr' vc' k' r1' r2' pts' epO' fzP',Runs (Yt W) ⟨fj (pW W) aF c1 aI,none,none,(xk vD),none⟩ p0 ((Yt W).den (fj (pW W) aF c1 aI)) [] s fu s'->cN (pW W) s'->cI (i6 (pW W) aF c1 aI aV aO B u1 u2 u3 tB vs epV fr' 8 vc' k' 0 (cE r1') (cD r2') pts' epO') s'.heap->af (i6 (pW W) aF c1 aI aV aO B u1 u2 u3 tB vs epV fr 8 vc k rest.length (cE r1) (cD r2) pts epO) s s'->I4 (pW W) fr'->aw pts' fzP' (ps++a8 B k rest)->pts'.toList.Nodup->dc fzP' (i6 (pW W) aF c1 aI aV aO B u1 u2 u3 tB vs epV fr' 8 vc' k' 0 (cE r1') (cD r2') pts' epO') n0 s'->Q)->Q:=by
 intro rest0
 induction rest0 with
 |nil=>
  intro k fr vc r1 r2 pts epO fzP ps n0 p0 s hd hfr hsz hP hps hnd hst hn0 Q kQ
  have hP3:az (pW W) [(A aF,ah "frame" ([aa (pW W) gF u1 (Yp aV),aa (pW W) eM u2 (cr B tB),aa (pW W) Yq u3 (Yp aO)]++fr) 8),(i7 c1 vc),(ku aI k)] s:=hP.mid (E1:=[(140,_),(147,_)]) (E3:=[(A aV,_),(A aO,_)])
  apply Gr (W:=W) (hE:=rfl) (hP:=hP3) (p0:=p0) (kQ:=?k53) ..
  case' k53=>intro n tb s' _ _ r h1 h2 h3
  obtain⟨hr,hk⟩:=hP.mid_back (E1:=[(140,_),(147,_)]) (E3:=[(A aV,_),(A aO,_)]) h2 h3
  exact kQ s' fr vc k r1 r2 pts epO fzP r h1 hr hk hfr (by simpa [a8] using hps) hnd (hst.keep hk rfl)
 |cons v rest ih=>
  intro k fr vc r1 r2 pts epO fzP ps n0 p0 s hd hfr hsz hP hps hnd hst hn0 Q kQ
  obtain⟨hk,hd'⟩:=bw hd
  obtain⟨tv,hit⟩:=hvs.2 k v hk
  have hkl:=(List.getElem?_eq_some_iff.mp hk).1
  have hgv:=ft hit
  have hfk:bO (Yh k):=bZ (by lia)
  have hP:az (pW W) (i6 (pW W) aF c1 aI aV aO B u1 u2 u3 tB vs epV fr 8 vc k (rest.length+1) (cE r1) (cD r2) pts epO) s:=hP
  by_cases hv:v=0
  ·have hvb:(v !=0)=false:=by simpa using hv
   obtain⟨u4,u5,u6,u7,u8,v4,v5,v6,v7,v8,rfl⟩:=hfr
   apply Gc (W:=W) (hfk:=hfk) (hvs:=hgv) (hv:=hvb) (hE:=rfl) (hP:=hP) (p0:=p0) (m:=rest.length) (kQ:=?k55) ..
   case' k55=>intro n tb s1 y4 yp _ _ zp54 hP1 K
   obtain⟨p',H⟩:=zp54
   rw [bJ] at hP1
   refine ih (k+1) _ vc r1 r2 pts epO fzP ps n0 p' s1 hd' ⟨y4,u5,u6,u7,u8,_,v5,v6,v7,v8,rfl⟩ (by simp at hsz;lia) hP1 hps hnd (hst.keep K rfl) (Nat.le_trans hn0 K.size) _ fun s2 fr2 vc2 k2 r12 r22 pts2 ep2 fz2 r h1 h2 h3 h4 h5 h6 h7=>?_
   exact kQ s2 fr2 vc2 k2 r12 r22 pts2 ep2 fz2 (H _ _ r) h1 h2 (K.trans (h3.cast rfl)) h4 (by rw [a8,if_pos hv];exact h5) h6 h7
  ·refine tI W vD aF c1 aI aV aO B u1 u2 u3 tB vs epV fr 8 k rest.length vc (cE r1) (cD r2) pts epO v tv p0 s (.inr ⟨hfr,rfl⟩) (by lia) hgv hv hB (hL v (mem_of_getElem? hk)) (.inr ⟨r1,r2,rfl,rfl⟩) (by simp at hsz;lia) hP fun s1 fr1 wc r11 r21 nt ep1 ta tz zq21 hfr1 hP1 K ho hnew=>?_
   obtain⟨p',H⟩:=zq21
   refine ih (k+1) fr1 wc r11 r21 (pts.push (Yp nt)) ep1 (fzP++[(A nt,a9 [.int (Yh k) ta,.int (ir B v) tz] 0)]) (ps++[(Int.ofNat k,ir B v)]) n0 p' s1 hd' hfr1 (by rw [Array.size_push];simp at hsz;lia) hP1 (aw.push (e:=(Int.ofNat k,ir B v)) hps) (ma hnd (D6 hps hst hnew)) ((hst.keep K rfl).add hP rfl ho hnew hn0) (Nat.le_trans hn0 K.size) _ fun s2 fr2 vc2 k2 r12 r22 pts2 ep2 fz2 r h1 h2 h3 h4 h5 h6 h7=>?_
   exact kQ s2 fr2 vc2 k2 r12 r22 pts2 ep2 fz2 (H _ _ r) h1 h2 (K.trans (h3.cast rfl)) h4 (by rw [a8,if_neg hv];simpa using h5) h6 h7
structure r3 where
 fr:List DictEntry
 vc:Option Value
 k:Nat
 r1:Addr
 r2:Addr
 pts:Array Value
 ep:Nat
 fz:List (Nat×Obj)
noncomputable def rM(P:Params)(aF c1 aI aV aO B:Nat)(u1 u2 u3 tB:Tok)(vs:Array Value)(epV:Nat)(x:r3):Result×List Obj×ae:=(m8,(i6 P aF c1 aI aV aO B u1 u2 u3 tB vs epV x.fr 8 x.vc x.k 0 (cE x.r1) (cD x.r2) x.pts x.ep).map (·.2),[])
theorem un(h0:∃v,vals[0]? =some v/\v≠0)(vc:Option Value)(t140 t147:List Value)(htab:t140=[]/\t147=[]\/∃r1 r2,t140=(jH r1)/\t147=(jC r2)):
  cw (Vw W) ⟨fj (pW W) aF c1 aI,none,none,(xk vD),none⟩ (i6 (pW W) aF c1 aI aV aO B u1 u2 u3 tB vs epV [] 3 vc 0 vals.length t140 t147 ⟨[]⟩ 0) [] (rM (pW W) aF c1 aI aV aO B u1 u2 u3 tB vs epV) (fun x=>x.fz) (fun x=>aw x.pts x.fz (a8 B 0 vals)/\x.pts.toList.Nodup):=by
 intro p0 s hP _
 obtain⟨v,hv,hv0⟩:=h0
 obtain⟨rest,rfl⟩:∃rest,vals=v::rest:=by cases vals with|nil=>simp at hv|cons a r=>simp at hv;exact⟨r,by rw [hv]⟩
 obtain⟨tv,hit⟩:=hvs.2 0 v rfl
 have hP:az (pW W) (i6 (pW W) aF c1 aI aV aO B u1 u2 u3 tB vs epV [] 3 vc 0 (rest.length+1) t140 t147 ⟨[]⟩ 0) s:=hP
 refine tI W vD aF c1 aI aV aO B u1 u2 u3 tB vs epV [] 3 0 rest.length vc t140 t147 ⟨[]⟩ 0 v tv p0 s (.inl ⟨rfl,rfl,rfl⟩) (by lia) (ft hit) hv0 hB (hL v (mem_cons_self ..)) htab (zero_le _) hP fun s1 fr1 wc r11 r21 nt ep1 ta tz zq22 hfr1 hP1 K ho hnew=>?_
 obtain⟨p',H⟩:=zq22
 have hst0:dc [] (i6 (pW W) aF c1 aI aV aO B u1 u2 u3 tB vs epV [] 3 vc 0 (rest.length+1) t140 t147 ⟨[]⟩ 0) s.heap.objs.size s:=fun y hy=>nomatch hy
 have hes0:aw (⟨[]⟩:Array Value) [] []:=fun i=>by simp
 refine CQ W vD aF c1 aI aV aO B u1 u2 u3 tB vs epV (v::rest) hvs hB hL hlen rest 1 fr1 wc r11 r21 (GO nt) ep1 ([]++[(A nt,a9 [.int Yx ta,.int (ir B v) tz] 0)]) ([]++[(Int.ofNat 0,ir B v)]) s.heap.objs.size p' s1 rfl hfr1 (by rw [Array.size_push];simp at hlen⊢;lia) hP1 (aw.push (e:=(Int.ofNat 0,ir B v)) hes0) (ma (by simp) (by simp)) ((hst0.keep K rfl).add hP rfl ho hnew (Nat.le_refl _)) K.size _ fun s2 fr2 vc2 k2 r12 r22 pts2 ep2 fz2 r h1 h2 h3 h4 h5 h6 h7=>?_
 exact⟨⟨fr2,vc2,k2,r12,r22,pts2,ep2,fz2⟩,s2,H _ _ r,h1,K.trans (h3.cast rfl),⟨h2.1,h2.2.1,h2.2.2.1,h2.2.2.2.1,h2.2.2.2.2.1,h2.2.2.2.2.2.1,h2.2.2.2.2.2.2.1,trivial⟩,trivial,(fun y hy=>nomatch hy),nodup_nil,⟨by rw [a8,if_neg hv0];simpa using h5,h6⟩,fun y hy=>⟨(h7 y hy).1,(h7 y hy).2.2,by simp [rM]⟩⟩
end
abbrev Hl(a:r3)(b:Nat)(c:Array Value)(d e:Nat):=[(140,bD (cE a.r1)),(147,bD (cD a.r2)),(Yk b c d),(Nat.add (A e) 2,ab a.pts a.ep)]
abbrev G3 a b c:=(.call (.ref 219) ⟨[fC a,.int (Yh b) c],[]⟩:Code)
noncomputable abbrev G4 a b c d e f g h i j:=([(.forLoop a b c d e,f),(.func g h,i),(Y7,j)]:List (Code×Pos))
theorem nR(W:WW){d7:Nat}{d8:Nat}(hz:d7=3/\d8=2\/d7=4/\d8=3\/d7=6/\d8=5)(p0:Pos)(p4 p5 p6:Pos)(te2:Expr)(i2:Value)(bo2 e2:List Stmt)(n3 n4:Env)(f2:List Stmt)(aV B:Nat)(tB:Tok)(t140 t147:List Value)(vs:Array Value)(epV:Nat)(vals:List Int)(s:Shared)(hvs:aj vs vals)(hlen:vals.length=d7)(hB:B=2\/B=3)(hL:∀v∈vals,v.natAbs<2^20)(h0:∃v,vals[0]? =some v/\v≠0)(htab:t140=[]/\t147=[]\/∃r1 r2,t140=(jH r1)/\t147=(jC r2))(E:WW->ae)(hE:E=fun W=>(Dv t140 t147 aV vs epV))(hP:az (pW W) (E W) s):
  ∃(n tb:Nat) (s':Shared) (x0:r3),s.heap.objs.size=A n/\s.toks=TK tb/\(aw x0.pts x0.fz (a8 B 0 vals)/\x0.pts.toList.Nodup)/\Runs (Yt W) (⟨G3 aV B tB,none,none,(G4 te2 i2 bo2 e2 n3 p4 f2 n4 p5 p6),none⟩) p0 ((Yt W).den (.call (.ref 219) ⟨[fC aV,.int (Yh B) tB],[]⟩)) [] s (.ret (.ok (.ret (dY n 2)))) s'/\cN (pW W) s'/\cI ((Hl x0 aV vs epV n)) s'.heap/\af (E W) s s'/\(∀x∈(([]++x0.fz):ae),s'.heap.get? x.1=some x.2/\x.1∉((Hl x0 aV vs epV n):ae).map (·.1)/\s.heap.objs.size<=x.1):=by
 obtain⟨n,tb,gb,hn,ht,hg⟩:=hP.nt
 refine H6 (fz:=[]) hE hP hn ht hg (fun E W Z hs=>cm (ei (Vw W) 3 [(gT 2 d8)] [] [AC (Vw W) (⟨fj (pW W) (cT n) (dE n) (bK n 4),none,none,(.func (be (gW (pW W))) (bj (pW W) (cT n) (dE n)),⟨117,17,117,33⟩)::(G4 te2 i2 bo2 e2 n3 p4 f2 n4 p5 p6),none⟩) (i6 (pW W) (cT n) (dE n) (bK n 4) aV (bK n 2) B (TK tb) (Y8 tb 1) (Y8 tb 2) tB vs epV [] 3 none 0 d7 t140 t147 ⟨[]⟩ 0) [0,1,3,4,7,2,5] 3 3 (rM (pW W) (cT n) (dE n) (bK n 4) aV (bK n 2) B (TK tb) (Y8 tb 1) (Y8 tb 2) tB vs epV) (fun x:r3=>x.fz) (fun x:r3=>aw x.pts x.fz (a8 B 0 vals)/\x.pts.toList.Nodup)] []) 119 (⟨G3 aV B tB,none,none,(G4 te2 i2 bo2 e2 n3 p4 f2 n4 p5 p6),none⟩) (p0) (aQ (.call (.ref 219) ⟨[fC aV,.int (Yh B) tB],[]⟩)) [] hs (cO E n tb gb) (sI [0,1,2,5] Z)) (fun E W Z hs=>ad (lE E) (A n) gb (sl hs 0 14) (((Rf (.builtin "len" ⟨[(Yp aV)],[]⟩:Code))/\(Hd/\((((vs.size):(Nat))=d7)/\Yc)))/\ad (lE E) (A n) gb (sl hs 15 11) ((Rf (⟨fj (pW W) (cT n) (dE n) (bK n 4),none,none,(.func (be (gW (pW W))) (bj (pW W) (cT n) (dE n)),⟨117,17,117,33⟩)::(G4 te2 i2 bo2 e2 n3 p4 f2 n4 p5 p6),none⟩:Ctx))/\(Rf (ax ((i6 (pW W) (cT n) (dE n) (bK n 4) aV (bK n 2) B (TK tb) (Y8 tb 1) (Y8 tb 2) tB vs epV [] 3 none 0 d7 t140 t147 ⟨[]⟩ 0))))/\Yc/\Yc/\∀(x0:r3) (n0 tb0 gb0:Nat),(aw x0.pts x0.fz (a8 B 0 vals)/\x0.pts.toList.Nodup)/\eR [] x0.fz->Yc/\ad [140,147,(A aV),(Y2 n 0),(Y2 n 1),(Y2 n 2),(Y2 n 3),(Y2 n 4)] (A n0) gb0 (sl hs 27 1) (Z (.fin (.ret (.ok (.ret (dY n 2))))) (Y2 n0 0) (Y8 tb0 0) true (ax ((Hl x0 aV vs epV n))) (([]++x0.fz)))))) (fun _=>(gE [0,0,40004,0,4,4,40000,4,4000,100007,8,1000,4])) (by rcases hz with h|h|h<;>apply D8 h<;>exact iY (by kernel_rfl)) rfl ⟨fun _=>gY,trivial⟩ ⟨oR (fz:=[]) rfl (by have h:=un W ⟨⟨117,17,117,33⟩,p4,p5,p6,te2,i2,bo2,e2,(bj (pW W) (cT n) (dE n)),n3,n4,(be (gW (pW W))),f2⟩ (cT n) (dE n) (bK n 4) aV (bK n 2) B (TK tb) (Y8 tb 1) (Y8 tb 2) tB vs epV vals hvs hB hL (by lia) h0 none t140 t147 htab;rw [hlen] at h;exact h) (fun x h=>nomatch h),trivial⟩ rfl (fun x hx=>nomatch hx) fun hs=>?_
 refine rI ⟨rfl,rfl,(by rw [hvs.1,hlen]:vs.size=d7),rfl⟩ ?_
 refine ag ⟨rfl,rfl,rfl,rfl,fun x0 n0 tb0 gb0 hx0=>⟨rfl,?_⟩⟩ _
 exact rF fun s' r _ h3 h4 h5 h6=>⟨n,tb,s',x0,hn,ht,hx0.1,(by rw [bI];exact r),h4,ai h3,h5,h6⟩
abbrev JO a:=[df a 1,df a 2,df a 3,df a 4]
theorem HJ(W:WW)(p0:Pos)(vC:FC)(aP:Nat)(pts:Array Value)(epP:Nat)(q0:Int×Int)(ql:List cA)(fz:List dh)(s:Shared)(hps:aw pts fz (q0::ql))(hl:ql≠[])(hl5:ql.length<=5)(hnd:pts.toList.Nodup)(hok:fa (q0::ql))(E:WW->ae)(hE:E=fun W=>[(Yk aP pts epP)])(hP:az (pW W) (E W) s)(hfz:cH fz (E W) s){Q:Prop}(kQ:∀(n tb:Nat) (s':Shared) (x0:wY),Hn s n->Ht s tb->(aw x0.eds x0.fz x0.es/\eH q0 ql x0.es/\x0.eds.size<=50)->Runs (Yt W) (⟨G6 aP 231,none,none,(Dy vC),none⟩) p0 ((Yt W).den (.call (.ref 231) (oX aP))) [] s (.ret (.ok (.ret (dY n 5)))) s'->cN (pW W) s'->cI ([(Yk aP pts epP),(Nat.add (A n) 5,ab x0.eds x0.epE)]) s'.heap->af (E W) s s'->(∀x∈([]++x0.fz),s'.heap.get? x.1=some x.2/\x.1∉([(Yk aP pts epP),(Nat.add (A n) 5,ab x0.eds x0.epE)]:ae).map (·.1)/\s.heap.objs.size<=x.1)->Q):Q:=by
 obtain⟨n,tb,gb,hn,ht,hg⟩:=hP.nt
 refine H6 hE hP hn ht hg (fun E W Z hs=>cm (fg (Vw W) 1 [] [] [AC (Vw W) (⟨fi (pW W) (bh (ak (pW W)) (A (cT n)) 231 (JO n)),none,none,(gL (ak (pW W)) (A (cT n)) 231 (JO n),⟨136,4,142,21⟩)::(Dy vC),none⟩) (eS (pW W) (cT n) (dE n) (bK n 2) (bK n 3) (bK n 4) aP (bK n 5) (TK tb) [] 1 0 (Y8 tb 1) none none pts epP ⟨[]⟩ 0) [1,2,3,4,5,0,6] 1 1 (rx (pW W) (cT n) (dE n) (bK n 2) (bK n 3) (bK n 4) aP (bK n 5) (TK tb) pts epP) (fun x:wY=>x.fz) (fun x:wY=>aw x.eds x.fz x.es/\eH q0 ql x.es/\x.eds.size<=50)] [] fz) 76 (⟨G6 aP 231,none,none,(Dy vC),none⟩) (p0) (G7 aP 231) [] hs (cO E n tb gb) (sI [0,6] Z)) (fun E W Z hs=>ad (lE E) (A n) gb (sl hs 0 9) ((Rf (⟨fi (pW W) (bh (ak (pW W)) (A (cT n)) 231 (JO n)),none,none,(gL (ak (pW W)) (A (cT n)) 231 (JO n),⟨136,4,142,21⟩)::(Dy vC),none⟩:Ctx))/\(Rf (ax ((eS (pW W) (cT n) (dE n) (bK n 2) (bK n 3) (bK n 4) aP (bK n 5) (TK tb) [] 1 0 (Y8 tb 1) none none pts epP ⟨[]⟩ 0))))/\Yc/\Yc/\∀(x0:wY) (n0 tb0 gb0:Nat),(aw x0.eds x0.fz x0.es/\eH q0 ql x0.es/\x0.eds.size<=50)/\eR [] x0.fz->Yc/\ad [(A aP),(Y2 n 0),(Y2 n 1),(Y2 n 2),(Y2 n 3),(Y2 n 4),(Y2 n 5)] (A n0) gb0 (sl hs 10 1) (Z (.fin (.ret (.ok (.ret (dY n 5))))) (Y2 n0 0) (Y8 tb0 0) true (ax ([(Yk aP pts epP),(Nat.add (A n) 5,ab x0.eds x0.epE)])) (([]++x0.fz))))) (fun W=>[0,0,3,3,0,2,2,4,4,1000,2]) (pD (by kernel_rfl)) rfl trivial ⟨oR rfl (uQ W ⟨136,4,142,21⟩ vC (cT n) (dE n) (bK n 2) (bK n 3) (bK n 4) aP (bK n 5) (TK tb) pts epP fz q0 ql hps hl hl5 hnd hok (Y8 tb 1)) (fun x h=>h),trivial⟩ rfl hfz fun hs=>?_
 refine ag ⟨rfl,rfl,rfl,rfl,fun x0 n0 tb0 gb0 hx0=>⟨rfl,?_⟩⟩ _
 exact rF fun s' r _ h3 h4 h5 h6=>kQ n tb s' x0 hn ht hx0.1 (by rw [bI];exact r) h4 (ai h3) h5 h6
noncomputable def kn(P:Params)(i:Nat):Stmt:=fE (be (dB P)) i
noncomputable def bo(P:Params)(aF c1 c2:Nat):Env:=bh (dB P) (A aF) 243 [A c1,A c2]
noncomputable def fM(P:Params):Expr:=mB (kn P 1)
noncomputable def fm(P:Params)(aF c1 c2 it:Nat):Code:=gv (kn P 4) (A it) (bo P aF c1 c2)
noncomputable def vX(P:Params):Expr:=mB (kn P 6)
noncomputable def kh(P:Params)(aF c1 c2 it:Nat):Code:=gv (kn P 8) (A it) (bo P aF c1 c2)
noncomputable def FV:Stmt->Expr
 |.For _ i _ _ _=>i
 |_=>.Constant .none 0 default
noncomputable def eB(P:Params):Expr:=mD (FV (kn P 10))
noncomputable def fA(P:Params)(aF c1 c2 it:Nat):Code:=gv (kn P 10) (A it) (bo P aF c1 c2)
noncomputable def Gj:Expr->Expr
 |.Compare l _ _ _=>l
 |e=>e
noncomputable def Hq:Stmt->Expr
 |.Return (some e) _=>e
 |_=>.Constant .none 0 default
noncomputable def gr(P:Params):Expr:=Gj (Hq (kn P 11))
noncomputable def oh(i:Nat):bF:=fun Γ c st=>match st.T.get i with
 |some ⟨cl,_,.seq items _,_⟩=>(c=.builtin "len" ⟨[.ref (bm st.L st.n i)],[]⟩/\cl=.type "list"/\items.size<=1000,.fresh fun _=>.fresh fun t=>ret (.int (Int.ofNat items.size) t))
 |_=>(False,unsupported "")
theorem rY{V:XV}{pr:Program}{w:World}{i:Nat}:bE V (model pr w) (oh i):=by
 intro h0 d os Γ c st s p r s' hc hΓ R H
 unfold oh at hc H
 split at hc
 ·rename_i cl dd items n sl e1
  obtain⟨rfl,rfl,hb⟩:=hc
  simp only [e1] at H
  obtain⟨rfl,rfl⟩:=cK H
  have ha:=jh R e1
  refine dH PySem.entry_len (by rw [hΓ];rfl) ?_
  refine wpAny_mono (wpAny_len_body_list (items:=items) (Q:=fun r' s''=>r'=.int (Int.ofNat items.size) (s.toks+1)/\s''={s with toks:=s.toks+1+1}) ⟨_,ha,rfl,_,rfl⟩ (by lia) ⟨rfl,rfl⟩) (fun fin s'' h=>?_) (fun _ _ h=>h)
  obtain⟨r',rfl,rfl,rfl⟩:=h
  exact⟨rfl,rfl⟩
 ·exact hc.elim
noncomputable def cutL(items:Array Value)(lo hi:Option Int):List Value:=(slicePick items lo hi none).toList
noncomputable def fX(i j:Nat):bF:=fun Γ c st=>wA (st.T.get i) nO fun _ _ items _ _=>Ox (st.T.get j) nO fun _ vl vu _=>gI i j ⟨cutL items (bV vl) (bV vu)⟩ Γ c st
theorem eL{V:XV}{pr:Program}{w:World}{i j:Nat}:bE V (model pr w) (fX i j):=
 dT fun hΓ R=>eZ fZ fun _ _ _ _ _ _=>ya fZ fun _ _ _ _ _ _ _ hc H=>jZ _ _ _ _ _ _ _ _ _ _ hc hΓ R H
noncomputable def ko(i j:Nat):bF:=fun Γ c st=>match st.T.get i,st.T.get j with
 |some ⟨cl,dd,.seq items n,sl⟩,some ⟨cl',dd',.seq items2 n2,sl'⟩=>
  (c=.builtin "list.__add__" ⟨[.ref (bm st.L st.n i),.ref (bm st.L st.n j)],[]⟩/\(cl=.type "list"/\dd=none/\sl=⟨[]⟩)/\(cl'=.type "list"/\dd'=none/\sl'=⟨[]⟩)/\items.size+items2.size<=1000,.alloc ⟨.type "list",none,.seq ⟨items.toList++items2.toList⟩ 0, #[]⟩ fun a=>ret (.ref a))
 |_,_=>(False,unsupported "")
theorem lc{V:XV}{pr:Program}{w:World}{i j:Nat}:bE V (model pr w) (ko i j):=by
 intro h0 d os Γ c st s p r s' hc hΓ R H
 unfold ko at hc H
 split at hc
 ·rename_i cl dd items n sl cl' dd' items2 n2 sl' e1 e2
  obtain⟨rfl,⟨rfl,rfl,rfl⟩,⟨rfl,rfl,rfl⟩,hb⟩:=hc
  simp only [e1,e2] at H
  obtain⟨rfl,rfl⟩:=cK H
  rw [bg PySem.F.entry_list_add]
  rw [show(⟨items.toList++items2.toList⟩:Array Value)=items++items2 from Array.ext' (by simp)]
  exact bv (PySem.AutoSeq1.list___add___list_list_0 _ items n _ items2 n2 (by rw [sizeLine_eq];lia)) (by rw [hΓ];rfl) ⟨jh R e1,jh R e2,rfl,rfl⟩
 ·exact hc.elim
noncomputable def lx(i j:Nat):bF:=fun Γ c st=>match st.T.get i,st.T.get j with
 |some ⟨cl,dd,.seq items n,sl⟩,some ⟨cl',dd',.seq items2 n2,sl'⟩=>
  (c=.builtin "list.__eq__" ⟨[.ref (bm st.L st.n i),.ref (bm st.L st.n j)],[]⟩/\(cl=.type "list"/\dd=none/\sl=⟨[]⟩)/\(cl'=.type "list"/\dd'=none/\sl'=⟨[]⟩)/\(items.size !=items2.size)=true,ret (.bool false))
 |_,_=>(False,unsupported "")
theorem qf{V:XV}{pr:Program}{w:World}{i j:Nat}:bE V (model pr w) (lx i j):=by
 intro h0 d os Γ c st s p r s' hc hΓ R H
 unfold lx at hc H
 split at hc
 ·rename_i cl dd items n sl cl' dd' items2 n2 sl' e1 e2
  obtain⟨rfl,⟨rfl,rfl,rfl⟩,⟨rfl,rfl,rfl⟩,hb⟩:=hc
  simp only [e1,e2] at H
  obtain⟨rfl,rfl⟩:=fV H
  rw [bg PySem.F.entry_list_eq]
  exact bv (PySem.AutoSeq1.list___eq___list_list_0 _ items n _ items2 n2 hb) (by rw [hΓ];rfl) ⟨jh R e1,jh R e2,rfl,rfl⟩
 ·exact hc.elim
theorem nr{v:Int}{t u:Tok}{l}:av (.builtin "int.__mod__" ⟨[.int v t,.int (Int.ofNat 1000000) u],[]⟩) l (.int (Int.ofNat (v % 1000000).toNat)):=by
 refine av.mk PySem.F.entry_int_mod ?_ trivial
 have e:v.fmod (Int.ofNat 1000000)=Int.ofNat (v % 1000000).toNat:=by
  rw [Int.fmod_eq_emod_of_nonneg _ (by decide)]
  show v % 1000000=((v % 1000000).toNat:Int)
  lia
 rw [<-e];exact PySem.AutoIntG6.int___mod___int_int_1 v t (Int.ofNat 1000000) u (by decide)
noncomputable abbrev c6(a:FE):List nW:=[(.func a.f2 a.n4,a.p5),(Y7,a.p6)]
theorem yR(W:WW)(b7:Bool)(p0:Pos)(vE:FE)(aF c1 c2 aL aI aC aG:Nat)(uF tf:Tok)(vF:Value)(v:Int)(k:Nat)(gs as:Array Value)(epG epA:Nat)(s:Shared)(hit:gs[(Yh k).toNat]? =some (b8 v tf))(hsz:as.size<=1000)(E:WW->ae)(hE:E=fun W=>[(A aL,ah "dict" (cond b7 [] [aa (pW W) [120] uF vF]) (cond b7 0 1)),(Y5 aI aG k),(Yk aG gs epG),(Yk aC as epA)])(hP:az (pW W) (E W) s){Q:Prop}(kQ:∀(n tb:Nat) (s':Shared) (y:Tok) (t:Tok) (ep:Nat),Hn s n->Ht s tb->br (Yt W) (⟨ao (fM (pW W)) (bo (pW W) aF c1 c2) aL aI aC,none,none,(c6 vE),none⟩) p0 s s'->az (pW W) ([(A aL,ah "dict" [aa (pW W) [120] y (b8 v tf)] 1),(vp aI aG k),(Yk aG gs epG),(A aC,ab (as.push (.int (Int.ofNat (v % 1000000).toNat) t)) ep)]) s'->af (E W) s s'->Q):Q:=by
 obtain⟨n,tb,gb,hn,ht,hg⟩:=hP.nt
 refine bT hE hP hn ht hg (fun E W Z hs=>cm (ei (Vw W) 4 [(bG 1 2 (b8 v tf)),(f7 [] (.int (Int.ofNat (v % 1000000).toNat))),(cf 3)] [] [] []) 69 (⟨ao (fM (pW W)) (bo (pW W) aF c1 c2) aL aI aC,none,none,(c6 vE),none⟩) (p0) (aQ (ao (fM (pW W)) (bo (pW W) aF c1 c2) aL aI aC)) [] hs (cO E n tb gb) (m4 Z)) (fun E W Z hs=>ad (lE E) (A n) gb (sl hs 0 2) (((Yo aI)/\((zv aG)/\(((yY gs k):i8)=(some (iU v tf)))))/\ad (lE E) (A n) gb (sl hs 3 5) ((av (.builtin "int.__mod__" ⟨[(iU v tf),(CJ tb 1000000 1)],[]⟩) [] (Made.int (Int.ofNat (v % 1000000).toNat))/\Yc)/\ad (lE E) (A n) gb (sl hs 9 1) (((Rf (.builtin "list.append" ⟨[(Yp aC),(.int (Int.ofNat ((v % 1000000).toNat)) (Y8 tb 2))],[]⟩:Code))/\(rE as))/\ad (lE E) (A n) gb (sl hs 11 1) (Z (.again (ao (fM (pW W)) (bo (pW W) aF c1 c2) aL aI aC)) (Y2 n 0) (Y8 tb 3) true (ax ([(A aL,ah "dict" [aa (pW W) [120] (cond b7 (TK tb) uF) (b8 v tf)] 1),(lS aI aG k),(Yk aG gs epG),(A aC,Obj.mapSeq (·.push (.int (Int.ofNat (v % 1000000).toNat) (Y8 tb 2))) (ab as epA))]))))))) (fun _=>[2,2,4000,2,2,1,1,1,4001,4,4002,4,3000]) (by apply iW b7<;>exact oW (by kernel_rfl)) rfl ⟨fun _=>bi,fun _=>au,fun _=>bx,trivial⟩ trivial rfl fun hs=>?_
 refine rI ⟨rfl,rfl,hit⟩ ?_
 refine rI ⟨nr,rfl⟩ ?_
 refine rI ⟨rfl,⟨rfl,rfl,rfl⟩,hsz⟩ ?_
 exact rF fun s' r _ h3 h4 h5=>kQ n tb s' _ _ _ hn ht (am rfl r) ⟨h4,ai h3,(nx hE hP).nd,(nx hE hP).lo⟩ h5
theorem Ey(W:WW)(p0:Pos)(vE:FE)(aF c1 c2 aL aI aC aG:Nat)(loc:List DictEntry)(k el:Nat)(gs as:Array Value)(epG epA:Nat)(s:Shared)(hit:gs[(Yh k).toNat]? =none)(E:WW->ae)(hE:E=fun W=>[(mh aL loc el),(Y5 aI aG k),(Yk aG gs epG),(Yk aC as epA)])(hP:az (pW W) (E W) s){Q:Prop}(kQ:∀(n tb:Nat) (s':Shared),Hn s n->Ht s tb->Runs (Yt W) (⟨ao (fM (pW W)) (bo (pW W) aF c1 c2) aL aI aC,none,none,(c6 vE),none⟩) p0 ((Yt W).den (ao (fM (pW W)) (bo (pW W) aF c1 c2) aL aI aC)) [] s fu s'->cN (pW W) s'->cI (Dr aL loc el aI k aG gs epG aC as epA) s'.heap->af (E W) s s'->Q):Q:=by
 obtain⟨n,tb,gb,hn,ht,hg⟩:=hP.nt
 refine bT hE hP hn ht hg (fun E W Z hs=>cm (vd W 4 1 2) 53 (⟨ao (fM (pW W)) (bo (pW W) aF c1 c2) aL aI aC,none,none,(c6 vE),none⟩) (p0) (aQ (ao (fM (pW W)) (bo (pW W) aF c1 c2) aL aI aC)) [] hs (cO E n tb gb) (m4 Z)) (fun E W Z hs=>ad (lE E) (A n) gb (sl hs 0 2) ((vR aI aG gs k)/\ad (lE E) (A n) gb (sl hs 3 3) (Z (.fin fu) (Y2 n 2) (Y8 tb 0) true (ax ((GY aL loc el aI k aG gs epG aC as epA)))))) (fun _=>[2,2,4000,2,2,6]) (oW (by kernel_rfl)) rfl ⟨fun _=>cg,trivial⟩ trivial rfl fun hs=>?_
 refine rI ⟨rfl,rfl,hit⟩ ?_
 exact rF fun s' r _ h3 h4 h5=>kQ n tb s' hn ht (by rw [bI];exact r) h4 (ai h3) h5
theorem GG(W:WW)(p0:Pos)(vE:FE)(aF c1 c2 aL aI aC aG:Nat)(gs:Array Value)(epG:Nat)(s:Shared)(E:WW->ae)(hE:E=fun W=>(Y9 aL aI aG gs epG aC))(hP:az (pW W) (E W) s){Q:Prop}(kQ:∀(n tb:Nat) (s':Shared),Hn s n->Ht s tb->cu (Yt W) (⟨ay (ao (fM (pW W)) (bo (pW W) aF c1 c2) aL aI aC),none,none,(c6 vE),none⟩) (ao (fM (pW W)) (bo (pW W) aF c1 c2) aL aI aC) p0 s s'->az (pW W) ((Y9 aL aI aG gs epG aC)) s'->af (E W) s s'->Q):Q:=by
 obtain⟨n,tb,gb,hn,ht,hg⟩:=hP.nt
 refine bT hE hP hn ht hg (fun E W Z hs=>cm (oZ W 4) 52 (⟨ay (ao (fM (pW W)) (bo (pW W) aF c1 c2) aL aI aC),none,none,(c6 vE),none⟩) (p0) (aQ (ay (ao (fM (pW W)) (bo (pW W) aF c1 c2) aL aI aC))) [] hs (cO E n tb gb) (m4 Z)) (fun E W Z hs=>ad (lE E) (A n) gb (zt hs W) (Z (.again (ao (fM (pW W)) (bo (pW W) aF c1 c2) aL aI aC)) (Y2 n 0) (Y8 tb 0) true (ax ((Y9 aL aI aG gs epG aC))))) zE (pD (by kernel_rfl)) rfl trivial (by exact trivial) rfl fun hs=>?_
 exact rF fun s' r _ h3 h4 h5=>kQ n tb s' hn ht (ch r) ⟨h4,ai h3,(nx hE hP).nd,(nx hE hP).lo⟩ h5
noncomputable def fK(v:Int):Nat:=(v % 1000000).toNat
theorem aj.getV{vs:Array Value}{l:List Int}(h:aj vs l){k:Nat}{v:Int}(e:l[k]? =some v):∃t,vs[(Int.ofNat k).toNat]? =some (.int v t):=h.2 k v e
theorem aj.noneV{vs:Array Value}{l:List Int}(h:aj vs l){k:Nat}(e:l.drop k=[]):vs[(Int.ofNat k).toNat]? =none:=
 Array.getElem?_eq_none (by rw [h.1];exact List.drop_eq_nil_iff.mp e)
section
variable(W:WW)(vE:FE)(aF c1 c2 aL aI aC aG:Nat)(gs:Array Value)(epG:Nat)(xs:List Int)(hgs:aj gs xs)
include W vE aF c1 c2 aL aI aC aG gs epG xs hgs
theorem BV:∀(rest:List Int) (k:Nat) (pre:List Nat) (as:Array Value) (ep:Nat) (uF:Tok) (vF:Value) (p0:Pos) (s:Shared),xs.drop k=rest->aZ as pre->as.size+rest.length<=1000->az (pW W) [(A aL,ah "dict" [aa (pW W) [120] uF vF] 1),(Y5 aI aG k),(Yk aG gs epG),(Yk aC as ep)] s->
  ∀Q:Prop,(∀s' uF' vF' k' ep' as',Runs (Yt W) ⟨ao (fM (pW W)) (bo (pW W) aF c1 c2) aL aI aC,none,none,(c6 vE),none⟩ p0 ((Yt W).den (ao (fM (pW W)) (bo (pW W) aF c1 c2) aL aI aC)) [] s fu s'->cN (pW W) s'->cI [(A aL,ah "dict" [aa (pW W) [120] uF' vF'] 1),(kc aI k'),(Yk aG gs epG),(Yk aC as' ep')] s'.heap->af [(A aL,ah "dict" [aa (pW W) [120] uF vF] 1),(Y5 aI aG k),(Yk aG gs epG),(Yk aC as ep)] s s'->aZ as' (pre++rest.map fK)->Q)->Q:=by
 intro rest0
 induction rest0 with
 |nil=>
  intro k pre as ep uF vF p0 s hd hls hsz hP Q kQ
  apply Ey (W:=W) (hit:=hgs.noneV hd) (hE:=rfl) (hP:=hP) (p0:=p0) (kQ:=?k56) ..
  case' k56=>intro n tb s' _ _ r h1 h2 h3
  exact kQ s' uF vF k ep as r h1 h2 h3 (by simpa using hls)
 |cons q rest ih=>
  intro k pre as ep uF vF p0 s hd hls hsz hP Q kQ
  obtain⟨hk,hd'⟩:=bw hd
  obtain⟨tf,hit⟩:=hgs.getV hk
  apply yR (b7:=false) (W:=W) (hit:=hit) (hsz:=by simp at hsz;lia) (hE:=rfl) (hP:=hP) (p0:=p0) (kQ:=?k58) ..
  case' k58=>intro n tb s1 y t ep1 _ _ zp57 hP1 K1
  obtain⟨p',H⟩:=zp57
  refine ih (k+1) (pre++[fK q]) _ ep1 y _ p' s1 hd' (aZ.push hls) (by simp at hsz⊢;lia) hP1 _ fun s2 u2 v2 k2 ep2 as2 r h4 h5 h6 h7=>?_
  exact kQ s2 u2 v2 k2 ep2 as2 (H _ _ r) h4 h5 (K1.trans (h6.cast rfl)) (by simpa using h7)
structure NN where
 u:Tok
 v:Value
 k:Nat
 ep:Nat
 ls:Array Value
noncomputable def D5(W:WW)(vE:FE)(aF c1 c2 aL aI aC aG:Nat)(gs:Array Value)(epG:Nat)(x:NN):Result×List Obj×ae:=(m8,([(A aL,ah "dict" [aa (pW W) [120] x.u x.v] 1),(A aI,aK "list_iterator" [.none,.int (Int.ofNat x.k) 0]),(Yk aG gs epG),(A aC,ab x.ls x.ep)]:ae).map (·.2),[])
theorem ve(hne:xs≠[])(hlen:xs.length<=900):
  cq (Vw W) ⟨ay (ao (fM (pW W)) (bo (pW W) aF c1 c2) aL aI aC),none,none,(c6 vE),none⟩ (Y9 aL aI aG gs epG aC) (D5 W vE aF c1 c2 aL aI aC aG gs epG) (fun x=>aZ x.ls (xs.map fK)):=
 dU (C:=ao (fM (pW W)) (bo (pW W) aF c1 c2) aL aI aC) (fun p0 s hP=>by
  obtain⟨q,rest,rfl⟩:∃q rest,xs=q::rest:=by cases xs with|nil=>exact(hne rfl).elim|cons q r=>exact⟨q,r,rfl⟩
  obtain⟨tf,hit⟩:=hgs.getV (k:=0) rfl
  apply yR (b7:=true) (W:=W) (hit:=hit) (hsz:=zero_le _) (hE:=rfl) (hP:=hP) (p0:=p0) (uF:=0) (vF:=.none) (kQ:=?k60) ..
  case' k60=>intro n tb s1 y t ep1 _ _ zp59 hP1 K1
  obtain⟨p',H⟩:=zp59
  refine BV W vE aF c1 c2 aL aI aC aG gs epG (q::rest) hgs rest 1 ([]++[fK q]) _ ep1 y _ p' s1 rfl (aZ.push (⟨rfl,fun i l e=>by simp at e⟩)) (by simp at hlen⊢;lia) hP1 _ fun s2 u2 v2 k2 ep2 as2 r h4 h5 h6 h7=>?_
  exact⟨⟨u2,v2,k2,ep2,as2⟩,s2,H _ _ r,h4,K1.trans (h6.cast rfl),⟨h5.1,h5.2.1,h5.2.2.1,h5.2.2.2.1,trivial⟩,trivial,(fun y hy=>nomatch hy),nodup_nil,by simpa using h7⟩) fun p s hP=>by
  apply GG (W:=W) (p0:=p) (hE:=rfl) (hP:=hP) (kQ:=?k61) ..
  case' k61=>intro n tb s' _ _ H hP' K
  exact⟨s',H,hP',K⟩
end
structure ka where
 u:Tok
 v:Value
 k:Nat
 ep:Nat
 d0:Nat
 d1:Nat
 d2:Nat
 d3:Nat
 d4:Nat
 d5:Nat
 d6:Nat
 t0:Tok
 t1:Tok
 t2:Tok
 t3:Tok
 t4:Tok
 t5:Tok
 t6:Tok
noncomputable def sB(P:Params)(aL aI aC aG:Nat)(gs:Array Value)(epG:Nat)(x:ka):Result×List Obj×ae:=(m8,([(A aL,ah "dict" [aa P [120] x.u x.v] 1),(A aI,aK "list_iterator" [.none,.int (Int.ofNat x.k) 0]),(Yk aG gs epG),(A aC,ab ⟨[.int (Int.ofNat x.d0) x.t0,.int (Int.ofNat x.d1) x.t1,.int (Int.ofNat x.d2) x.t2,.int (Int.ofNat x.d3) x.t3,.int (Int.ofNat x.d4) x.t4,.int (Int.ofNat x.d5) x.t5,.int (Int.ofNat x.d6) x.t6]⟩ x.ep)]:ae).map (·.2),[])
def cond154(x:ka):Prop:=x.d0<1000000/\x.d1<1000000/\x.d2<1000000/\x.d3<1000000/\x.d4<1000000/\x.d5<1000000/\x.d6<1000000
theorem dW{js:List Value}{a:Nat}{l:List Nat}(h:aZ ⟨js⟩ (a::l)):∃t js',js=.int (Int.ofNat a) t::js'/\aZ ⟨js'⟩ l:=by
 cases js with
 |nil=>have:=h.1;simp at this
 |cons v js'=>
  obtain⟨t,e⟩:=h.2 0 a rfl
  have e:some v=some (Value.int (Int.ofNat a) t):=by simpa using e
  cases e
  refine⟨t,js',rfl,by have:=h.1;simpa using this,fun i j e=>?_⟩
  obtain⟨t',e'⟩:=h.2 (i+1) j (by simpa using e)
  exact⟨t',by simpa using e'⟩
theorem xn{js:List Value}(h:aZ ⟨js⟩ []):js=[]:=eq_nil_of_length_eq_zero (by simpa using h.1)
theorem fb(v:Int):fK v<1000000:=by unfold fK;lia
theorem rj{α:Type}{l:List α}{n:Nat}(h:l.length=n+1){Q:Prop}(k:∀a t,l=a::t->t.length=n->Q):Q:=by
 cases l with
 |nil=>cases h
 |cons a t=>exact k a t rfl (Nat.succ.inj h)
theorem Eh{α:Type}{l:List α}(h:l.length=7){Q:Prop}(k:∀x0 x1 x2 x3 x4 x5 x6,l=[x0,x1,x2,x3,x4,x5,x6]->Q):Q:=
 rj h fun x0 l0 e0 h0=>rj h0 fun x1 l1 e1 h1=>rj h1 fun x2 l2 e2 h2=>rj h2 fun x3 l3 e3 h3=>rj h3 fun x4 l4 e4 h4=>rj h4 fun x5 l5 e5 h5=>rj h5 fun x6 l6 e6 h6=>k x0 x1 x2 x3 x4 x5 x6 (by rw [e0,e1,e2,e3,e4,e5,e6,eq_nil_of_length_eq_zero h6])
theorem En{js:List Value}{v0 v1 v2 v3 v4 v5 v6:Nat}(h:aZ ⟨js⟩ [v0,v1,v2,v3,v4,v5,v6]){Q:Prop}(k:∀t0 t1 t2 t3 t4 t5 t6,js=[.int (Int.ofNat v0) t0,.int (Int.ofNat v1) t1,.int (Int.ofNat v2) t2,.int (Int.ofNat v3) t3,.int (Int.ofNat v4) t4,.int (Int.ofNat v5) t5,.int (Int.ofNat v6) t6]->Q):Q:=by
 obtain⟨t0,j0,e0,h0⟩:=dW h
 obtain⟨t1,j1,e1,h1⟩:=dW h0
 obtain⟨t2,j2,e2,h2⟩:=dW h1
 obtain⟨t3,j3,e3,h3⟩:=dW h2
 obtain⟨t4,j4,e4,h4⟩:=dW h3
 obtain⟨t5,j5,e5,h5⟩:=dW h4
 obtain⟨t6,j6,e6,h6⟩:=dW h5
 exact k t0 t1 t2 t3 t4 t5 t6 (by rw [e0,e1,e2,e3,e4,e5,e6,xn h6])
theorem sh(W:WW)(vE:FE)(aF c1 c2:Nat)(aL aI aC aG:Nat)(gs:Array Value)(epG:Nat)(h:∃xs,aj gs xs/\xs.length=7):
  cq (Vw W) ⟨ay (ao (fM (pW W)) (bo (pW W) aF c1 c2) aL aI aC),none,none,(c6 vE),none⟩ (Y9 aL aI aG gs epG aC) (sB (pW W) aL aI aC aG gs epG) cond154:=by
 obtain⟨xs,hx,h7⟩:=h
 refine Eh h7 fun x0 x1 x2 x3 x4 x5 x6 ex=>?_
 subst ex
 intro p s hP
 refine gQ fun Q zQ=>?_
 obtain⟨⟨u,v,k,ep,⟨js⟩⟩,s',r,rdy,K,has,hasN,newN,ndN,cx⟩:=ve W vE aF c1 c2 aL aI aC aG gs epG [x0,x1,x2,x3,x4,x5,x6] hx (by simp) (by simp) p s hP
 refine zQ ?_
 have cx:aZ ⟨js⟩ [fK x0,fK x1,fK x2,fK x3,fK x4,fK x5,fK x6]:=cx
 refine En cx fun t0 t1 t2 t3 t4 t5 t6 ex=>?_
 subst ex
 exact⟨⟨u,v,k,ep,_,_,_,_,_,_,_,t0,t1,t2,t3,t4,t5,t6⟩,s',r,rdy,K,has,hasN,newN,ndN,fb _,fb _,fb _,fb _,fb _,fb _,fb _⟩
noncomputable def Dc(W:WW)(vE:FE)(aF c1 c2:Nat)(iL iI iC iG mm ro:Nat):bM:=oP (X:=ka) (Vw W) (fun st=>∃xs,aj (fx st iG) xs/\xs.length=7) (fun st=>⟨ay (ao (fM (pW W)) (bo (pW W) aF c1 c2) (ce st iL) (ce st iI) (ce st iC)),none,none,(c6 vE),none⟩) (I7 iL iI iG iC) [iL,iI,iG,iC] mm ro (fun st=>sB (pW W) (ce st iL) (ce st iI) (ce st iC) (ce st iG) (fx st iG) (fl st iG)) (fun st=>cond154)
theorem xy(W:WW)(vE:FE)(aF c1 c2:Nat){iL iI iC iG:Nat}{V:XV}(hk:V.kt=eG (pW W)):bX V (model pw (Vw W)) (Dc W vE aF c1 c2 iL iI iC iG V.mm V.ro):=
 fp hk fun st h=>(sh W vE aF c1 c2 _ _ _ _ _ _ h).toF
def MR(i:Int):Prop:= -(2^63)<=i/\i<2^63
def dI:Int->List Int->Prop
 |_,[]=>True
 |a,b::l=>MR b/\MR (a+b)/\dI (a+b) l
noncomputable def dR:Int->List Int->Int
 |a,[]=>a
 |a,b::l=>dR (a+b) l
theorem jv{prog:Program}{w:World}{A:Around}{R:Result->Shared->Prop}{it l S:Addr}{items:Array Value}(xs:List Int)(hv:aj items xs)(h1:S≠it)(h2:S≠l)(h3:it≠l)(hh:A.in1.handled=none):
  ∀(rest:List Int) (k:Nat) (a:Int) (tA:Tok) (c:Nat) (s:Shared),xs.drop k=rest->dI a rest->s.heap.IsListIter it l k->s.heap.IsList l items->s.heap.get? S=some {cls:=.type "list",dict:=none,data:=.seq #[.int a tA] c,slots:= #[]}->
  (∀h' tk t',(∀b o,b≠it->b≠S->s.heap.get? b=some o->h'.get? b=some o)->(∃o,h'.get? S=some o)->s.toks<=tk->R (.ok (.ret (.int (dR a rest) t'))) {s with heap:=h',toks:=tk})->
  codeAny (model prog w) A (.builtin "sum.loop" ⟨[.ref it,.ref S,rawInt 0,rawInt 0],[]⟩) R s
 |[],k,a,tA,c,s,hd,hf,hit,hl,hS,hR=>by
  refine codeAny_builtin F.entry_sum_loop ?_
  rw [Around.under_plainId F.plain_sum_loop _]
  show wpAny _ A.in1 (seqItems? (.ref S)>>=_) _ _ s
  refine wpAny_bind (wpAny_seqItems hS rfl ?_)
  show wpAny _ A.in1 (tryCatch (pyNext (.ref it)) _>>=_) _ _ s
  refine wpAny_bind (wpAny_tryCatch (wpAny_pyNext_list_end hh hit hl (hv.noneV hd) fun h' hx=>?_))
  exact wpAny_pure (hR h' s.toks tA (fun b o hb _ e=>hx b o hb e) ⟨_,hx S _ h1 hS⟩ (Nat.le_refl _))
 |b::rest,k,a,tA,c,s,hd,hf,hit,hl,hS,hR=>by
  obtain⟨hk,hd'⟩:=bw hd
  obtain⟨t,hx⟩:=hv.getV hk
  obtain⟨⟨f1,f2⟩,⟨f3,f4⟩,hf'⟩:=hf
  refine codeAny_builtin F.entry_sum_loop ?_
  rw [Around.under_plainId F.plain_sum_loop _]
  show wpAny _ A.in1 (seqItems? (.ref S)>>=_) _ _ s
  refine wpAny_bind (wpAny_seqItems hS rfl ?_)
  show wpAny _ A.in1 (tryCatch (pyNext (.ref it)) _>>=_) _ _ s
  refine wpAny_bind (wpAny_tryCatch (wpAny_pyNext_list_item hit hl hx fun h' hit' hs'=>?_))
  have hS':h'.get? S=_:=(hs'.2 S h1).trans hS
  have hc:((decide (-(2^63)<=b)&&decide (b<2^63))&&(decide (-(2^63)<=a+b)&&decide (a+b<2^63)))=true:=by
   simp only [Bool.and_eq_true,decide_eq_true_eq]
   exact⟨⟨f1,f2⟩,f3,f4⟩
  show wpAny _ A.in1 (if(_:Bool)=true then(mkInt (a+b)>>=_) else _) _ _ _
  split
  ·refine wpAny_bind (wpAny_mkInt ?_)
   show wpAny _ A.in1 (updateSeq S (fun _=> #[.int (a+b) s.toks])>>=_) _ _ _
   refine wpAny_bind ?_
   have hl':h'.IsList l items:=by
    obtain⟨o,ho,q⟩:=hl
    exact⟨o,(hs'.2 l (Ne.symm h3)).trans ho,q⟩
   have hsb:Heap.SameBut S h' (h'.update S (Obj.mapSeq fun _=> #[.int (a+b) s.toks])):=Heap.SameBut.update ..
   refine wpAny_updateSeq hS' rfl (wpAny_pure ⟨plainId_quiet F.plain_sum_loop _,jv xs hv h1 h2 h3 hh rest (k+1) (a+b) s.toks _ _ hd' hf' ?_ ?_ (Heap.get?_update_self _ hS' rfl) fun h'' tk'' t'' hk'' hsz htk=>?_⟩)
   ·obtain⟨o,ho,q⟩:=hit'
    exact⟨o,(hsb.2 it (Ne.symm h1)).trans ho,q⟩
   ·obtain⟨o,ho,q⟩:=hl'
    exact⟨o,(hsb.2 l (Ne.symm h2)).trans ho,q⟩
   ·refine hR h'' tk'' t'' (fun b' o hb1 hb2 e=>hk'' b' o hb1 hb2 ((hsb.2 b' hb2).trans ((hs'.2 b' hb1).trans e))) hsz (Nat.le_of_succ_le htk)
  ·rename_i hneg
   exact absurd hc hneg
noncomputable def sV:Int->List Value->Int
 |a,[]=>a
 |a,v::l=>match v with
  |.int b _=>sV (a+b) l
  |_=>a
noncomputable def mC(items:Array Value):Int:=match items with
 |⟨l⟩=>sV 0 l
theorem qy:∀(xs:List Int) (l:List Value) (a:Int),aj ⟨l⟩ xs->sV a l=dR a xs
 |[],l,a,h=>by
  have:l=[]:=eq_nil_of_length_eq_zero (by simpa using h.1)
  subst this;rfl
 |x::xs,[],a,h=>by have:=h.1;simp at this
 |x::xs,v::l,a,h=>by
  obtain⟨t,e⟩:=h.2 0 x rfl
  have e:some v=some (Value.int x t):=by simpa using e
  cases e
  show sV (a+x) l=dR (a+x) xs
  exact qy xs l (a+x) ⟨by have:=h.1;simpa using this,fun i v e=>by
   obtain⟨t',e'⟩:=h.2 (i+1) v (by simpa using e)
   exact⟨t',by simpa using e'⟩⟩
theorem pB{items:Array Value}{xs:List Int}(h:aj items xs):mC items=dR 0 xs:=qy xs items.toList 0 h
theorem vN(W:WW)(p0:Pos)(bl:List nW)(aH:Nat)(lv:Array Value)(eph:Nat)(s:Shared)(E:WW->ae)(hE:E=fun W=>[(Yk aH lv eph)])(hP:az (pW W) (E W) s){Q:Prop}(kQ:∀(n tb:Nat) (s':Shared) (tz:Tok),Hn s n->Ht s tb->cu (Yt W) (⟨.builtin "sum" (oX aH),none,none,bl,none⟩) (.builtin "sum.loop" ⟨[.ref (A (cT n)),.ref (A (dE n)),rawInt 0,rawInt 0],[]⟩) p0 s s'->az (pW W) ([(Yk aH lv eph),(df n 0,Yf aH),(df n 1,ab ⟨[.int 0 tz]⟩ 0)]) s'->af (E W) s s'->Q):Q:=by
 obtain⟨n,tb,gb,hn,ht,hg⟩:=hP.nt
 refine bT hE hP hn ht hg (fun E W Z hs=>cm (oZ W 1) 52 (⟨.builtin "sum" (oX aH),none,none,bl,none⟩) (p0) (aQ (.builtin "sum" (oX aH))) [] hs (cO E n tb gb) (mb Z)) (fun E W Z hs=>ad (lE E) (A n) gb (sl hs 0 4) (Z (.again (.builtin "sum.loop" ⟨[.ref (A (cT n)),.ref (A (dE n)),rawInt 0,rawInt 0],[]⟩)) (Y2 n 2) (Y8 tb 1) true (ax ([(Yk aH lv eph),(df n 0,Yf aH),(df n 1,ab ⟨[.int 0 (TK tb)]⟩ 0)])))) (fun _=>[1,1,1,2,3000]) (iY (by kernel_rfl)) rfl trivial (by exact trivial) rfl fun hs=>?_
 exact rF fun s' r _ h3 h4 h5=>kQ n tb s' _ hn ht (ch r) ⟨h4,ai h3,Np (nx hE hP) hn,NU (nx hE hP)⟩ h5
theorem vK(W:WW)(bl:List (Code×Pos))(aH:Nat)(hs:Array Value)(eph:Nat)(xs:List Int)(hh:aj hs xs)(hf:dI 0 xs):
  cq (Vw W) ⟨.builtin "sum" ⟨[.ref (A aH)],[]⟩,none,none,bl,none⟩ [(A aH,ab hs eph)] (fun x:cC=>(.ok (.ret (.int (mC hs) x.t)),[ab hs eph],[])) (fun _=>True):=by
 intro p s hP
 apply vN (W:=W) (bl:=bl) (p0:=p) (hE:=rfl) (hP:=hP) (kQ:=?k63) ..
 case' k63=>intro n tb s1 tz hn ht zp62 hP1 K1
 refine gQ fun Q zQ=>?_
 obtain⟨p1,H1⟩:=zp62
 have nd:=hP1.nd
 simp only [map_cons,map_nil,List.nodup_cons,List.mem_cons,List.not_mem_nil,or_false,not_or] at nd
 have key:codeAny (model pw (Vw W)) {handled:=none,depth:=frameCount bl,units:=unitsOf bl} (.builtin "sum.loop" ⟨[.ref (A (Nat.add n 0)),.ref (A (Nat.add n 1)),rawInt 0,rawInt 0],[]⟩)
   (fun r s'=>∃h' tk t',r=.ok (.ret (.int (dR 0 xs) t'))/\s'={s1 with heap:=h',toks:=tk}/\(∀b o,b≠A (Nat.add n 0)->b≠A (Nat.add n 1)->s1.heap.get? b=some o->h'.get? b=some o)/\(∃o,h'.get? (A (Nat.add n 1))=some o)/\s1.toks<=tk) s1:=
  jv xs hh (fun e=>nd.2.1 e.symm) (fun e=>nd.1.2 e.symm) (fun e=>nd.1.1 e.symm) rfl xs 0 0 tz 0 s1 rfl hf ⟨_,hP1.has.2.1,rfl,rfl⟩ ⟨_,hP1.has.1,rfl,_,rfl⟩ hP1.has.2.2.1 fun h' tk t' a b c=>⟨h',tk,t',rfl,rfl,a,b,c⟩
 obtain⟨r,s2,R,h',tk,t',rfl,rfl,hk,⟨o,ho⟩,htk⟩:=key ((⟨.builtin "sum" ⟨[.ref (A aH)],[]⟩,none,none,bl,none⟩:Ctx).goto (.builtin "sum.loop" ⟨[.ref (A (Nat.add n 0)),.ref (A (Nat.add n 1)),rawInt 0,rawInt 0],[]⟩)) p1 rfl ⟨rfl,Nat.le_refl _,(fun _ h=>nomatch h),(fun _ h=>nomatch h),Nat.le_refl _⟩
 refine zQ ?_
 have hsz:s.heap.objs.size<=h'.objs.size:=by
  have h1:A (Nat.add n 1)<h'.objs.size:=Heap.lt_size ho
  rw [hn]
  have h1:n+1+245<h'.objs.size:=h1
  show n+245<=_
  lia
 have hkt:∀a o,(eG (pW W)).get a=some o->a≠A (Nat.add n 0)/\a≠A (Nat.add n 1):=by
  intro a o e
  refine⟨fun q=>?_,fun q=>?_⟩
  ·have:=hP1.lo (A (Nat.add n 0)) (by simp)
   rw [<-q,e] at this;cases this
  ·have:=hP1.lo (A (Nat.add n 1)) (by simp)
   rw [<-q,e] at this;cases this
 have hold:∀b o,s.heap.get? b=some o->b≠A (Nat.add n 0)/\b≠A (Nat.add n 1):=by
  intro b o e
  have:=Heap.lt_size e
  rw [hn] at this
  have this:b<n+245:=this
  refine⟨fun q=>?_,fun q=>?_⟩
  ·rw [q] at this;exact absurd this (Nat.not_lt.mpr (show n+245<=n+0+245 by lia))
  ·rw [q] at this;exact absurd this (Nat.not_lt.mpr (show n+245<=n+1+245 by lia))
 refine⟨⟨t'⟩,{s1 with heap:=h',toks:=tk},by rw [pB hh];exact H1 _ _ R,⟨fun a o e=>hk a o (hkt a o e).1 (hkt a o e).2 (hP1.rdy.base a o e),hP1.rdy.gens,?_,Nat.le_trans hP1.rdy.toks htk⟩,⟨fun b o e hb=>?_,K1.drawn,K1.os,hsz⟩,⟨?_,trivial⟩,trivial,(fun y hy=>nomatch hy),nodup_nil,trivial⟩
 ·have:=hP.rdy.size
  show 245<=h'.objs.size
  lia
 ·exact hk b o (hold b o e).1 (hold b o e).2 (K1.keep b o e hb)
 ·exact hk _ _ nd.1.1 nd.1.2 hP1.has.1
noncomputable def op(i mm ro:Nat):bM:=fun Γ p c st K=>match st.T.get i with
 |some ⟨cl,dd,.seq items ep,sl⟩=>((c=.builtin "sum" ⟨[.ref (bm st.L st.n i)],[]⟩/\Γ.handled=none/\Γ.own=none/\Γ.past=none)/\Nat.ble 245 (bm st.L st.n i)=true/\(⟨cl,dd,.seq items ep,sl⟩:Obj)=ab items ep/\(∃xs,aj items xs/\dI 0 xs))/\
   pf (X:=cC) [(bm st.L st.n i,ab items ep)] [i] mm ro (fun x=>(.ok (.ret (.int (mC items) x.t)),[ab items ep],[])) (fun _=>True) st K
 |_=>False
theorem nl{w:World}{b1 b2:Bool}{i:Nat}{V:XV}(hk:V.kt=eG (W2 w b1 b2).params):bX V (model pw (W2 w b1 b2)) (op i V.mm V.ro):=by
 intro h0 d os Γ p c st K s H hΓ R
 unfold op at H
 split at H
 ·rename_i cl dd items ep sl e1
  obtain⟨⟨⟨q,g1,g2,g3⟩,hb,-,xs,hh,hf⟩,H⟩:=H
  obtain⟨aH,ha⟩:∃aH,bm st.L st.n i=A aH:=⟨bm st.L st.n i-245,by have:245<=bm st.L st.n i:=le_of_ble_eq_true hb;show _=_+245;omega⟩
  rw [<-hΓ]
  refine fy hk (fun hP _=>?_) H R
  obtain⟨gc,gh,go,gb,gp⟩:=Γ
  have hΓ:gc=c:=hΓ
  have g1:gh=none:=g1
  have g2:go=none:=g2
  have g3:gp=none:=g3
  subst hΓ g1 g2 g3
  rw [q]
  rw [ha] at hP⊢
  exact vK ⟨w,b1,b2⟩ gb aH items ep xs hh hf p s hP
 ·exact H.elim
noncomputable def lN:Code->Made:=fun c=>match c with
 |.builtin _ ⟨[.int (.ofNat a) _,.int (.ofNat b) _],_⟩=>.int (Int.ofNat (a/b))
 |_=>.val .none
noncomputable def xI:Code->Made:=fun c=>match c with
 |.builtin _ ⟨[.int (.ofNat a) _,.int (.ofNat b) _],_⟩=>.int (Int.ofNat (a % b))
 |_=>.val .none
noncomputable def jt:Code->Made:=fun c=>match c with
 |.builtin _ ⟨[.int a _,.int b _],_⟩=>.int (a*b)
 |_=>.val .none
noncomputable def zJ:Code->Made:=fun c=>match c with
 |.builtin _ ⟨[.int a _,.int b _],_⟩=>.int (a^b.toNat)
 |_=>.val .none
theorem eN{a b:Nat}{t u:Tok}{l}(hb:b≠0)(h3:b<=1000):av (.builtin "int.__floordiv__" ⟨[.int (Int.ofNat a) t,.int (Int.ofNat b) u],[]⟩) l (.int (Int.ofNat (a/b))):=by
 refine av.mk PySem.F.entry_int_floordiv ?_ trivial
 have e:(Int.ofNat a).fdiv (Int.ofNat b)=Int.ofNat (a/b):=by cases a<;>cases b<;>simp [Int.fdiv]<;>rfl
 rw [<-e]
 refine PySem.AutoIntG4.int___floordiv___int_int_1 (Int.ofNat a) t (Int.ofNat b) u (by simp;exact hb) (fun h=>?_)
 unfold Builtin.divisionGoesByPylong at h
 simp only [Bool.and_eq_true,decide_eq_true_eq] at h
 have h1:=h.1
 split at h1
 ·omega
 ·have:(Int.ofNat b).natAbs.log2<=10:=by
   show b.log2<=10
   have:=Nat.log2_lt (n:=b) (k:=11) hb
   have:=this.mpr (by omega)
   omega
  omega
theorem dF{a b:Nat}{t u:Tok}{l}(hb:b≠0):av (.builtin "int.__mod__" ⟨[.int (Int.ofNat a) t,.int (Int.ofNat b) u],[]⟩) l (.int (Int.ofNat (a % b))):=by
 refine av.mk PySem.F.entry_int_mod ?_ trivial
 have e:(Int.ofNat a).fmod (Int.ofNat b)=Int.ofNat (a % b):=by cases a<;>cases b<;>simp [Int.fmod]<;>rfl
 rw [<-e]
 exact PySem.AutoIntG6.int___mod___int_int_1 (Int.ofNat a) t (Int.ofNat b) u (by simp;exact hb)
theorem eV{a b:Int}{t u:Tok}{l}(h:Builtin.Int.intBits a<=64):av (.builtin "int.__mul__" ⟨[.int a t,.int b u],[]⟩) l (.int (a*b)):=
 av.mk PySem.F.entry_int_mul (gives_int_mul a b t u (.of_left h)) trivial
theorem qc{a b:Int}{t u:Tok}{v:Bool}{l}(h:(a==b)=v):av (.builtin "int.__eq__" ⟨[.int a t,.int b u],[]⟩) l (.val (.bool v)):=by
 subst h;exact av.mk PySem.F.entry_int_eq (gives_int_eq a b t u) trivial
noncomputable def gO(items:Array Value)(k:Int):Int:=match lU items k with
 |.int n _=>n
 |_=>0
noncomputable def qG(items:Array Value)(k:Int):Tok:=match lU items k with
 |.int _ t=>t
 |_=>0
noncomputable def ou(i:Nat):bF:=fun Γ c st=>wA (st.T.get i) nO fun _ _ items _ _=>wO (BH c) nO fun b=>co i (.int (gO items b.1) (qG items b.1)) Γ c st
theorem md{V:XV}{pr:Program}{w:World}{i:Nat}:bE V (model pr w) (ou i):=
 dT fun hΓ R=>eZ fZ fun _ _ _ _ _ _=>fL fZ fun _ hc H=>bB _ _ _ _ _ _ _ _ _ _ hc hΓ R H
theorem gN{t u:Tok}{j:Nat}(h:j<2):(seqIndex? (Int.ofNat j) (Array.mk [Value.int 1 t,Value.int (-1) u]).size).bind (fun i=>(Array.mk [Value.int 1 t,Value.int (-1) u])[i]?)=some (.int (gO (Array.mk [Value.int 1 t,Value.int (-1) u]) (Int.ofNat j)) (qG (Array.mk [Value.int 1 t,Value.int (-1) u]) (Int.ofNat j)))/\gO (Array.mk [Value.int 1 t,Value.int (-1) u]) (Int.ofNat j)=if j=0 then 1 else-1:=by
 have:j=0\/j=1:=by lia
 rcases this with rfl|rfl
 ·exact⟨rfl,rfl⟩
 ·exact⟨rfl,rfl⟩
noncomputable def qg(B q:Nat):Int:=(if q/8 % 2=0 then 1 else-1)*(1+Int.ofNat (q/4 % 2)*Int.ofNat B)*Int.ofNat B^(q % 4)
noncomputable def cZ(B i q:Nat):Int:=if(i=1\/i=2\/i=5)/\q/16 % 4=3 then 0 else qg B q
noncomputable def e8(B:Nat):Nat->List Nat->List Int
 |_,[]=>[]
 |k,q::l=>cZ B k q::e8 B (k+1) l
noncomputable def nN(i:Nat)(v:Bool):bF:=fun Γ c st=>wA (st.T.get i) nO fun cl dd l _ sl=>w3 l.toList nO fun x y z=>wi x nO fun a=>wi y nO fun b=>wi z nO fun d=>wO (BH c) nO fun g=>
  (c=.builtin "list.__contains__" ⟨[.ref (bm st.L st.n i),.int g.1 g.2],[]⟩/\(cl=.type "list"/\dd=none/\sl=⟨[]⟩)/\((a==g.1)||((b==g.1)||(d==g.1)))=v,ret (.bool v))
theorem jI{V:XV}{pr:Program}{w:World}{i:Nat}{v:Bool}:bE V (model pr w) (nN i v):=by
 refine dT fun hΓ R=>eZ fZ fun cl dd l n sl e1=>C4 fZ fun x y z e2=>jW fZ fun a ta e3=>jW fZ fun b tb' e4=>jW fZ fun d' td e5=>fL fZ fun g=>?_
 obtain⟨l⟩:=l
 subst e3 e4 e5
 have e2:l=_:=e2
 subst e2
 rintro⟨rfl,⟨rfl,rfl,rfl⟩,hv⟩ H
 obtain⟨rfl,rfl⟩:=fV H
 rw [bg PySem.F.entry_list_contains]
 refine bv (PySem.MeetsSeq.list_contains _ _ n (.int g.1 g.2) (fun y=>match y with|.int i _=>i==g.1|_=>false) (fun y hy=>?_)) (by rw [hΓ];rfl) ⟨jh R e1,?_⟩
 ·have:y=.int a ta\/y=.int b tb'\/y=.int d' td:=by simpa using hy
  rcases this with rfl|rfl|rfl<;>exact PySem.MeetsSeq.EqGives.int _ _ _ _
 ·rw [<-hv]
  refine⟨?_,rfl⟩
  simp
theorem pX{B e:Nat}{t u:Tok}{l}(hB:B=2\/B=3)(he:e<4):av (.builtin "int.__pow__" ⟨[.int (Yh B) t,.int (Yh e) u],[]⟩) l (.int (Int.ofNat B^e)):=by
 refine av.mk PySem.F.entry_int_pow ?_ trivial
 have h:e=0\/e=1\/e=2\/e=3:=by lia
 rcases hB with rfl|rfl<;>rcases h with rfl|rfl|rfl|rfl
 ·exact PySem.AutoIntG9.int___pow___int_int_0 (Int.ofNat 2) t Yx u (by decide) (by decide)
 ·exact PySem.AutoIntG2.int___pow___int_int_4 (Int.ofNat 2) t (Int.ofNat 1) u (by decide) (by decide) (by decide) (by decide) (by decide+kernel)
 ·exact PySem.AutoIntG2.int___pow___int_int_4 (Int.ofNat 2) t (Int.ofNat 2) u (by decide) (by decide) (by decide) (by decide) (by decide+kernel)
 ·exact PySem.AutoIntG2.int___pow___int_int_4 (Int.ofNat 2) t (Int.ofNat 3) u (by decide) (by decide) (by decide) (by decide) (by decide+kernel)
 ·exact PySem.AutoIntG9.int___pow___int_int_0 (Int.ofNat 3) t Yx u (by decide) (by decide)
 ·exact PySem.AutoIntG2.int___pow___int_int_4 (Int.ofNat 3) t (Int.ofNat 1) u (by decide) (by decide) (by decide) (by decide) (by decide+kernel)
 ·exact PySem.AutoIntG2.int___pow___int_int_4 (Int.ofNat 3) t (Int.ofNat 2) u (by decide) (by decide) (by decide) (by decide) (by decide+kernel)
 ·exact PySem.AutoIntG2.int___pow___int_int_4 (Int.ofNat 3) t (Int.ofNat 3) u (by decide) (by decide) (by decide) (by decide) (by decide+kernel)
theorem mP{j:Nat}(v:Int)(h:v=if j=0 then 1 else-1):Builtin.Int.intBits v<=64:=by
 by_cases hj:j=0
 ·rw [if_pos hj] at h;subst h;decide+kernel
 ·rw [if_neg hj] at h;subst h;decide+kernel
theorem wT{q:Nat}:Builtin.Int.intBits (Int.ofNat (q/4 % 2))<=64:=by
 have:q/4 % 2=0\/q/4 % 2=1:=by lia
 rcases this with h|h<;>rw [h]<;>decide+kernel
theorem nn{q B:Nat}(v:Int){j:Nat}(h:v=if j=0 then 1 else-1)(hB:B=2\/B=3):Builtin.Int.intBits (v*(1+Int.ofNat (q/4 % 2)*Int.ofNat B))<=64:=by
 have hx:q/4 % 2=0\/q/4 % 2=1:=by lia
 by_cases hj:j=0
 ·rw [if_pos hj] at h;subst h
  rcases hx with h|h<;>rw [h]<;>rcases hB with rfl|rfl<;>decide+kernel
 ·rw [if_neg hj] at h;subst h
  rcases hx with h|h<;>rw [h]<;>rcases hB with rfl|rfl<;>decide+kernel
noncomputable abbrev wC:=[110,117,109,98,101,114,115]
noncomputable abbrev Yr:=wC
noncomputable abbrev wH:=[115,99,114,105,112,116]
noncomputable abbrev Yy:=wH
noncomputable abbrev g0:=[103,105,118,101,110]
noncomputable abbrev g5:=[100,114,97,119,110]
abbrev GX a b c d e f:=av (.builtin "int.__mod__" ⟨[(.int (Int.ofNat (a/c)) (Y8 b d)),(.int (Int.ofNat e) (Y8 b f))],[]⟩) [] (xI (.builtin "int.__mod__" ⟨[(.int (Int.ofNat (a/c)) (Y8 b d)),(.int (Int.ofNat e) (Y8 b f))],[]⟩))/\Yc
abbrev Hc a b c d e:=av (.builtin "int.__floordiv__" ⟨[(.int (Yh a) b),(.int (Int.ofNat d) (Y8 c e))],[]⟩) [] (lN (.builtin "int.__floordiv__" ⟨[(.int (Yh a) b),(.int (Int.ofNat d) (Y8 c e))],[]⟩))/\Yc
abbrev kB a b:=Value.int (Int.negSucc 0) (Y8 a b)
noncomputable abbrev j7 a:=Int.ofNat (a/8 % 2)
noncomputable abbrev LD a b c:=Int.ofNat (a/b % c)
noncomputable abbrev O5 a:=((1:Int)==Int.ofNat a)||(((2:Int)==Int.ofNat a)||((5:Int)==Int.ofNat a))
noncomputable abbrev kz a:=Str.mk ⟨[a]⟩
abbrev I3 a b c d e:=(.builtin "int.__pow__" ⟨[(cr a b),(.int (Int.ofNat (c % 4)) (Y8 d e))],[]⟩:Code)
noncomputable abbrev zu:=Str.mk ⟨g5⟩
abbrev J6 a b c d e:=(.builtin "int.__mul__" ⟨[(.int (LD a 4 2) (Y8 b e)),(cr c d)],[]⟩:Code)
noncomputable abbrev Du a:=Int.ofNat (a % 4)
abbrev Kw a b c d:=(.int (1+Int.ofNat (a/4 % 2)*Int.ofNat b) (Y8 c d):Value)
abbrev M4 a b c:=Rf (.builtin "list.__contains__" ⟨[(dY a 0),(ki b c)],[]⟩:Code)
noncomputable abbrev KR a:=Int.ofNat 2==Int.ofNat a||Int.ofNat 5==Int.ofNat a
noncomputable abbrev zB:=Str.mk ⟨g0⟩
noncomputable abbrev zw:=Str.mk ⟨Yy⟩
abbrev Pr a b c d:=av (.builtin "int.__mod__" ⟨[(cr a b),(CJ c 4 d)],[]⟩) [] (xI (.builtin "int.__mod__" ⟨[(cr a b),(CJ c 4 d)],[]⟩))/\Yc
abbrev DD:=dM [] xI
noncomputable abbrev zz:=Str.mk ⟨Yr⟩
theorem xV(W:WW)(b7:Bool)(p0:Pos)(vE:FE)(aF c1 c2 aI aD aN B k m qn:Nat)(u1 u2 u3 u4 u5 u6 u7 tB tq:Tok)(v1 v2 vI vQ:Value)(dv nv:Array Value)(epD epN:Nat)(s:Shared)(hdv:(zD k dv).bind (fun j=>dv[j]?)=some (cr qn tq))(hfk:bO (Yh k))(hB:B=2\/B=3)(hsz:nv.size<=1000)(hin:(O5 k)=false)(E:WW->ae)(hE:E=fun W=>[(A aF,ah "frame" ([aa (pW W) Yy u1 v1,aa (pW W) g0 u2 v2,aa (pW W) g5 u3 (Yp aD),aa (pW W) eM u4 (cr B tB),aa (pW W) Yr u5 (Yp aN)]++(cond b7 [] [aa (pW W) [105] u6 vI,aa (pW W) [113] u7 vQ])) (cond b7 5 7)),(qQ aI k m),(Yk aD dv epD),(Yk aN nv epN)])(hP:az (pW W) (E W) s){Q:Prop}(kQ:∀(n tb:Nat) (s':Shared) (y6 y7 yi yq tz:Tok) (vz:Int) (ep:Nat),Hn s n->Ht s tb->vz=qg B qn->br (Yt W) (⟨fm (pW W) aF c1 c2 aI,none,none,(c6 vE),none⟩) p0 s s'->az (pW W) ([(A aF,ah "frame" [aa (pW W) Yy u1 v1,aa (pW W) g0 u2 v2,aa (pW W) g5 u3 (Yp aD),aa (pW W) eM u4 (cr B tB),aa (pW W) Yr u5 (Yp aN),aa (pW W) [105] y6 (cr k yi),aa (pW W) [113] y7 (cr qn yq)] 7),(A aI,aK "range_iterator" [rB k,.int (Int.ofNat (Nat.succ m)-1) 0,jx]),(Yk aD dv epD),(A aN,ab (nv.push (b8 vz tz)) ep)]) s'->af (E W) s s'->Q):Q:=by
 obtain⟨n,tb,gb,hn,ht,hg⟩:=hP.nt
 refine bT hE hP hn ht hg (fun E W Z hs=>cm (ei (Vw W) 4 [(co 2 (cr qn tq)),(nN 4 false),(dM [] lN),DD,(ou 5),(dM [] lN),DD,(dM [] jt),(dM [] jt),DD,(dM [] zJ),(dM [] jt),(cf 3)] [] [] []) 198 (⟨fm (pW W) aF c1 c2 aI,none,none,(c6 vE),none⟩) (p0) (aQ (fm (pW W) aF c1 c2 aI)) [] hs (cO E n tb gb) (m4 Z)) (fun E W Z hs=>ad (lE E) (A n) gb (sl hs 0 17) (((Ij aD k tb)/\(bO (Yh k)/\(((Hf k dv):i8)=(some (cr qn tq)))))/\ad (lE E) (A n) gb (sl hs 18 6) (((M4 n k tb)/\(Yi/\(((Int.ofNat 1==Int.ofNat k||(KR k)):(Bool))=(false))))/\ad (lE E) (A n) gb (sl hs 25 6) ((Hc qn tq tb 8 9)/\ad (lE E) (A n) gb (sl hs 31 0) ((GX qn tb 8 10 2 11)/\ad (lE E) (A n) gb (sl hs 33 4) (((Rf (.builtin "list.__getitem__" ⟨[(dY n 1),(.int (j7 qn) (Y8 tb 12))],[]⟩:Code))/\(bO (j7 qn)/\((((seqIndex? (j7 qn) (Array.mk [Value.int (Int.ofNat 1) (Y8 tb 6),kB tb 8]).size).bind fun j=>(Array.mk [Value.int (Int.ofNat 1) (Y8 tb 6),kB tb 8])[j]?):i8)=(some (.int (gO (Array.mk [Value.int (Int.ofNat 1) (Y8 tb 6),kB tb 8]) (j7 qn)) (qG (Array.mk [Value.int (Int.ofNat 1) (Y8 tb 6),kB tb 8]) (j7 qn)))))))/\ad (lE E) (A n) gb (sl hs 38 1) ((Hc qn tq tb 4 14)/\ad (lE E) (A n) gb (sl hs 39 0) ((GX qn tb 4 15 2 16)/\ad (lE E) (A n) gb (sl hs 41 1) ((av (J6 qn tb B tB 17) [] (jt (J6 qn tb B tB 17))/\Yc)/\ad (lE E) (A n) gb (sl hs 42 0) ((av (.builtin "int.__mul__" ⟨[(.int (gO (Array.mk [Value.int (Int.ofNat 1) (Y8 tb 6),kB tb 8]) (j7 qn)) (qG (Array.mk [Value.int (Int.ofNat 1) (Y8 tb 6),kB tb 8]) (j7 qn))),(Kw qn B tb 19)],[]⟩) [] (jt (.builtin "int.__mul__" ⟨[(.int (gO (Array.mk [Value.int (Int.ofNat 1) (Y8 tb 6),kB tb 8]) (j7 qn)) (qG (Array.mk [Value.int (Int.ofNat 1) (Y8 tb 6),kB tb 8]) (j7 qn))),(Kw qn B tb 19)],[]⟩))/\Yc)/\ad (lE E) (A n) gb (sl hs 45 2) ((Pr qn tq tb 21)/\ad (lE E) (A n) gb (sl hs 47 0) ((av (I3 B tB qn tb 22) [] (zJ (I3 B tB qn tb 22))/\Yc)/\ad (lE E) (A n) gb (sl hs 47 0) ((av (.builtin "int.__mul__" ⟨[(.int (gO (Array.mk [Value.int (Int.ofNat 1) (Y8 tb 6),kB tb 8]) (j7 qn)*(1+Int.ofNat (qn/4 % 2)*Int.ofNat B)) (Y8 tb 20)),(.int (Int.ofNat B^(Du qn).toNat) (Y8 tb 23))],[]⟩) [] (jt (.builtin "int.__mul__" ⟨[(.int (gO (Array.mk [Value.int (Int.ofNat 1) (Y8 tb 6),kB tb 8]) (j7 qn)*(1+Int.ofNat (qn/4 % 2)*Int.ofNat B)) (Y8 tb 20)),(.int (Int.ofNat B^(Du qn).toNat) (Y8 tb 23))],[]⟩))/\Yc)/\ad (lE E) (A n) gb (sl hs 50 1) (((Rf (.builtin "list.append" ⟨[(Yp aN),(.int (gO (Array.mk [Value.int (Int.ofNat 1) (Y8 tb 6),kB tb 8]) (j7 qn)*(1+Int.ofNat (qn/4 % 2)*Int.ofNat B)*Int.ofNat B^(Du qn).toNat) (Y8 tb 24))],[]⟩:Code))/\(rE nv))/\ad (lE E) (A n) gb (sl hs 52 1) (Z (.again (fm (pW W) aF c1 c2 aI)) (Y2 n 2) (Y8 tb 25) true (ax ([((A aF),⟨DA,none,(.dict ⟨[⟨(PyData.keyHash (pW W) zw),(.str zw u1),(v1)⟩,⟨(PyData.keyHash (pW W) zB),(.str zB u2),(v2)⟩,⟨(PyData.keyHash (pW W) zu),(.str zu u3),(Yp aD)⟩,⟨(PyData.keyHash (pW W) qR),(.str qR u4),(cr B tB)⟩,⟨(PyData.keyHash (pW W) zz),(.str zz u5),(Yp aN)⟩,⟨(PyData.keyHash (pW W) (kz 105)),(.str (kz 105) (cond b7 (Y8 tb 1) u6)),(ki k tb)⟩,⟨(PyData.keyHash (pW W) (EO 113)),(.str (EO 113) (cond b7 (Y8 tb 2) u7)),(cr qn tq)⟩]⟩ 7),⟨[]⟩⟩),((A aI),⟨zy,none,(.fields ⟨[(.int (Int.ofNat k+Int.ofNat 1) 0),(.int (Int.ofNat (m.add 1)-1) 0),(.int (Int.ofNat 1) 0)]⟩),⟨[]⟩⟩),(rQ aD dv epD),(A aN,Obj.mapSeq (·.push (Value.int (gO (Array.mk [Value.int (Int.ofNat 1) (Y8 tb 6),kB tb 8]) (j7 qn)*(1+Int.ofNat (qn/4 % 2)*Int.ofNat B)*Int.ofNat B^(Du qn).toNat) (Y8 tb 24))) (ab nv epN))]))))))))))))))))) (fun _=>(gE [90002,40001,40003,4000,1,1,1,5,5,5,4001,1,40004,1,4002,4003,40006,4004,1,4005,4006,1,4007,3001,4008,1,1,4009,4010,4011,4,4012,4,3000])) (by apply iW b7<;>exact oW (by kernel_rfl)) rfl ⟨fun _=>bB,fun _=>jI,fun _=>bs,fun _=>bs,fun _=>md,fun _=>bs,fun _=>bs,fun _=>bs,fun _=>bs,fun _=>bs,fun _=>bs,fun _=>bs,fun _=>bx,trivial⟩ trivial rfl fun hs=>?_
 refine rI ⟨rfl,hfk,hdv⟩ ?_
 refine rI ⟨rfl,⟨rfl,rfl,rfl⟩,hin⟩ ?_
 refine rI ⟨eN (by decide) (by decide),rfl⟩ ?_
 refine rI ⟨dF (by decide),rfl⟩ ?_
 refine rI ⟨rfl,bZ (by lia),(gN (by lia)).1⟩ ?_
 refine rI ⟨eN (by decide) (by decide),rfl⟩ ?_
 refine rI ⟨dF (by decide),rfl⟩ ?_
 refine rI ⟨eV wT,rfl⟩ ?_
 refine rI ⟨eV (mP (j:=qn/8 % 2) _ (gN (by lia)).2),rfl⟩ ?_
 refine rI ⟨dF (by decide),rfl⟩ ?_
 refine rI ⟨pX hB (by lia),rfl⟩ ?_
 refine rI ⟨eV (nn (B:=B) (q:=qn) _ (gN (j:=qn/8 % 2) (by lia)).2 hB),rfl⟩ ?_
 refine rI ⟨rfl,⟨rfl,rfl,rfl⟩,hsz⟩ ?_
 exact rF fun s' r _ h3 h4 h5=>kQ n tb s' _ _ _ _ _ _ _ hn ht (by unfold qg;rw [<-(gN (j:=qn/8 % 2) (by lia)).2];rfl) (am rfl r) ⟨h4,ai h3,(nx hE hP).nd,(nx hE hP).lo⟩ h5
section
variable(W:WW)(p0:Pos)(vE:FE)(aF c1 c2 aI aD aN B k m qn:Nat)(u1 u2 u3 u4 u5 u6 u7 tB tq:Tok)(v1 v2 vI vQ:Value)(dv nv:Array Value)(epD epN:Nat)(s:Shared)(hdv:(zD k dv).bind (fun j=>dv[j]?)=some (cr qn tq))(hfk:bO (Yh k))(hB:B=2\/B=3)(hsz:nv.size<=1000)(hin:(O5 k)=true)
include W p0 vE aF c1 c2 aI aD aN B k m qn u1 u2 u3 u4 u5 u6 u7 tB tq v1 v2 vI vQ dv nv epD epN s hdv hfk hB hsz hin
theorem GJ(h3:qn/16 % 4=3)(E:WW->ae)(hE:E=fun W=>[(A aF,ah "frame" [aa (pW W) Yy u1 v1,aa (pW W) g0 u2 v2,aa (pW W) g5 u3 (Yp aD),aa (pW W) eM u4 (cr B tB),aa (pW W) Yr u5 (Yp aN),aa (pW W) [105] u6 vI,aa (pW W) [113] u7 vQ] 7),(qQ aI k m),(Yk aD dv epD),(Yk aN nv epN)])(hP:az (pW W) (E W) s){Q:Prop}(kQ:∀(n tb:Nat) (s':Shared) (y6 y7 yi yq tz:Tok) (vz:Int) (ep:Nat),Hn s n->Ht s tb->vz=0->br (Yt W) (⟨fm (pW W) aF c1 c2 aI,none,none,(c6 vE),none⟩) p0 s s'->az (pW W) ([(A aF,ah "frame" [aa (pW W) Yy u1 v1,aa (pW W) g0 u2 v2,aa (pW W) g5 u3 (Yp aD),aa (pW W) eM u4 (cr B tB),aa (pW W) Yr u5 (Yp aN),aa (pW W) [105] y6 (cr k yi),aa (pW W) [113] y7 (cr qn yq)] 7),(A aI,aK "range_iterator" [rB k,.int (Int.ofNat (Nat.succ m)-1) 0,jx]),(Yk aD dv epD),(A aN,ab (nv.push (b8 vz tz)) ep)]) s'->af (E W) s s'->Q):Q:=by
 obtain⟨n,tb,gb,hn,ht,hg⟩:=hP.nt
 refine bT hE hP hn ht hg (fun E W Z hs=>cm (ei (Vw W) 4 [(co 2 (cr qn tq)),(nN 4 true),(dM [] lN),DD,pn,(cf 3)] [] [] []) 134 (⟨fm (pW W) aF c1 c2 aI,none,none,(c6 vE),none⟩) (p0) (aQ (fm (pW W) aF c1 c2 aI)) [] hs (cO E n tb gb) (m4 Z)) (fun E W Z hs=>ad (lE E) (A n) gb (sl hs 0 17) (((Ij aD k tb)/\(bO (Yh k)/\(((Hf k dv):i8)=(some (cr qn tq)))))/\ad (lE E) (A n) gb (sl hs 18 6) (((M4 n k tb)/\(Yi/\(((Int.ofNat 1==Int.ofNat k||(KR k)):(Bool))=(true))))/\ad (lE E) (A n) gb (sl hs 25 1) ((Hc qn tq tb 16 6)/\ad (lE E) (A n) gb (sl hs 26 0) ((GX qn tb 16 7 4 8)/\ad (lE E) (A n) gb (sl hs 26 0) ((av (.builtin "int.__eq__" ⟨[(.int (LD qn 16 4) (Y8 tb 9)),(CJ tb 3 10)],[]⟩) [] ww/\Yc)/\ad (lE E) (A n) gb (sl hs 29 6) (((Rf (.builtin "list.append" ⟨[(Yp aN),(.int Yx (Y8 tb 11))],[]⟩:Code))/\(rE nv))/\ad (lE E) (A n) gb (sl hs 36 1) (Z (.again (fm (pW W) aF c1 c2 aI)) (Y2 n 1) (Y8 tb 12) true (ax ([((A aF),⟨(.type "frame"),none,(.dict ⟨[⟨(PyData.keyHash (pW W) (Str.mk ⟨Yy⟩)),(.str (Str.mk ⟨Yy⟩) u1),(v1)⟩,⟨(PyData.keyHash (pW W) (Str.mk ⟨g0⟩)),(.str (Str.mk ⟨g0⟩) u2),(v2)⟩,⟨(PyData.keyHash (pW W) (Str.mk ⟨g5⟩)),(.str (Str.mk ⟨g5⟩) u3),(Yp aD)⟩,⟨(PyData.keyHash (pW W) (Str.mk ⟨eM⟩)),(.str (Str.mk ⟨eM⟩) u4),(cr B tB)⟩,⟨(PyData.keyHash (pW W) (Str.mk ⟨Yr⟩)),(.str (Str.mk ⟨Yr⟩) u5),(Yp aN)⟩,⟨(PyData.keyHash (pW W) (Str.mk ⟨[105]⟩)),(.str (Str.mk ⟨[105]⟩) u6),(ki k tb)⟩,⟨(PyData.keyHash (pW W) (Str.mk ⟨[113]⟩)),(.str (Str.mk ⟨[113]⟩) u7),(cr qn tq)⟩]⟩ 7),⟨[]⟩⟩),((A aI),⟨zy,none,(.fields ⟨[(.int (Int.ofNat k+Int.ofNat 1) 0),(.int (Int.ofNat (m.add 1)-1) 0),(.int (Int.ofNat 1) 0)]⟩),⟨[]⟩⟩),(rQ aD dv epD),(A aN,Obj.mapSeq (·.push (Value.int 0 (Y8 tb 11))) (ab nv epN))])))))))))) (fun _=>(gE [90002,40001,40003,4000,1,1,1,5,5,5,4001,1,4002,4003,4004,1,50004,4005,4,3000])) (iY (by kernel_rfl)) rfl ⟨fun _=>bB,fun _=>jI,fun _=>bs,fun _=>bs,fun _=>au,fun _=>bx,trivial⟩ trivial rfl fun hs=>?_
 refine rI ⟨rfl,hfk,hdv⟩ ?_
 refine rI ⟨rfl,⟨rfl,rfl,rfl⟩,hin⟩ ?_
 refine rI ⟨eN (by decide) (by decide),rfl⟩ ?_
 refine rI ⟨dF (by decide),rfl⟩ ?_
 refine rI ⟨qc (by show(Int.ofNat (qn/16 % 4)==Int.ofNat 3)=true;rw [h3];rfl),rfl⟩ ?_
 refine rI ⟨rfl,⟨rfl,rfl,rfl⟩,hsz⟩ ?_
 exact rF fun s' r _ h3 h4 h5=>kQ n tb s' _ _ _ _ _ _ _ hn ht rfl (am rfl r) ⟨h4,ai h3,(nx hE hP).nd,(nx hE hP).lo⟩ h5
theorem ER(h3:qn/16 % 4≠3)(E:WW->ae)(hE:E=fun W=>[(A aF,ah "frame" [aa (pW W) Yy u1 v1,aa (pW W) g0 u2 v2,aa (pW W) g5 u3 (Yp aD),aa (pW W) eM u4 (cr B tB),aa (pW W) Yr u5 (Yp aN),aa (pW W) [105] u6 vI,aa (pW W) [113] u7 vQ] 7),(qQ aI k m),(Yk aD dv epD),(Yk aN nv epN)])(hP:az (pW W) (E W) s){Q:Prop}(kQ:∀(n tb:Nat) (s':Shared) (y6 y7 yi yq tz:Tok) (vz:Int) (ep:Nat),Hn s n->Ht s tb->vz=qg B qn->br (Yt W) (⟨fm (pW W) aF c1 c2 aI,none,none,(c6 vE),none⟩) p0 s s'->az (pW W) ([(A aF,ah "frame" [aa (pW W) Yy u1 v1,aa (pW W) g0 u2 v2,aa (pW W) g5 u3 (Yp aD),aa (pW W) eM u4 (cr B tB),aa (pW W) Yr u5 (Yp aN),aa (pW W) [105] y6 (cr k yi),aa (pW W) [113] y7 (cr qn yq)] 7),(A aI,aK "range_iterator" [rB k,.int (Int.ofNat (Nat.succ m)-1) 0,jx]),(Yk aD dv epD),(A aN,ab (nv.push (b8 vz tz)) ep)]) s'->af (E W) s s'->Q):Q:=by
 obtain⟨n,tb,gb,hn,ht,hg⟩:=hP.nt
 refine bT hE hP hn ht hg (fun E W Z hs=>cm (ei (Vw W) 4 [(co 2 (cr qn tq)),(nN 4 true),(dM [] lN),DD,mx,(dM [] lN),DD,(ou 5),(dM [] lN),DD,(dM [] jt),(dM [] jt),DD,(dM [] zJ),(dM [] jt),(cf 3)] [] [] []) 218 (⟨fm (pW W) aF c1 c2 aI,none,none,(c6 vE),none⟩) (p0) (aQ (fm (pW W) aF c1 c2 aI)) [] hs (cO E n tb gb) (m4 Z)) (fun E W Z hs=>ad (lE E) (A n) gb (sl hs 0 17) (((Ij aD k tb)/\(bO (Yh k)/\(((Hf k dv):i8)=(some (cr qn tq)))))/\ad (lE E) (A n) gb (sl hs 18 6) (((M4 n k tb)/\(Yi/\(((Int.ofNat 1==Int.ofNat k||(KR k)):(Bool))=(true))))/\ad (lE E) (A n) gb (sl hs 25 1) ((Hc qn tq tb 16 6)/\ad (lE E) (A n) gb (sl hs 26 0) ((GX qn tb 16 7 4 8)/\ad (lE E) (A n) gb (sl hs 26 0) ((av (.builtin "int.__eq__" ⟨[(.int (LD qn 16 4) (Y8 tb 9)),(CJ tb 3 10)],[]⟩) [] wu/\Yc)/\ad (lE E) (A n) gb (sl hs 29 6) ((Hc qn tq tb 8 14)/\ad (lE E) (A n) gb (sl hs 35 0) ((GX qn tb 8 15 2 16)/\ad (lE E) (A n) gb (sl hs 37 4) (((Rf (.builtin "list.__getitem__" ⟨[(dY n 1),(.int (j7 qn) (Y8 tb 17))],[]⟩:Code))/\(bO (j7 qn)/\((((seqIndex? (j7 qn) (Array.mk [Value.int (Int.ofNat 1) (Y8 tb 11),kB tb 13]).size).bind fun j=>(Array.mk [Value.int (Int.ofNat 1) (Y8 tb 11),kB tb 13])[j]?):i8)=(some (.int (gO (Array.mk [Value.int (Int.ofNat 1) (Y8 tb 11),kB tb 13]) (j7 qn)) (qG (Array.mk [Value.int (Int.ofNat 1) (Y8 tb 11),kB tb 13]) (j7 qn)))))))/\ad (lE E) (A n) gb (sl hs 42 1) ((Hc qn tq tb 4 19)/\ad (lE E) (A n) gb (sl hs 43 0) ((GX qn tb 4 20 2 21)/\ad (lE E) (A n) gb (sl hs 45 1) ((av (J6 qn tb B tB 22) [] (jt (J6 qn tb B tB 22))/\Yc)/\ad (lE E) (A n) gb (sl hs 46 0) ((av (.builtin "int.__mul__" ⟨[(.int (gO (Array.mk [Value.int (Int.ofNat 1) (Y8 tb 11),kB tb 13]) (j7 qn)) (qG (Array.mk [Value.int (Int.ofNat 1) (Y8 tb 11),kB tb 13]) (j7 qn))),(Kw qn B tb 24)],[]⟩) [] (jt (.builtin "int.__mul__" ⟨[(.int (gO (Array.mk [Value.int (Int.ofNat 1) (Y8 tb 11),kB tb 13]) (j7 qn)) (qG (Array.mk [Value.int (Int.ofNat 1) (Y8 tb 11),kB tb 13]) (j7 qn))),(Kw qn B tb 24)],[]⟩))/\Yc)/\ad (lE E) (A n) gb (sl hs 49 2) ((Pr qn tq tb 26)/\ad (lE E) (A n) gb (sl hs 51 0) ((av (I3 B tB qn tb 27) [] (zJ (I3 B tB qn tb 27))/\Yc)/\ad (lE E) (A n) gb (sl hs 51 0) ((av (.builtin "int.__mul__" ⟨[(.int (gO (Array.mk [Value.int (Int.ofNat 1) (Y8 tb 11),kB tb 13]) (j7 qn)*(1+Int.ofNat (qn/4 % 2)*Int.ofNat B)) (Y8 tb 25)),(.int (Int.ofNat B^(Du qn).toNat) (Y8 tb 28))],[]⟩) [] (jt (.builtin "int.__mul__" ⟨[(.int (gO (Array.mk [Value.int (Int.ofNat 1) (Y8 tb 11),kB tb 13]) (j7 qn)*(1+Int.ofNat (qn/4 % 2)*Int.ofNat B)) (Y8 tb 25)),(.int (Int.ofNat B^(Du qn).toNat) (Y8 tb 28))],[]⟩))/\Yc)/\ad (lE E) (A n) gb (sl hs 54 1) (((Rf (.builtin "list.append" ⟨[(Yp aN),(.int (gO (Array.mk [Value.int (Int.ofNat 1) (Y8 tb 11),kB tb 13]) (j7 qn)*(1+Int.ofNat (qn/4 % 2)*Int.ofNat B)*Int.ofNat B^(Du qn).toNat) (Y8 tb 29))],[]⟩:Code))/\(rE nv))/\ad (lE E) (A n) gb (sl hs 56 1) (Z (.again (fm (pW W) aF c1 c2 aI)) (Y2 n 2) (Y8 tb 30) true (ax ([((A aF),⟨(.type "frame"),none,(.dict ⟨[⟨(PyData.keyHash (pW W) (Str.mk ⟨Yy⟩)),(.str (Str.mk ⟨Yy⟩) u1),(v1)⟩,⟨(PyData.keyHash (pW W) (Str.mk ⟨g0⟩)),(.str (Str.mk ⟨g0⟩) u2),(v2)⟩,⟨(PyData.keyHash (pW W) (Str.mk ⟨g5⟩)),(.str (Str.mk ⟨g5⟩) u3),(Yp aD)⟩,⟨(PyData.keyHash (pW W) (Str.mk ⟨eM⟩)),(.str (Str.mk ⟨eM⟩) u4),(cr B tB)⟩,⟨(PyData.keyHash (pW W) (Str.mk ⟨Yr⟩)),(.str (Str.mk ⟨Yr⟩) u5),(Yp aN)⟩,⟨(PyData.keyHash (pW W) (Str.mk ⟨[105]⟩)),(.str (Str.mk ⟨[105]⟩) u6),(ki k tb)⟩,⟨(PyData.keyHash (pW W) (Str.mk ⟨[113]⟩)),(.str (Str.mk ⟨[113]⟩) u7),(cr qn tq)⟩]⟩ 7),⟨[]⟩⟩),((A aI),⟨zy,none,(.fields ⟨[(.int (Int.ofNat k+Int.ofNat 1) 0),(.int (Int.ofNat (m.add 1)-1) 0),(.int (Int.ofNat 1) 0)]⟩),⟨[]⟩⟩),(rQ aD dv epD),(A aN,Obj.mapSeq (·.push (Value.int (gO (Array.mk [Value.int (Int.ofNat 1) (Y8 tb 11),kB tb 13]) (j7 qn)*(1+Int.ofNat (qn/4 % 2)*Int.ofNat B)*Int.ofNat B^(Du qn).toNat) (Y8 tb 29))) (ab nv epN))])))))))))))))))))))) (fun _=>(gE [90002,40001,40003,4000,1,1,1,5,5,5,4001,1,4002,4003,4004,1,40004,1,4005,4006,40006,4007,1,4008,4009,1,4010,3001,4011,1,1,4012,4013,4014,4,4015,4,3000])) (iY (by kernel_rfl)) rfl ⟨fun _=>bB,fun _=>jI,fun _=>bs,fun _=>bs,fun _=>au,fun _=>bs,fun _=>bs,fun _=>md,fun _=>bs,fun _=>bs,fun _=>bs,fun _=>bs,fun _=>bs,fun _=>bs,fun _=>bs,fun _=>bx,trivial⟩ trivial rfl fun hs=>?_
 refine rI ⟨rfl,hfk,hdv⟩ ?_
 refine rI ⟨rfl,⟨rfl,rfl,rfl⟩,hin⟩ ?_
 refine rI ⟨eN (by decide) (by decide),rfl⟩ ?_
 refine rI ⟨dF (by decide),rfl⟩ ?_
 refine rI ⟨qc (by exact decide_eq_false (fun e=>h3 (Int.ofNat.inj e))),rfl⟩ ?_
 refine rI ⟨eN (by decide) (by decide),rfl⟩ ?_
 refine rI ⟨dF (by decide),rfl⟩ ?_
 refine rI ⟨rfl,bZ (by lia),(gN (by lia)).1⟩ ?_
 refine rI ⟨eN (by decide) (by decide),rfl⟩ ?_
 refine rI ⟨dF (by decide),rfl⟩ ?_
 refine rI ⟨eV wT,rfl⟩ ?_
 refine rI ⟨eV (mP (j:=qn/8 % 2) _ (gN (by lia)).2),rfl⟩ ?_
 refine rI ⟨dF (by decide),rfl⟩ ?_
 refine rI ⟨pX hB (by lia),rfl⟩ ?_
 refine rI ⟨eV (nn (B:=B) (q:=qn) _ (gN (j:=qn/8 % 2) (by lia)).2 hB),rfl⟩ ?_
 refine rI ⟨rfl,⟨rfl,rfl,rfl⟩,hsz⟩ ?_
 exact rF fun s' r _ h3 h4 h5=>kQ n tb s' _ _ _ _ _ _ _ hn ht (by unfold qg;rw [<-(gN (j:=qn/8 % 2) (by lia)).2];rfl) (am rfl r) ⟨h4,ai h3,(nx hE hP).nd,(nx hE hP).lo⟩ h5
end
theorem FJ(W:WW)(p0:Pos)(vE:FE)(aF c1 c2 aI k bR:Nat)(frl:List DictEntry)(s:Shared)(E:WW->ae)(hE:E=fun W=>[(wG aF frl bR),(ku aI k)])(hP:az (pW W) (E W) s){Q:Prop}(kQ:∀(n tb:Nat) (s':Shared),Hn s n->Ht s tb->Runs (Yt W) (⟨fm (pW W) aF c1 c2 aI,none,none,(c6 vE),none⟩) p0 ((Yt W).den (fm (pW W) aF c1 c2 aI)) [] s fu s'->cN (pW W) s'->cI ([(wG aF frl bR),(ku aI k)]) s'.heap->af (E W) s s'->Q):Q:=by
 obtain⟨n,tb,gb,hn,ht,hg⟩:=hP.nt
 refine bT hE hP hn ht hg (fun E W Z hs=>cm (oZ W 2) 56 (⟨fm (pW W) aF c1 c2 aI,none,none,(c6 vE),none⟩) (p0) (aQ (fm (pW W) aF c1 c2 aI)) [] hs (cO E n tb gb) (kZ [0,1] Z)) (fun E W Z hs=>ad (lE E) (A n) gb (sl hs 0 6) (Z oY (Y2 n 2) (Y8 tb 0) true (ax ([(wG aF frl bR),(ku aI k)])))) (fun _=>[2,2,2,2,2,4]) (oW (by kernel_rfl)) rfl trivial (by exact trivial) rfl fun hs=>?_
 exact rF fun s' r _ h3 h4 h5=>kQ n tb s' hn ht (by rw [bI];exact r) h4 (ai h3) h5
noncomputable def kI(P:Params)(aF aI aD aN B:Nat)(u1 u2 u3 u4 u5 tB:Tok)(v1 v2:Value)(dv:Array Value)(epD:Nat)(fr:List DictEntry)(bR k m:Nat)(nv:Array Value)(epN:Nat):ae:=
 [(A aF,ah "frame" ([aa P Yy u1 v1,aa P g0 u2 v2,aa P g5 u3 (Yp aD),aa P eM u4 (cr B tB),aa P Yr u5 (Yp aN)]++fr) bR),(C3 aI k m),(Yk aD dv epD),(Yk aN nv epN)]
theorem aj.push{vs:Array Value}{l:List Int}{v:Int}{t:Tok}(h:aj vs l):aj (vs.push (.int v t)) (l++[v]):=by
 refine⟨by simp [h.1],fun i x e=>?_⟩
 by_cases q:i<l.length
 ·rw [getElem?_append_left q] at e
  rw [getElem?_push,if_neg (by rw [h.1];lia)]
  exact h.2 i x e
 ·rw [getElem?_append_right (by lia)] at e
  have hl:=(List.getElem?_eq_some_iff.mp e).1
  have:i=l.length:=by simp at hl;lia
  subst this
  simp at e
  rw [getElem?_push,if_pos (by rw [h.1])]
  exact⟨t,by rw [<-e]⟩
theorem Nl{k:Nat}{v:Bool}(h:decide (k=1\/k=2\/k=5)=v):(((1:Int)==Int.ofNat k)||(((2:Int)==Int.ofNat k)||((5:Int)==Int.ofNat k)))=v:=by
 have e:∀j:Nat,(((j:Nat):Int)==Int.ofNat k)=decide (k=j):=by
  intro j
  by_cases q:k=j
  ·subst q;simp
  ·rw [decide_eq_false q]
   exact beq_eq_false_iff_ne.mpr (fun x=>q (Int.ofNat.inj x).symm)
 have e1:=e 1;have e2:=e 2;have e5:=e 5
 rw [show((1:Int)==Int.ofNat k)=decide (k=1) from e1,show((2:Int)==Int.ofNat k)=decide (k=2) from e2,show((5:Int)==Int.ofNat k)=decide (k=5) from e5,<-h]
 simp
theorem CV(W:WW)(vE:FE)(aF c1 c2 aI aD aN B:Nat)(u1 u2 u3 u4 u5 tB:Tok)(v1 v2:Value)(dv:Array Value)(epD:Nat)(hB:B=2\/B=3)(ds:List Nat)(hdv:aZ dv ds)(hlen:ds.length<=100):∀(rest:List Nat) (k:Nat) (y6 y7:Tok) (x6 x7:Value) (pre:List Int) (nv:Array Value) (ep:Nat) (p0:Pos) (s:Shared),ds.drop k=rest->aj nv pre->nv.size+rest.length<=1000->az (pW W) (kI (pW W) aF aI aD aN B u1 u2 u3 u4 u5 tB v1 v2 dv epD [aa (pW W) [105] y6 x6,aa (pW W) [113] y7 x7] 7 k rest.length nv ep) s->
  ∀Q:Prop,(∀s' y6' y7' x6' x7' k' nv' ep',Runs (Yt W) ⟨fm (pW W) aF c1 c2 aI,none,none,(c6 vE),none⟩ p0 ((Yt W).den (fm (pW W) aF c1 c2 aI)) [] s fu s'->cN (pW W) s'->cI (kI (pW W) aF aI aD aN B u1 u2 u3 u4 u5 tB v1 v2 dv epD [aa (pW W) [105] y6' x6',aa (pW W) [113] y7' x7'] 7 k' 0 nv' ep') s'.heap->af (kI (pW W) aF aI aD aN B u1 u2 u3 u4 u5 tB v1 v2 dv epD [aa (pW W) [105] y6 x6,aa (pW W) [113] y7 x7] 7 k rest.length nv ep) s s'->aj nv' (pre++e8 B k rest)->Q)->Q:=by
 intro rest0
 induction rest0 with
 |nil=>
  intro k y6 y7 x6 x7 pre nv ep p0 s hd hnv hsz hP Q kQ
  have hP2:az (pW W) [(A aF,ah "frame" ([aa (pW W) Yy u1 v1,aa (pW W) g0 u2 v2,aa (pW W) g5 u3 (Yp aD),aa (pW W) eM u4 (cr B tB),aa (pW W) Yr u5 (Yp aN)]++[aa (pW W) [105] y6 x6,aa (pW W) [113] y7 x7]) 7),(ku aI k)] s:=az.mid (E1:=[]) (E3:=[(Yk aD dv epD),(Yk aN nv ep)]) hP
  apply FJ (W:=W) (hE:=rfl) (hP:=hP2) (p0:=p0) (kQ:=?k64) ..
  case' k64=>intro n tb s' _ _ r h1 h2 h3
  obtain⟨hr,hk⟩:=az.mid_back (E1:=[]) (E3:=[(Yk aD dv epD),(Yk aN nv ep)]) hP h2 h3
  exact kQ s' y6 y7 x6 x7 k nv ep r h1 hr hk (by simpa [e8] using hnv)
 |cons q rest ih=>
  intro k y6 y7 x6 x7 pre nv ep p0 s hd hnv hsz hP Q kQ
  obtain⟨hk,hd'⟩:=bw hd
  obtain⟨tq,hit⟩:=hdv.2 k q hk
  have hkl:=(List.getElem?_eq_some_iff.mp hk).1
  have hfk:bO (Yh k):=bZ (by lia)
  have hgv:=ft hit
  have hP:az (pW W) (kI (pW W) aF aI aD aN B u1 u2 u3 u4 u5 tB v1 v2 dv epD [aa (pW W) [105] y6 x6,aa (pW W) [113] y7 x7] 7 k (rest.length+1) nv ep) s:=hP
  have hsz':nv.size<=1000:=by simp at hsz;lia
  have step:∀G:Prop,(∀s1 a6 a7 b6 b7 tz ep1,br (Yt W) ⟨fm (pW W) aF c1 c2 aI,none,none,(c6 vE),none⟩ p0 s s1->az (pW W) (kI (pW W) aF aI aD aN B u1 u2 u3 u4 u5 tB v1 v2 dv epD [aa (pW W) [105] a6 b6,aa (pW W) [113] a7 b7] 7 (k+1) rest.length (nv.push (.int (cZ B k q) tz)) ep1) s1->af (kI (pW W) aF aI aD aN B u1 u2 u3 u4 u5 tB v1 v2 dv epD [aa (pW W) [105] y6 x6,aa (pW W) [113] y7 x7] 7 k (rest.length+1) nv ep) s s1->G)->G:=by
   intro G kG
   by_cases h3:k=1\/k=2\/k=5
   ·have hin:=Nl (decide_eq_true h3)
    by_cases h4:q/16 % 4=3
    ·apply GJ (W:=W) (hdv:=hgv) (hfk:=hfk) (hB:=hB) (hsz:=hsz') (hin:=hin) (h3:=h4) (hE:=rfl) (hP:=hP) (p0:=p0) (m:=rest.length) (kQ:=?k65) ..
     case' k65=>intro n tb s1 a6 a7 yi yq tz vz ep1 _ _ hz H hP1 K
     rw [bJ] at hP1
     exact kG s1 a6 a7 _ _ tz ep1 H (by rw [show cZ B k q=vz from(by rw [hz,cZ,if_pos ⟨h3,h4⟩])];exact hP1) K
    ·apply ER (W:=W) (hdv:=hgv) (hfk:=hfk) (hB:=hB) (hsz:=hsz') (hin:=hin) (h3:=h4) (hE:=rfl) (hP:=hP) (p0:=p0) (m:=rest.length) (kQ:=?k66) ..
     case' k66=>intro n tb s1 a6 a7 yi yq tz vz ep1 _ _ hz H hP1 K
     rw [bJ] at hP1
     exact kG s1 a6 a7 _ _ tz ep1 H (by rw [show cZ B k q=vz from(by rw [hz,cZ,if_neg (fun x=>h4 x.2)])];exact hP1) K
   ·have hin:=Nl (decide_eq_false h3)
    apply xV (b7:=false) (W:=W) (hdv:=hgv) (hfk:=hfk) (hB:=hB) (hsz:=hsz') (hin:=hin) (hE:=rfl) (hP:=hP) (p0:=p0) (m:=rest.length) (kQ:=?k67) ..
    case' k67=>intro n tb s1 a6 a7 yi yq tz vz ep1 _ _ hz H hP1 K
    rw [bJ] at hP1
    exact kG s1 a6 a7 _ _ tz ep1 H (by rw [show cZ B k q=vz from(by rw [hz,cZ,if_neg (fun x=>h3 x.1)])];exact hP1) K
  refine step _ fun s1 a6 a7 b6 b7 tz ep1 zq8 hP1 K1=>?_
  obtain⟨p',H⟩:=zq8
  refine ih (k+1) a6 a7 b6 b7 (pre++[cZ B k q]) _ ep1 p' s1 hd' hnv.push (by simp at hsz⊢;lia) hP1 _ fun s2 a62 a72 b62 b72 k2 nv2 ep2 r h4 h5 h6 h7=>?_
  exact kQ s2 a62 a72 b62 b72 k2 nv2 ep2 (H _ _ r) h4 h5 (K1.trans (h6.cast rfl)) (by rw [e8];simpa using h7)
structure pU where
 y6:Tok
 y7:Tok
 x6:Value
 x7:Value
 k:Nat
 ep:Nat
 a0:Int
 a1:Int
 a2:Int
 a3:Int
 a4:Int
 a5:Int
 a6:Int
 t0:Tok
 t1:Tok
 t2:Tok
 t3:Tok
 t4:Tok
 t5:Tok
 t6:Tok
noncomputable def yE(P:Params)(aF aI aD aN B:Nat)(u1 u2 u3 u4 u5 tB:Tok)(v1 v2:Value)(dv:Array Value)(epD:Nat)(x:pU):Result×List Obj×ae:=(m8,(kI P aF aI aD aN B u1 u2 u3 u4 u5 tB v1 v2 dv epD [aa P [105] x.y6 x.x6,aa P [113] x.y7 x.x7] 7 x.k 0 ⟨[.int x.a0 x.t0,.int x.a1 x.t1,.int x.a2 x.t2,.int x.a3 x.t3,.int x.a4 x.t4,.int x.a5 x.t5,.int x.a6 x.t6]⟩ x.ep).map (·.2),[])
theorem dV{js:List Value}{a:Int}{l:List Int}(h:aj ⟨js⟩ (a::l)):∃t js',js=.int a t::js'/\aj ⟨js'⟩ l:=by
 cases js with
 |nil=>have:=h.1;simp at this
 |cons v js'=>
  obtain⟨t,e⟩:=h.2 0 a rfl
  have e:some v=some (Value.int a t):=by simpa using e
  cases e
  refine⟨t,js',rfl,by have:=h.1;simpa using this,fun i j e=>?_⟩
  obtain⟨t',e'⟩:=h.2 (i+1) j (by simpa using e)
  exact⟨t',by simpa using e'⟩
theorem yk{js:List Value}(h:aj ⟨js⟩ []):js=[]:=eq_nil_of_length_eq_zero (by simpa using h.1)
def od(B:Nat)(ds:List Nat)(x:pU):Prop:=[x.a0,x.a1,x.a2,x.a3,x.a4,x.a5,x.a6]=e8 B 0 ds
theorem E4{js:List Value}{v0 v1 v2 v3 v4 v5 v6:Int}(h:aj ⟨js⟩ [v0,v1,v2,v3,v4,v5,v6]){Q:Prop}(k:∀t0 t1 t2 t3 t4 t5 t6,js=[.int v0 t0,.int v1 t1,.int v2 t2,.int v3 t3,.int v4 t4,.int v5 t5,.int v6 t6]->Q):Q:=by
 obtain⟨t0,j0,e0,h0⟩:=dV h
 obtain⟨t1,j1,e1,h1⟩:=dV h0
 obtain⟨t2,j2,e2,h2⟩:=dV h1
 obtain⟨t3,j3,e3,h3⟩:=dV h2
 obtain⟨t4,j4,e4,h4⟩:=dV h3
 obtain⟨t5,j5,e5,h5⟩:=dV h4
 obtain⟨t6,j6,e6,h6⟩:=dV h5
 exact k t0 t1 t2 t3 t4 t5 t6 (by rw [e0,e1,e2,e3,e4,e5,e6,yk h6])
theorem wm(W:WW)(vE:FE)(aF c1 c2 aI aD aN B:Nat)(u1 u2 u3 u4 u5 tB:Tok)(v1 v2:Value)(dv:Array Value)(epD:Nat)(hB:B=2\/B=3)(ds:List Nat)(hdv:aZ dv ds)(h7:ds.length=7):
  cq (Vw W) ⟨fm (pW W) aF c1 c2 aI,none,none,(c6 vE),none⟩ (kI (pW W) aF aI aD aN B u1 u2 u3 u4 u5 tB v1 v2 dv epD [] 5 0 7 ⟨[]⟩ 0) (yE (pW W) aF aI aD aN B u1 u2 u3 u4 u5 tB v1 v2 dv epD) (od B ds):=by
 intro p0 s hP
 refine Eh h7 fun d0 d1 d2 d3 d4 d5 d6 ex=>?_
 subst ex
 obtain⟨tq,hit⟩:=hdv.2 0 d0 rfl
 have hin:=Nl (k:=0) (decide_eq_false (by lia))
 have hP:az (pW W) (kI (pW W) aF aI aD aN B u1 u2 u3 u4 u5 tB v1 v2 dv epD [] 5 0 7 ⟨[]⟩ 0) s:=hP
 apply xV (b7:=true) (W:=W) (hdv:=ft hit) (hfk:=bZ (by lia)) (hB:=hB) (hsz:=zero_le _) (hin:=hin) (hE:=rfl) (hP:=hP) (p0:=p0) (m:=6) (u6:=0) (u7:=0) (vI:=.none) (vQ:=.none) (kQ:=?k69) ..
 case' k69=>intro n tb s1 a6 a7 yi yq tz vz ep1 _ _ hz zp68 hP1 K1
 obtain⟨p',H⟩:=zp68
 rw [bJ] at hP1
 have hz:vz=cZ B 0 d0:=by rw [hz,cZ,if_neg (by lia)]
 subst hz
 refine CV W vE aF c1 c2 aI aD aN B u1 u2 u3 u4 u5 tB v1 v2 dv epD hB [d0,d1,d2,d3,d4,d5,d6] hdv (by simp) [d1,d2,d3,d4,d5,d6] 1 a6 a7 _ _ ([]++[cZ B 0 d0]) _ ep1 p' s1 rfl (aj.push (vs:=⟨[]⟩) (l:=[]) ⟨rfl,fun i v e=>by simp at e⟩) (by simp) hP1 _ fun s2 y6 y7 x6 x7 k2 zq23 ep2 r h4 h5 h6 h8=>?_
 obtain⟨js⟩:=zq23
 have cx:aj ⟨js⟩ [cZ B 0 d0,cZ B 1 d1,cZ B 2 d2,cZ B 3 d3,cZ B 4 d4,cZ B 5 d5,cZ B 6 d6]:=h8
 refine E4 cx fun t0 t1 t2 t3 t4 t5 t6 ex=>?_
 subst ex
 exact⟨⟨y6,y7,x6,x7,k2,ep2,_,_,_,_,_,_,_,t0,t1,t2,t3,t4,t5,t6⟩,s2,H _ _ r,h4,K1.trans (h6.cast rfl),⟨h5.1,h5.2.1,h5.2.2.1,h5.2.2.2.1,trivial⟩,trivial,(fun y hy=>nomatch hy),nodup_nil,rfl⟩
noncomputable def ru:Value->Int
 |.int i _=>i
 |_=>0
noncomputable def MV:Value->Nat
 |.int (.ofNat n) _=>n
 |_=>0
noncomputable def no(items:Array Value):List Nat:=match items with
 |⟨l⟩=>l.map MV
abbrev wa a b:=Int.toNat (ru (bW a b 3).2)
noncomputable def DQ(W:WW)(vE:FE)(aF c1 c2:Nat)(iF iI iD iN mm ro:Nat):bM:=oP (X:=pU) (Vw W) (fun st=>aZ (fx st iD) (no (fx st iD))/\(no (fx st iD)).length=7/\((wa st iF)=2\/(wa st iF)=3)) (fun st=>⟨fm (pW W) aF c1 c2 (ce st iI),none,none,(c6 vE),none⟩) (fun st=>kI (pW W) aF (ce st iI) (ce st iD) (ce st iN) (wa st iF) (bW st iF 0).1 (bW st iF 1).1 (bW st iF 2).1 (bW st iF 3).1 (bW st iF 4).1 (lj (bW st iF 3).2) (bW st iF 0).2 (bW st iF 1).2 (fx st iD) (fl st iD) [] 5 0 7 ⟨[]⟩ 0) [iF,iI,iD,iN] mm ro (fun st=>yE (pW W) aF (ce st iI) (ce st iD) (ce st iN) (wa st iF) (bW st iF 0).1 (bW st iF 1).1 (bW st iF 2).1 (bW st iF 3).1 (bW st iF 4).1 (lj (bW st iF 3).2) (bW st iF 0).2 (bW st iF 1).2 (fx st iD) (fl st iD)) (fun st=>od (wa st iF) (no (fx st iD)))
theorem xa(W:WW)(vE:FE)(aF c1 c2:Nat){iF iI iD iN:Nat}{V:XV}(hk:V.kt=eG (pW W)):bX V (model pw (Vw W)) (DQ W vE aF c1 c2 iF iI iD iN V.mm V.ro):=
 fp hk fun st h=>(wm W vE aF c1 c2 _ _ _ _ _ _ _ _ _ _ _ _ _ _ h.2.2 _ h.1 h.2.1).toF
noncomputable def ET(e:Expr)(outer:Env)(L:Addr)(n:Str)(c:Addr):Env:={lG e outer L with cells:=(n,c)::mN (ix e) outer}
noncomputable def l8(P:Params)(aF c1 c2 ck aL:Nat):Env:=ET (vX P) (bo P aF c1 c2) (A aL) ⟨⟨[107]⟩⟩ (A ck)
noncomputable def gx(P:Params)(aF c1 c2 ck aL aI aC:Nat):Code:=.compLoop (vX P) 0 (Yp aI) (Yp aC) (l8 P aF c1 c2 ck aL)
noncomputable def C5(P:Params):Expr:=mD (Ab (vX P))
noncomputable def cv(P:Params)(aF c1 c2 ck aL0 aL aI aC:Nat):Code:=.compLoop (C5 P) 0 (Yp aI) (Yp aC) (lG (C5 P) (l8 P aF c1 c2 ck aL0) (A aL))
theorem me{a b:Int}{t u:Tok}{v:Bool}{l}(h:decide (a<=b)=v):av (.builtin "int.__le__" ⟨[.int a t,.int b u],[]⟩) l (.val (.bool v)):=by
 subst h;exact av.mk PySem.F.entry_int_le (gives_int_le a b t u) trivial
noncomputable abbrev tK a b c d e f g h i:=([(.compLoop a 0 b c d,e),(.func f g,h),(Y7,i)]:List (Code×Pos))
abbrev OM a b c:=(.builtin "int.__le__" ⟨[(.int Yx (Y8 a 2)),(.int (Int.ofNat b-Int.ofNat c) (Y8 a 3))],[]⟩:Code)
theorem mM(W:WW)(b7:Bool)(p0:Pos)(p3 p5 p6:Pos)(ge:Expr)(gi ga:Value)(gn n4:Env)(f2:List Stmt)(aF c1 c2 ck aM aL aI aC aA aB k i m:Nat)(a b:Int)(uI tk ta tc:Tok)(vI:Value)(fv sv as:Array Value)(epA epB epC:Nat)(s:Shared)(hle:decide ((0:Int)<=Int.ofNat k-Int.ofNat i)=true)(hlt:decide (Int.ofNat k-Int.ofNat i<3)=true)(hfi:bO (Yh i))(hga:(zD i fv).bind (fun j=>fv[j]?)=some (b8 a ta))(hfj:bO (Int.ofNat k-Int.ofNat i))(hgb:(seqIndex? (Int.ofNat k-Int.ofNat i) sv.size).bind (fun j=>sv[j]?)=some (b8 b tc))(hba:Builtin.Int.intBits a<=64)(hsz:as.size<=1000)(E:WW->ae)(hE:E=fun W=>[(A aL,ah "dict" (cond b7 [] [aa (pW W) [105] uI vI]) (cond b7 0 1)),(qQ aI i m),(Yk aC as epC),(Y6 c1 aA),(Y6 c2 aB),(jz ck k tk),(Yk aA fv epA),(Yk aB sv epB)])(hP:az (pW W) (E W) s){Q:Prop}(kQ:∀(n tb:Nat) (s':Shared) (y yi tz:Tok) (ep:Nat),Hn s n->Ht s tb->br (Yt W) (⟨cv (pW W) aF c1 c2 ck aM aL aI aC,none,none,(tK ge gi ga gn p3 f2 n4 p5 p6),none⟩) p0 s s'->az (pW W) ([(A aL,ah "dict" [aa (pW W) [105] y (cr i yi)] 1),(A aI,aK "range_iterator" [rB i,.int (Int.ofNat (Nat.succ m)-1) 0,jx]),(A aC,ab (as.push (.int (a*b) tz)) ep),(Y6 c1 aA),(Y6 c2 aB),(jz ck k tk),(Yk aA fv epA),(Yk aB sv epB)]) s'->af (E W) s s'->Q):Q:=by
 obtain⟨n,tb,gb,hn,ht,hg⟩:=hP.nt
 refine bT hE hP hn ht hg (fun E W Z hs=>cm (ei (Vw W) 8 [pn,pn,(co 6 (b8 a ta)),(co 7 (b8 b tc)),(dM [] jt),(cf 2)] [] [] []) 124 (⟨cv (pW W) aF c1 c2 ck aM aL aI aC,none,none,(tK ge gi ga gn p3 f2 n4 p5 p6),none⟩) (p0) (aQ (cv (pW W) aF c1 c2 ck aM aL aI aC)) [] hs (cO E n tb gb) (kZ [0,1,2,3,4,5,6,7] Z)) (fun E W Z hs=>ad (lE E) (A n) gb (sl hs 0 13) ((av (OM tb k i) [] ww/\Yc)/\ad (lE E) (A n) gb (sl hs 13 0) ((av (.builtin "int.__lt__" ⟨[(.int (Int.ofNat k-Int.ofNat i) (Y8 tb 3)),(CJ tb 3 4)],[]⟩) [] ww/\Yc)/\ad (lE E) (A n) gb (sl hs 16 6) ((He aA i tb fv a ta)/\ad (lE E) (A n) gb (sl hs 23 7) (((Rf (.builtin "list.__getitem__" ⟨[(Yp aB),(.int (Int.ofNat k-Int.ofNat i) (Y8 tb 5))],[]⟩:Code))/\(bO (Int.ofNat k-Int.ofNat i)/\((((seqIndex? (Int.ofNat k-Int.ofNat i) sv.size).bind fun j=>sv[j]?):i8)=(some (iU b tc)))))/\ad (lE E) (A n) gb (sl hs 30 0) ((av (.builtin "int.__mul__" ⟨[(iU a ta),(iU b tc)],[]⟩) [] (jt (.builtin "int.__mul__" ⟨[(iU a ta),(iU b tc)],[]⟩))/\Yc)/\ad (lE E) (A n) gb (sl hs 32 1) (((Rf (.builtin "list.append" ⟨[(Yp aC),(.int (a*b) (Y8 tb 6))],[]⟩:Code))/\(rE as))/\ad (lE E) (A n) gb (sl hs 34 1) (Z (.again (cv (pW W) aF c1 c2 ck aM aL aI aC)) (Y2 n 0) (Y8 tb 7) true (ax ([((A aL),⟨(.type "dict"),none,(.dict ⟨[⟨(PyData.keyHash (pW W) (kz 105)),(.str (kz 105) (cond b7 (Y8 tb 1) uI)),(ki i tb)⟩]⟩ 1),⟨[]⟩⟩),((A aI),⟨zy,none,(.fields ⟨[(.int (Int.ofNat i+Int.ofNat 1) 0),(.int (Int.ofNat (m.add 1)-1) 0),(.int (Int.ofNat 1) 0)]⟩),⟨[]⟩⟩),(A aC,Obj.mapSeq (·.push (Value.int (a*b) (Y8 tb 6))) (ab as epC)),(Y6 c1 aA),(Y6 c2 aB),(jz ck k tk),(Yk aA fv epA),(Yk aB sv epB)])))))))))) (fun _=>(gE [90002,1,1,6,1,3001,4000,4001,4,1,40007,4002,5,6,1,40008,4003,4004,3,4005,3,3000])) (by apply iW b7<;>exact iY (by kernel_rfl)) rfl ⟨fun _=>au,fun _=>au,fun _=>bB,fun _=>bB,fun _=>bs,fun _=>bx,trivial⟩ trivial rfl fun hs=>?_
 refine rI ⟨me hle,rfl⟩ ?_
 refine rI ⟨gM hlt,rfl⟩ ?_
 refine rI ⟨rfl,hfi,hga⟩ ?_
 refine rI ⟨rfl,hfj,hgb⟩ ?_
 refine rI ⟨eV hba,rfl⟩ ?_
 refine rI ⟨rfl,⟨rfl,rfl,rfl⟩,hsz⟩ ?_
 exact rF fun s' r _ h3 h4 h5=>kQ n tb s' _ _ _ _ hn ht (am rfl r) ⟨h4,ai h3,(nx hE hP).nd,(nx hE hP).lo⟩ h5
theorem wk(W:WW)(p0:Pos)(p3 p5 p6:Pos)(ge:Expr)(gi ga:Value)(gn n4:Env)(f2:List Stmt)(aF c1 c2 ck aM aL aI aC aA aB k i m:Nat)(a b:Int)(uI tk ta tc:Tok)(vI:Value)(fv sv as:Array Value)(epA epB epC:Nat)(s:Shared)(hle:decide ((0:Int)<=Int.ofNat k-Int.ofNat i)=false)(E:WW->ae)(hE:E=fun W=>[(A aL,ah "dict" [aa (pW W) [105] uI vI] 1),(qQ aI i m),(Yk aC as epC),(Y6 c1 aA),(Y6 c2 aB),(jz ck k tk),(Yk aA fv epA),(Yk aB sv epB)])(hP:az (pW W) (E W) s){Q:Prop}(kQ:∀(n tb:Nat) (s':Shared) (y yi:Tok),Hn s n->Ht s tb->br (Yt W) (⟨cv (pW W) aF c1 c2 ck aM aL aI aC,none,none,(tK ge gi ga gn p3 f2 n4 p5 p6),none⟩) p0 s s'->az (pW W) ([(A aL,ah "dict" [aa (pW W) [105] y (cr i yi)] 1),(A aI,aK "range_iterator" [rB i,.int (Int.ofNat (Nat.succ m)-1) 0,jx]),(Yk aC as epC),(Y6 c1 aA),(Y6 c2 aB),(jz ck k tk),(Yk aA fv epA),(Yk aB sv epB)]) s'->af (E W) s s'->Q):Q:=by
 obtain⟨n,tb,gb,hn,ht,hg⟩:=hP.nt
 refine bT hE hP hn ht hg (fun E W Z hs=>cm (ei (Vw W) 8 [mx] [] [] []) 77 (⟨cv (pW W) aF c1 c2 ck aM aL aI aC,none,none,(tK ge gi ga gn p3 f2 n4 p5 p6),none⟩) (p0) (aQ (cv (pW W) aF c1 c2 ck aM aL aI aC)) [] hs (cO E n tb gb) (kZ [0,1,2,3,4,5,6,7] Z)) (fun E W Z hs=>ad (lE E) (A n) gb (sl hs 0 13) ((av (OM tb k i) [] wu/\Yc)/\ad (lE E) (A n) gb (sl hs 13 0) (Z (.again (cv (pW W) aF c1 c2 ck aM aL aI aC)) (Y2 n 0) (Y8 tb 4) true (ax ([((A aL),⟨(.type "dict"),none,(.dict ⟨[⟨(PyData.keyHash (pW W) (kz 105)),(.str (kz 105) uI),(ki i tb)⟩]⟩ 1),⟨[]⟩⟩),((A aI),⟨zy,none,(.fields ⟨[(.int (Int.ofNat i+Int.ofNat 1) 0),(.int (Int.ofNat (m.add 1)-1) 0),(.int (Int.ofNat 1) 0)]⟩),⟨[]⟩⟩),(Yk aC as epC),(Y6 c1 aA),(Y6 c2 aB),(jz ck k tk),(Yk aA fv epA),(Yk aB sv epB)]))))) (fun _=>(gE [90002,1,1,6,1,3001,4000,3000])) (iY (by kernel_rfl)) rfl ⟨fun _=>au,trivial⟩ trivial rfl fun hs=>?_
 refine rI ⟨me hle,rfl⟩ ?_
 exact rF fun s' r _ h3 h4 h5=>kQ n tb s' _ _ hn ht (am rfl r) ⟨h4,ai h3,(nx hE hP).nd,(nx hE hP).lo⟩ h5
theorem m9(W:WW)(b7:Bool)(p0:Pos)(p3 p5 p6:Pos)(ge:Expr)(gi ga:Value)(gn n4:Env)(f2:List Stmt)(aF c1 c2 ck aM aL aI aC aA aB k i m:Nat)(a b:Int)(uI tk ta tc:Tok)(vI:Value)(fv sv as:Array Value)(epA epB epC:Nat)(s:Shared)(hle:decide ((0:Int)<=Int.ofNat k-Int.ofNat i)=true)(hlt:decide (Int.ofNat k-Int.ofNat i<3)=false)(E:WW->ae)(hE:E=fun W=>[(A aL,ah "dict" (cond b7 [] [aa (pW W) [105] uI vI]) (cond b7 0 1)),(qQ aI i m),(Yk aC as epC),(Y6 c1 aA),(Y6 c2 aB),(jz ck k tk),(Yk aA fv epA),(Yk aB sv epB)])(hP:az (pW W) (E W) s){Q:Prop}(kQ:∀(n tb:Nat) (s':Shared) (y yi:Tok),Hn s n->Ht s tb->br (Yt W) (⟨cv (pW W) aF c1 c2 ck aM aL aI aC,none,none,(tK ge gi ga gn p3 f2 n4 p5 p6),none⟩) p0 s s'->az (pW W) ([(A aL,ah "dict" [aa (pW W) [105] y (cr i yi)] 1),(A aI,aK "range_iterator" [rB i,.int (Int.ofNat (Nat.succ m)-1) 0,jx]),(Yk aC as epC),(Y6 c1 aA),(Y6 c2 aB),(jz ck k tk),(Yk aA fv epA),(Yk aB sv epB)]) s'->af (E W) s s'->Q):Q:=by
 obtain⟨n,tb,gb,hn,ht,hg⟩:=hP.nt
 refine bT hE hP hn ht hg (fun E W Z hs=>cm (ei (Vw W) 8 [pn,mx] [] [] []) 83 (⟨cv (pW W) aF c1 c2 ck aM aL aI aC,none,none,(tK ge gi ga gn p3 f2 n4 p5 p6),none⟩) (p0) (aQ (cv (pW W) aF c1 c2 ck aM aL aI aC)) [] hs (cO E n tb gb) (kZ [0,1,2,3,4,5,6,7] Z)) (fun E W Z hs=>ad (lE E) (A n) gb (sl hs 0 13) ((av (OM tb k i) [] ww/\Yc)/\ad (lE E) (A n) gb (sl hs 13 0) ((av (.builtin "int.__lt__" ⟨[(.int (Int.ofNat k-Int.ofNat i) (Y8 tb 3)),(CJ tb 3 4)],[]⟩) [] wu/\Yc)/\ad (lE E) (A n) gb (sl hs 13 0) (Z (.again (cv (pW W) aF c1 c2 ck aM aL aI aC)) (Y2 n 0) (Y8 tb 5) true (ax ([((A aL),⟨(.type "dict"),none,(.dict ⟨[⟨(PyData.keyHash (pW W) (kz 105)),(.str (kz 105) (cond b7 (Y8 tb 1) uI)),(ki i tb)⟩]⟩ 1),⟨[]⟩⟩),((A aI),⟨zy,none,(.fields ⟨[(.int (Int.ofNat i+Int.ofNat 1) 0),(.int (Int.ofNat (m.add 1)-1) 0),(.int (Int.ofNat 1) 0)]⟩),⟨[]⟩⟩),(Yk aC as epC),(Y6 c1 aA),(Y6 c2 aB),(jz ck k tk),(Yk aA fv epA),(Yk aB sv epB)])))))) (fun _=>(gE [90002,1,1,6,1,3001,4000,4001,3000])) (by apply iW b7<;>exact iY (by kernel_rfl)) rfl ⟨fun _=>au,fun _=>au,trivial⟩ trivial rfl fun hs=>?_
 refine rI ⟨me hle,rfl⟩ ?_
 refine rI ⟨gM hlt,rfl⟩ ?_
 exact rF fun s' r _ h3 h4 h5=>kQ n tb s' _ _ hn ht (am rfl r) ⟨h4,ai h3,(nx hE hP).nd,(nx hE hP).lo⟩ h5
section
variable(W:WW)(p0 p3 p5 p6:Pos)(ge:Expr)(gi ga:Value)(gn n4:Env)(f2:List Stmt)(aF c1 c2 ck aM aL aI aC:Nat)
include W p0 p3 p5 p6 ge gi ga gn n4 f2 aF c1 c2 ck aM aL aI aC
theorem AZ(i el:Nat)(loc:List DictEntry)(as:Array Value)(epC:Nat)(s:Shared)(E:WW->ae)(hE:E=fun W=>[(mh aL loc el),(ku aI i),(Yk aC as epC)])(hP:az (pW W) (E W) s){Q:Prop}(kQ:∀(n tb:Nat) (s':Shared),Hn s n->Ht s tb->Runs (Yt W) (⟨cv (pW W) aF c1 c2 ck aM aL aI aC,none,none,(tK ge gi ga gn p3 f2 n4 p5 p6),none⟩) p0 ((Yt W).den (cv (pW W) aF c1 c2 ck aM aL aI aC)) [] s fu s'->cN (pW W) s'->cI ([(mh aL loc el),(ku aI i),(Yk aC as epC)]) s'.heap->af (E W) s s'->Q):Q:=by
 obtain⟨n,tb,gb,hn,ht,hg⟩:=hP.nt
 refine bT hE hP hn ht hg (fun E W Z hs=>cm (oZ W 3) 55 (⟨cv (pW W) aF c1 c2 ck aM aL aI aC,none,none,(tK ge gi ga gn p3 f2 n4 p5 p6),none⟩) (p0) (aQ (cv (pW W) aF c1 c2 ck aM aL aI aC)) [] hs (cO E n tb gb) (mb Z)) (fun E W Z hs=>ad (lE E) (A n) gb (sl hs 0 6) (Z oY (Y2 n 2) (Y8 tb 0) true (ax ([(mh aL loc el),(ku aI i),(Yk aC as epC)])))) (fun _=>[2,2,2,2,2,5]) (oW (by kernel_rfl)) rfl trivial (by exact trivial) rfl fun hs=>?_
 exact rF fun s' r _ h3 h4 h5=>kQ n tb s' hn ht (by rw [bI];exact r) h4 (ai h3) h5
theorem AP(m:Nat)(s:Shared)(E:WW->ae)(hE:E=fun W=>[(A aL,eI),(xP aI m),(A aC,iz)])(hP:az (pW W) (E W) s){Q:Prop}(kQ:∀(n tb:Nat) (s':Shared),Hn s n->Ht s tb->cu (Yt W) (⟨ay (cv (pW W) aF c1 c2 ck aM aL aI aC),none,none,(tK ge gi ga gn p3 f2 n4 p5 p6),none⟩) (cv (pW W) aF c1 c2 ck aM aL aI aC) p0 s s'->az (pW W) ([(A aL,eI),(xP aI m),(A aC,iz)]) s'->af (E W) s s'->Q):Q:=by
 obtain⟨n,tb,gb,hn,ht,hg⟩:=hP.nt
 refine bT hE hP hn ht hg (fun E W Z hs=>cm (oZ W 3) 52 (⟨ay (cv (pW W) aF c1 c2 ck aM aL aI aC),none,none,(tK ge gi ga gn p3 f2 n4 p5 p6),none⟩) (p0) (aQ (ay (cv (pW W) aF c1 c2 ck aM aL aI aC))) [] hs (cO E n tb gb) (mb Z)) (fun E W Z hs=>ad (lE E) (A n) gb (zt hs W) (Z (.again (cv (pW W) aF c1 c2 ck aM aL aI aC)) (Y2 n 0) (Y8 tb 0) true (ax ([(A aL,eI),(xP aI m),(A aC,iz)])))) zE (pD (by kernel_rfl)) rfl trivial (by exact trivial) rfl fun hs=>?_
 exact rF fun s' r _ h3 h4 h5=>kQ n tb s' hn ht (ch r) ⟨h4,ai h3,(nx hE hP).nd,(nx hE hP).lo⟩ h5
end
noncomputable def dN(fs ss:List Int)(k i:Nat):List Int:=if i<=k/\k-i<3 then [fs.getD i 0*ss.getD (k-i) 0] else []
noncomputable def bA(fs ss:List Int)(k:Nat):Nat->Nat->List Int
 |_,0=>[]
 |i,m+1=>dN fs ss k i++bA fs ss k (i+1) m
theorem mE(fs ss:List Int)(k i:Nat):(dN fs ss k i).length<=1:=by unfold dN;split<;>simp
section
variable(W:WW)(p3 p5 p6:Pos)(ge:Expr)(gi ga:Value)(gn n4:Env)(f2:List Stmt)(aF c1 c2 ck aM aL aI aC aA aB k:Nat)(tk:Tok)(fv sv:Array Value)(epA epB:Nat)(fs ss:List Int)(hfv:aj fv fs)(hsv:aj sv ss)(hf4:fs.length=4)(hs3:ss.length=3)(hb:∀a∈fs,Builtin.Int.intBits a<=64)(hk:k<=100)
include W p3 p5 p6 ge gi ga gn n4 f2 aF c1 c2 ck aM aL aI aC aA aB k tk fv sv epA epB fs ss hfv hsv hf4 hs3 hb hk
theorem yh:∀(m i:Nat) (u:Tok) (v:Value) (pre:List Int) (as:Array Value) (ep:Nat) (p0:Pos) (s:Shared),i+m=4->aj as pre->as.size+m<=1000->az (pW W) [(A aL,ah "dict" [aa (pW W) [105] u v] 1),(C3 aI i m),(Yk aC as ep),(Y6 c1 aA),(Y6 c2 aB),(jz ck k tk),(Yk aA fv epA),(Yk aB sv epB)] s->
  ∀Q:Prop,(∀s' u' v' i' ep' as',Runs (Yt W) ⟨cv (pW W) aF c1 c2 ck aM aL aI aC,none,none,(tK ge gi ga gn p3 f2 n4 p5 p6),none⟩ p0 ((Yt W).den (cv (pW W) aF c1 c2 ck aM aL aI aC)) [] s fu s'->cN (pW W) s'->cI [(A aL,ah "dict" [aa (pW W) [105] u' v'] 1),(ku aI i'),(Yk aC as' ep'),(Y6 c1 aA),(Y6 c2 aB),(jz ck k tk),(Yk aA fv epA),(Yk aB sv epB)] s'.heap->af [(A aL,ah "dict" [aa (pW W) [105] u v] 1),(C3 aI i m),(Yk aC as ep),(Y6 c1 aA),(Y6 c2 aB),(jz ck k tk),(Yk aA fv epA),(Yk aB sv epB)] s s'->aj as' (pre++bA fs ss k i m)->Q)->Q:=by
 intro m0
 induction m0 with
 |zero=>
  intro i u v pre as ep p0 s him hls hsz hP Q kQ
  have hP2:az (pW W) [(A aL,ah "dict" [aa (pW W) [105] u v] 1),(ku aI i),(Yk aC as ep)] s:=az.mid (E1:=[]) (E3:=[(Y6 c1 aA),(Y6 c2 aB),(jz ck k tk),(Yk aA fv epA),(Yk aB sv epB)]) hP
  apply AZ (W:=W) (hE:=rfl) (hP:=hP2) (p0:=p0) (kQ:=?k70) ..
  case' k70=>intro n tb s' _ _ r h1 h2 h3
  obtain⟨hr,hkp⟩:=az.mid_back (E1:=[]) (E3:=[(Y6 c1 aA),(Y6 c2 aB),(jz ck k tk),(Yk aA fv epA),(Yk aB sv epB)]) hP h2 h3
  exact kQ s' u v i ep as r h1 hr hkp (by simpa [bA] using hls)
 |succ m ih=>
  intro i u v pre as ep p0 s him hls hsz hP Q kQ
  obtain⟨a,ha⟩:∃a,fs[i]? =some a:=⟨_,List.getElem?_eq_getElem (by lia)⟩
  obtain⟨ta,hia⟩:=hfv.2 _ _ ha
  have hP:az (pW W) [(A aL,ah "dict" [aa (pW W) [105] u v] 1),(A aI,aK "range_iterator" [Ye i,rB m,jx]),(Yk aC as ep),(Y6 c1 aA),(Y6 c2 aB),(jz ck k tk),(Yk aA fv epA),(Yk aB sv epB)] s:=hP
  have hsub:i<=k->Int.ofNat k-Int.ofNat i=Int.ofNat (k-i):=fun h=>by show(k:Int)-(i:Int)=((k-i:Nat):Int);lia
  have hle:i<=k->decide ((0:Int)<=Int.ofNat k-Int.ofNat i)=true:=fun h=>decide_eq_true (by rw [hsub h];exact natCast_nonneg _)
  have step:∀G:Prop,(∀s1 y v1 as1 ep1,br (Yt W) ⟨cv (pW W) aF c1 c2 ck aM aL aI aC,none,none,(tK ge gi ga gn p3 f2 n4 p5 p6),none⟩ p0 s s1->az (pW W) [(A aL,ah "dict" [aa (pW W) [105] y v1] 1),(A aI,aK "range_iterator" [rB i,Ye m,jx]),(Yk aC as1 ep1),(Y6 c1 aA),(Y6 c2 aB),(jz ck k tk),(Yk aA fv epA),(Yk aB sv epB)] s1->af [(A aL,ah "dict" [aa (pW W) [105] u v] 1),(A aI,aK "range_iterator" [Ye i,rB m,jx]),(Yk aC as ep),(Y6 c1 aA),(Y6 c2 aB),(jz ck k tk),(Yk aA fv epA),(Yk aB sv epB)] s s1->aj as1 (pre++dN fs ss k i)->G)->G:=by
   intro G kG
   by_cases h1:i<=k
   by_cases h2:k-i<3
   ·have hlt:decide (Int.ofNat k-Int.ofNat i<3)=true:=decide_eq_true (by rw [hsub h1];exact Int.ofNat_lt.mpr h2)
    obtain⟨b,hb2⟩:∃b,ss[k-i]? =some b:=⟨_,List.getElem?_eq_getElem (by lia)⟩
    obtain⟨tc,hib⟩:=hsv.2 _ _ hb2
    apply mM (b7:=false) (W:=W) (hle:=hle h1) (hlt:=hlt) (hfi:=bZ (by lia)) (hga:=ft hia) (hfj:=by rw [hsub h1];exact bZ (by lia)) (hgb:=by rw [hsub h1];exact ft hib) (hba:=hb a (mem_of_getElem? ha)) (hsz:=by lia) (hE:=rfl) (hP:=hP) (p0:=p0) (m:=m) (kQ:=?k71) ..
    case' k71=>intro n tb s1 y yi tz ep1 _ _ H hP1 K
    rw [bJ] at hP1
    exact kG s1 y _ _ ep1 H hP1 K (by rw [dN,if_pos ⟨h1,h2⟩,getD_eq_getElem?_getD,getD_eq_getElem?_getD,ha,hb2];simpa using aj.push hls)
   ·have hlt:decide (Int.ofNat k-Int.ofNat i<3)=false:=decide_eq_false (by rw [hsub h1];exact fun e=>h2 (Int.ofNat_lt.mp e))
    apply m9 (b7:=false) (W:=W) (hle:=hle h1) (hlt:=hlt) (a:=0) (b:=0) (ta:=0) (tc:=0) (hE:=rfl) (hP:=hP) (p0:=p0) (m:=m) (kQ:=?k72) ..
    case' k72=>intro n tb s1 y yi _ _ H hP1 K
    rw [bJ] at hP1
    exact kG s1 y _ _ _ H hP1 K (by rw [dN,if_neg (fun x=>h2 x.2)];simpa using hls)
   ·have hlo:decide ((0:Int)<=Int.ofNat k-Int.ofNat i)=false:=decide_eq_false (by show¬((0:Int)<=(k:Int)-(i:Int));lia)
    apply wk (W:=W) (hle:=hlo) (a:=0) (b:=0) (ta:=0) (tc:=0) (hE:=rfl) (hP:=hP) (p0:=p0) (m:=m) (kQ:=?k73) ..
    case' k73=>intro n tb s1 y yi _ _ H hP1 K
    rw [bJ] at hP1
    exact kG s1 y _ _ _ H hP1 K (by rw [dN,if_neg (fun x=>h1 x.1)];simpa using hls)
  refine step _ fun s1 y v1 as1 ep1 zq9 hP1 K1 hl1=>?_
  obtain⟨p',H⟩:=zq9
  have hs1:as1.size<=as.size+1:=by
   rw [hl1.1,hls.1,List.length_append]
   have:=mE fs ss k i
   lia
  refine ih (i+1) y v1 (pre++dN fs ss k i) as1 ep1 p' s1 (by lia) hl1 (by lia) hP1 _ fun s2 u2 v2 i2 ep2 as2 r h4 h5 h6 h7=>?_
  exact kQ s2 u2 v2 i2 ep2 as2 (H _ _ r) h4 h5 (K1.trans (h6.cast rfl)) (by rw [bA,<-append_assoc];exact h7)
structure Dn where
 u:Tok
 v:Value
 k:Nat
 ep:Nat
 ls:Array Value
noncomputable def tO(W:WW)(p3 p5 p6:Pos)(ge:Expr)(gi ga:Value)(gn n4:Env)(f2:List Stmt)(aF c1 c2 ck aM aL aI aC aA aB k:Nat)(tk:Tok)(fv sv:Array Value)(epA epB:Nat)(x:Dn):Result×List Obj×ae:=(m8,([(A aL,ah "dict" [aa (pW W) [105] x.u x.v] 1),(A aI,aK "range_iterator" [.int (Int.ofNat x.k) 0,Ym,jx]),(A aC,ab x.ls x.ep),(Y6 c1 aA),(Y6 c2 aB),(jz ck k tk),(Yk aA fv epA),(Yk aB sv epB)]:ae).map (·.2),[])
abbrev Dh a:=aK "range_iterator" [Ym,.int (Int.ofNat a) 0,jx]
theorem r7:cq (Vw W) ⟨ay (cv (pW W) aF c1 c2 ck aM aL aI aC),none,none,(tK ge gi ga gn p3 f2 n4 p5 p6),none⟩ [(A aL,eI),(A aI,Dh 4),(A aC,iz),(Y6 c1 aA),(Y6 c2 aB),(jz ck k tk),(Yk aA fv epA),(Yk aB sv epB)] (tO W p3 p5 p6 ge gi ga gn n4 f2 aF c1 c2 ck aM aL aI aC aA aB k tk fv sv epA epB) (fun x=>aj x.ls (bA fs ss k 0 4)):=
 dU (C:=cv (pW W) aF c1 c2 ck aM aL aI aC) (fun p0 s hP=>by
  obtain⟨a,ha⟩:∃a,fs[0]? =some a:=⟨_,List.getElem?_eq_getElem (by lia)⟩
  obtain⟨ta,hia⟩:=hfv.2 _ _ ha
  have hls0:aj ⟨[]⟩ []:=⟨rfl,fun i v e=>by simp at e⟩
  have h1:0<=k:=zero_le _
  have hP:az (pW W) [(A aL,eI),(A aI,aK "range_iterator" [Ym,.int (Int.ofNat (3+1)) 0,jx]),(A aC,iz),(Y6 c1 aA),(Y6 c2 aB),(jz ck k tk),(Yk aA fv epA),(Yk aB sv epB)] s:=hP
  have hsub:0<=k->Int.ofNat k-Int.ofNat 0=Int.ofNat (k-0):=fun h=>by show(k:Int)-(0:Int)=((k-0:Nat):Int);lia
  have hle:0<=k->decide ((0:Int)<=Int.ofNat k-Int.ofNat 0)=true:=fun h=>decide_eq_true (by rw [hsub h];exact natCast_nonneg _)
  have step:∀G:Prop,(∀s1 y v1 as1 ep1,br (Yt W) ⟨cv (pW W) aF c1 c2 ck aM aL aI aC,none,none,(tK ge gi ga gn p3 f2 n4 p5 p6),none⟩ p0 s s1->az (pW W) [(A aL,ah "dict" [aa (pW W) [105] y v1] 1),(A aI,aK "range_iterator" [.int (Int.ofNat (0+1)) 0,.int (Int.ofNat 3) 0,jx]),(Yk aC as1 ep1),(Y6 c1 aA),(Y6 c2 aB),(jz ck k tk),(Yk aA fv epA),(Yk aB sv epB)] s1->af [(A aL,eI),(A aI,aK "range_iterator" [Ym,.int (Int.ofNat (3+1)) 0,jx]),(A aC,iz),(Y6 c1 aA),(Y6 c2 aB),(jz ck k tk),(Yk aA fv epA),(Yk aB sv epB)] s s1->aj as1 (dN fs ss k 0)->G)->G:=by
   intro G kG
   by_cases h2:k-0<3
   ·have hlt:decide (Int.ofNat k-Int.ofNat 0<3)=true:=decide_eq_true (by rw [hsub h1];exact Int.ofNat_lt.mpr h2)
    obtain⟨b,hb2⟩:∃b,ss[k-0]? =some b:=⟨_,List.getElem?_eq_getElem (by lia)⟩
    obtain⟨tc,hib⟩:=hsv.2 _ _ hb2
    apply mM (b7:=true) (W:=W) (hle:=hle h1) (hlt:=hlt) (hfi:=bZ (by lia)) (hga:=ft hia) (hfj:=by rw [hsub h1];exact bZ (by lia)) (hgb:=by rw [hsub h1];exact ft hib) (hba:=hb a (mem_of_getElem? ha)) (hsz:=by simp) (hE:=rfl) (hP:=hP) (p0:=p0) (m:=3) (uI:=0) (vI:=.none) (kQ:=?k74) ..
    case' k74=>intro n tb s1 y yi tz ep1 _ _ H hP1 K
    rw [bJ] at hP1
    exact kG s1 y _ _ ep1 H hP1 K (by rw [dN,if_pos ⟨h1,h2⟩,getD_eq_getElem?_getD,getD_eq_getElem?_getD,ha,hb2];simpa using aj.push hls0)
   ·have hlt:decide (Int.ofNat k-Int.ofNat 0<3)=false:=decide_eq_false (by rw [hsub h1];exact fun e=>h2 (Int.ofNat_lt.mp e))
    apply m9 (b7:=true) (W:=W) (hle:=hle h1) (hlt:=hlt) (a:=0) (b:=0) (ta:=0) (tc:=0) (hE:=rfl) (hP:=hP) (p0:=p0) (m:=3) (uI:=0) (vI:=.none) (kQ:=?k75) ..
    case' k75=>intro n tb s1 y yi _ _ H hP1 K
    rw [bJ] at hP1
    exact kG s1 y _ _ _ H hP1 K (by rw [dN,if_neg (fun x=>h2 x.2)];simpa using hls0)
  refine step _ fun s1 y v1 as1 ep1 zq10 hP1 K1 hl1=>?_
  obtain⟨p',H⟩:=zq10
  have hs1:as1.size<=1:=by rw [hl1.1];exact mE fs ss k 0
  refine yh W p3 p5 p6 ge gi ga gn n4 f2 aF c1 c2 ck aM aL aI aC aA aB k tk fv sv epA epB fs ss hfv hsv hf4 hs3 hb hk 3 1 y v1 (dN fs ss k 0) as1 ep1 p' s1 (by lia) hl1 (by lia) hP1 _ fun s2 u2 v2 i2 ep2 as2 r h4 h5 h6 h7=>?_
  exact⟨⟨u2,v2,i2,ep2,as2⟩,s2,H _ _ r,h4,K1.trans (h6.cast rfl),⟨h5.1,h5.2.1,h5.2.2.1,h5.2.2.2.1,h5.2.2.2.2.1,h5.2.2.2.2.2.1,h5.2.2.2.2.2.2.1,h5.2.2.2.2.2.2.2.1,trivial⟩,trivial,(fun y hy=>nomatch hy),nodup_nil,h7⟩) fun p s hP=>by
  have hP3:az (pW W) [(A aL,eI),(A aI,Dh 4),(A aC,iz)] s:=az.mid (E1:=[]) (E3:=[(Y6 c1 aA),(Y6 c2 aB),(jz ck k tk),(Yk aA fv epA),(Yk aB sv epB)]) hP
  apply AP (W:=W) (p0:=p) (hE:=rfl) (hP:=hP3) (kQ:=?k76) ..
  case' k76=>intro n tb s' _ _ H hP' K
  obtain⟨hr,hkp⟩:=az.mid_back (E1:=[]) (E3:=[(Y6 c1 aA),(Y6 c2 aB),(jz ck k tk),(Yk aA fv epA),(Yk aB sv epB)]) hP hP'.has K
  exact⟨s',H,⟨hP'.rdy,hr,hP.nd,hP.lo⟩,hkp⟩
end
abbrev Pv a b:=(Rf (.builtin "sum" ⟨[.ref (Y2 a b)],[]⟩:Code))/\(Rf (none:Option Value))/\(Rf (none:Option Value))/\(Rf (none:Option Value))
section
variable(W:WW)(p0:Pos)(vE:FE)(aF c1 c2 ck aL aI aC:Nat)
include W p0 vE aF c1 c2 ck aL aI aC
theorem Et(aA aB k m:Nat)(vc:Option Value)(fv sv as:Array Value)(epA epB epC:Nat)(fs ss:List Int)(s:Shared)(hfv:aj fv fs)(hsv:aj sv ss)(hf4:fs.length=4)(hs3:ss.length=3)(hb:∀a∈fs,Builtin.Int.intBits a<=64)(hk:k<=100)(hfit:dI 0 (bA fs ss k 0 4))(hsz:as.size<=1000)(E:WW->ae)(hE:E=fun W=>[(A aL,eI),(qQ aI k m),(Yk aC as epC),(Y6 c1 aA),(Y6 c2 aB),(i7 ck vc),(Yk aA fv epA),(Yk aB sv epB)])(hP:az (pW W) (E W) s){Q:Prop}(kQ:∀(n tb:Nat) (s':Shared) (yc:Option Value) (tz:Tok) (vz:Int) (ep:Nat),Hn s n->Ht s tb->vz=dR 0 (bA fs ss k 0 4)->br (Yt W) (⟨gx (pW W) aF c1 c2 ck aL aI aC,none,none,(c6 vE),none⟩) p0 s s'->az (pW W) ([(A aL,eI),(A aI,aK "range_iterator" [rB k,.int (Int.ofNat (Nat.succ m)-1) 0,jx]),(A aC,ab (as.push (b8 vz tz)) ep),(Y6 c1 aA),(Y6 c2 aB),(i7 ck yc),(Yk aA fv epA),(Yk aB sv epB)]) s'->af (E W) s s'->Q):Q:=by
 obtain⟨n,tb,gb,hn,ht,hg⟩:=hP.nt
 refine bT hE hP hn ht hg (fun E W Z hs=>cm (ei (Vw W) 8 [(cf 2)] [] [km (Vw W) (⟨ay (cv (pW W) aF c1 c2 ck aL (bK n 3) (dE n) (bK n 2)),none,none,(.compLoop (vX (pW W)) 0 (Yp aI) (Yp aC) (l8 (pW W) aF c1 c2 ck aL),⟨164,51,164,59⟩)::(c6 vE),none⟩) ([(df n 3,eI),(df n 1,Dh 4),(mS n 2),(Y6 c1 aA),(Y6 c2 aB),(A ck,⟨Yu,none,.cell (some (ki k tb)),⟨[]⟩⟩),(Yk aA fv epA),(Yk aB sv epB)]) [11,9,10,3,4,5,6,7] 8 8 (tO W ⟨164,51,164,59⟩ vE.p5 vE.p6 (vX (pW W)) (Yp aI) (Yp aC) (l8 (pW W) aF c1 c2 ck aL) vE.n4 vE.f2 aF c1 c2 ck aL (bK n 3) (dE n) (bK n 2) aA aB k (TK tb) fv sv epA epB) (fun x=>aj x.ls (bA fs ss k 0 4)),op 10 8 8] []) 116 (⟨gx (pW W) aF c1 c2 ck aL aI aC,none,none,(c6 vE),none⟩) (p0) (aQ (gx (pW W) aF c1 c2 ck aL aI aC)) [] hs (cO E n tb gb) (kZ [0,1,2,3,4,5,6,7] Z)) (fun E W Z hs=>ad (lE E) (A n) gb (sl hs 0 26) ((Rf (⟨ay (cv (pW W) aF c1 c2 ck aL (bK n 3) (dE n) (bK n 2)),none,none,(.compLoop (vX (pW W)) 0 (Yp aI) (Yp aC) (l8 (pW W) aF c1 c2 ck aL),⟨164,51,164,59⟩)::(c6 vE),none⟩:Ctx))/\(Rf (ax ([(df n 3,eI),(df n 1,Dh 4),(mS n 2),(Y6 c1 aA),(Y6 c2 aB),(A ck,⟨Yu,none,.cell (some (ki k tb)),⟨[]⟩⟩),(Yk aA fv epA),(Yk aB sv epB)])))/\Yc/\Yc/\∀(x0:Dn) (n0 tb0 gb0:Nat),aj x0.ls (bA fs ss k 0 4)->Yc/\ad [(A aL),(A aI),(A aC),(A c1),(A c2),(A ck),(A aA),(A aB),(Y2 n 0),(Y2 n 1),(Y2 n 2),(Y2 n 3)] (A n0) gb0 (sl hs 27 3) (((Pv n 2)/\Yc/\(Rf (ab (x0.ls) x0.ep:Obj))/\(∃xs,aj (x0.ls) xs/\dI 0 xs))/\(Rf (ax ([((Y2 n 2),(ab (x0.ls) x0.ep:Obj))])))/\Yc/\Yc/\∀(x1:cC) (n1 tb1 gb1:Nat),True->Yc/\ad [(A aL),(A aI),(A aC),(A c1),(A c2),(A ck),(A aA),(A aB),(Y2 n 0),(Y2 n 1),(Y2 n 2),(Y2 n 3)] (A n1) gb1 (sl hs 31 1) (((Rf (.builtin "list.append" ⟨[(Yp aC),(.int (mC x0.ls) x1.t)],[]⟩:Code))/\(rE as))/\ad [(A aL),(A aI),(A aC),(A c1),(A c2),(A ck),(A aA),(A aB),(Y2 n 0),(Y2 n 1),(Y2 n 2),(Y2 n 3)] (A n1) gb1 (sl hs 33 1) (Z (.again (gx (pW W) aF c1 c2 ck aL aI aC)) (Y2 n1 0) (Y8 tb1 0) true (ax ([((A aL),⟨(.type "dict"),none,(.dict ⟨[]⟩ 0),⟨[]⟩⟩),((A aI),⟨zy,none,(.fields ⟨[(.int (Int.ofNat k+Int.ofNat 1) 0),(.int (Int.ofNat (m.add 1)-1) 0),(.int (Int.ofNat 1) 0)]⟩),⟨[]⟩⟩),(A aC,Obj.mapSeq (·.push (Value.int (mC x0.ls) (cC.mk x1.t).t)) (ab as epC)),((A c1),⟨(.type "cell"),none,(.cell (some (Yp aA))),⟨[]⟩⟩),((A c2),⟨(.type "cell"),none,(.cell (some (Yp aB))),⟨[]⟩⟩),((A ck),⟨(.type "cell"),none,(.cell (some (ki k tb))),⟨[]⟩⟩),(rQ aA fv epA),(rQ aB sv epB)]))))))) (fun _=>(gE [90002,6,6,40000,100009,10,1000,30012,7001,3,4000,3,3000])) (iY (by kernel_rfl)) rfl ⟨fun _=>bx,trivial⟩ ⟨jo rfl (r7 W _ _ _ _ _ _ _ _ _ _ _ _ _ _ _ _ _ _ _ _ _ _ _ _ _ fs ss hfv hsv hf4 hs3 hb hk),nl rfl,trivial⟩ rfl fun hs=>?_
 refine ag ⟨rfl,rfl,rfl,rfl,fun x0 n0 tb0 gb0 hx0=>⟨rfl,?_⟩⟩ _
 refine ag ⟨⟨⟨rfl,rfl,rfl,rfl⟩,rfl,rfl,⟨_,hx0,hfit⟩⟩,rfl,rfl,rfl,fun x1 n1 tb1 gb1 hx1=>⟨rfl,?_⟩⟩ _
 refine rI ⟨rfl,⟨rfl,rfl,rfl⟩,hsz⟩ ?_
 exact rF fun s' r _ h3 h4 h5=>kQ n tb s' _ _ _ _ hn ht (pB hx0) (am rfl r) ⟨h4,ai h3,(nx hE hP).nd,(nx hE hP).lo⟩ h5
theorem FR(k:Nat)(as:Array Value)(epC:Nat)(s:Shared)(E:WW->ae)(hE:E=fun W=>[(A aL,eI),(ku aI k),(Yk aC as epC)])(hP:az (pW W) (E W) s){Q:Prop}(kQ:∀(n tb:Nat) (s':Shared),Hn s n->Ht s tb->Runs (Yt W) (⟨gx (pW W) aF c1 c2 ck aL aI aC,none,none,(c6 vE),none⟩) p0 ((Yt W).den (gx (pW W) aF c1 c2 ck aL aI aC)) [] s fu s'->cN (pW W) s'->cI ([(A aL,eI),(ku aI k),(Yk aC as epC)]) s'.heap->af (E W) s s'->Q):Q:=by
 obtain⟨n,tb,gb,hn,ht,hg⟩:=hP.nt
 refine bT hE hP hn ht hg (fun E W Z hs=>cm (oZ W 3) 55 (⟨gx (pW W) aF c1 c2 ck aL aI aC,none,none,(c6 vE),none⟩) (p0) (aQ (gx (pW W) aF c1 c2 ck aL aI aC)) [] hs (cO E n tb gb) (mb Z)) (fun E W Z hs=>ad (lE E) (A n) gb (sl hs 0 6) (Z oY (Y2 n 2) (Y8 tb 0) true (ax ([(A aL,eI),(ku aI k),(Yk aC as epC)])))) (fun _=>[2,2,2,2,2,5]) (oW (by kernel_rfl)) rfl trivial (by exact trivial) rfl fun hs=>?_
 exact rF fun s' r _ h3 h4 h5=>kQ n tb s' hn ht (by rw [bI];exact r) h4 (ai h3) h5
theorem FP(m:Nat)(s:Shared)(E:WW->ae)(hE:E=fun W=>[(A aL,eI),(xP aI m),(A aC,iz)])(hP:az (pW W) (E W) s){Q:Prop}(kQ:∀(n tb:Nat) (s':Shared),Hn s n->Ht s tb->cu (Yt W) (⟨ay (gx (pW W) aF c1 c2 ck aL aI aC),none,none,(c6 vE),none⟩) (gx (pW W) aF c1 c2 ck aL aI aC) p0 s s'->az (pW W) ([(A aL,eI),(xP aI m),(A aC,iz)]) s'->af (E W) s s'->Q):Q:=by
 obtain⟨n,tb,gb,hn,ht,hg⟩:=hP.nt
 refine bT hE hP hn ht hg (fun E W Z hs=>cm (oZ W 3) 52 (⟨ay (gx (pW W) aF c1 c2 ck aL aI aC),none,none,(c6 vE),none⟩) (p0) (aQ (ay (gx (pW W) aF c1 c2 ck aL aI aC))) [] hs (cO E n tb gb) (mb Z)) (fun E W Z hs=>ad (lE E) (A n) gb (zt hs W) (Z (.again (gx (pW W) aF c1 c2 ck aL aI aC)) (Y2 n 0) (Y8 tb 0) true (ax ([(A aL,eI),(xP aI m),(A aC,iz)])))) zE (pD (by kernel_rfl)) rfl trivial (by exact trivial) rfl fun hs=>?_
 exact rF fun s' r _ h3 h4 h5=>kQ n tb s' hn ht (ch r) ⟨h4,ai h3,(nx hE hP).nd,(nx hE hP).lo⟩ h5
end
noncomputable def cP(fs ss:List Int):Nat->Nat->List Int
 |_,0=>[]
 |k,m+1=>dR 0 (bA fs ss k 0 4)::cP fs ss (k+1) m
section
variable(W:WW)(vE:FE)(aF c1 c2 ck aL aI aC aA aB:Nat)(fv sv:Array Value)(epA epB:Nat)(fs ss:List Int)(hfv:aj fv fs)(hsv:aj sv ss)(hf4:fs.length=4)(hs3:ss.length=3)(hb:∀a∈fs,Builtin.Int.intBits a<=64)(hfit:∀k,dI 0 (bA fs ss k 0 4))
include W vE aF c1 c2 ck aL aI aC aA aB fv sv epA epB fs ss hfv hsv hf4 hs3 hb hfit
theorem Bn:∀(m k:Nat) (vc:Option Value) (pre:List Int) (as:Array Value) (ep:Nat) (p0:Pos) (s:Shared),k+m<=100->aj as pre->as.size+m<=1000->az (pW W) [(A aL,eI),(C3 aI k m),(Yk aC as ep),(Y6 c1 aA),(Y6 c2 aB),(i7 ck vc),(Yk aA fv epA),(Yk aB sv epB)] s->
  ∀Q:Prop,(∀s' vc' k' ep' as',Runs (Yt W) ⟨gx (pW W) aF c1 c2 ck aL aI aC,none,none,(c6 vE),none⟩ p0 ((Yt W).den (gx (pW W) aF c1 c2 ck aL aI aC)) [] s fu s'->cN (pW W) s'->cI [(A aL,eI),(ku aI k'),(Yk aC as' ep'),(Y6 c1 aA),(Y6 c2 aB),(i7 ck vc'),(Yk aA fv epA),(Yk aB sv epB)] s'.heap->af [(A aL,eI),(C3 aI k m),(Yk aC as ep),(Y6 c1 aA),(Y6 c2 aB),(i7 ck vc),(Yk aA fv epA),(Yk aB sv epB)] s s'->aj as' (pre++cP fs ss k m)->Q)->Q:=by
 intro m0
 induction m0 with
 |zero=>
  intro k vc pre as ep p0 s hkm hls hsz hP Q kQ
  have hP2:az (pW W) [(A aL,eI),(ku aI k),(Yk aC as ep)] s:=az.mid (E1:=[]) (E3:=[(Y6 c1 aA),(Y6 c2 aB),(i7 ck vc),(Yk aA fv epA),(Yk aB sv epB)]) hP
  apply FR (W:=W) (hE:=rfl) (hP:=hP2) (p0:=p0) (kQ:=?k77) ..
  case' k77=>intro n tb s' _ _ r h1 h2 h3
  obtain⟨hr,hkp⟩:=az.mid_back (E1:=[]) (E3:=[(Y6 c1 aA),(Y6 c2 aB),(i7 ck vc),(Yk aA fv epA),(Yk aB sv epB)]) hP h2 h3
  exact kQ s' vc k ep as r h1 hr hkp (by simpa [cP] using hls)
 |succ m ih=>
  intro k vc pre as ep p0 s hkm hls hsz hP Q kQ
  have hP:az (pW W) [(A aL,eI),(A aI,aK "range_iterator" [Ye k,rB m,jx]),(Yk aC as ep),(Y6 c1 aA),(Y6 c2 aB),(i7 ck vc),(Yk aA fv epA),(Yk aB sv epB)] s:=hP
  apply Et (W:=W) (hfv:=hfv) (hsv:=hsv) (hf4:=hf4) (hs3:=hs3) (hb:=hb) (hk:=by lia) (hfit:=hfit k) (hsz:=by lia) (hE:=rfl) (hP:=hP) (p0:=p0) (m:=m) (kQ:=?k79) ..
  case' k79=>intro n tb s1 yc tz vz ep1 _ _ hz zp78 hP1 K1
  obtain⟨p',H⟩:=zp78
  rw [bJ] at hP1
  subst hz
  refine ih (k+1) yc (pre++[dR 0 (bA fs ss k 0 4)]) _ ep1 p' s1 (by lia) hls.push (by simp;lia) hP1 _ fun s2 yc2 k2 ep2 as2 r h4 h5 h6 h7=>?_
  exact kQ s2 yc2 k2 ep2 as2 (H _ _ r) h4 h5 (K1.trans (h6.cast rfl)) (by rw [cP];simpa using h7)
structure GM where
 vc:Option Value
 k:Nat
 ep:Nat
 ls:Array Value
noncomputable def xH(W:WW)(vE:FE)(aF c1 c2 ck aL aI aC aA aB:Nat)(fv sv:Array Value)(epA epB:Nat)(x:GM):Result×List Obj×ae:=(m8,([(A aL,eI),(A aI,aK "range_iterator" [.int (Int.ofNat x.k) 0,Ym,jx]),(A aC,ab x.ls x.ep),(Y6 c1 aA),(Y6 c2 aB),(A ck,⟨Yu,none,.cell x.vc,⟨[]⟩⟩),(Yk aA fv epA),(Yk aB sv epB)]:ae).map (·.2),[])
theorem vM(vc:Option Value):cq (Vw W) ⟨ay (gx (pW W) aF c1 c2 ck aL aI aC),none,none,(c6 vE),none⟩ [(A aL,eI),(A aI,Dh 6),(A aC,iz),(Y6 c1 aA),(Y6 c2 aB),(i7 ck vc),(Yk aA fv epA),(Yk aB sv epB)] (xH W vE aF c1 c2 ck aL aI aC aA aB fv sv epA epB) (fun x=>aj x.ls (cP fs ss 0 6)):=
 dU (C:=gx (pW W) aF c1 c2 ck aL aI aC) (fun p0 s hP=>by
  refine Bn W vE aF c1 c2 ck aL aI aC aA aB fv sv epA epB fs ss hfv hsv hf4 hs3 hb hfit 6 0 vc [] ⟨[]⟩ 0 p0 s (by lia) ⟨rfl,fun i v e=>by simp at e⟩ (by simp) hP _ fun s2 yc2 k2 ep2 as2 r h4 h5 h6 h7=>?_
  exact⟨⟨yc2,k2,ep2,as2⟩,s2,r,h4,h6,⟨h5.1,h5.2.1,h5.2.2.1,h5.2.2.2.1,h5.2.2.2.2.1,h5.2.2.2.2.2.1,h5.2.2.2.2.2.2.1,h5.2.2.2.2.2.2.2.1,trivial⟩,trivial,(fun y hy=>nomatch hy),nodup_nil,h7⟩) fun p s hP=>by
  have hP3:az (pW W) [(A aL,eI),(A aI,Dh 6),(A aC,iz)] s:=az.mid (E1:=[]) (E3:=[(Y6 c1 aA),(Y6 c2 aB),(i7 ck vc),(Yk aA fv epA),(Yk aB sv epB)]) hP
  apply FP (W:=W) (p0:=p) (hE:=rfl) (hP:=hP3) (kQ:=?k80) ..
  case' k80=>intro n tb s' _ _ H hP' K
  obtain⟨hr,hkp⟩:=az.mid_back (E1:=[]) (E3:=[(Y6 c1 aA),(Y6 c2 aB),(i7 ck vc),(Yk aA fv epA),(Yk aB sv epB)]) hP hP'.has K
  exact⟨s',H,⟨hP'.rdy,hr,hP.nd,hP.lo⟩,hkp⟩
end
noncomputable def cV(items:Array Value):List Int:=match items with
 |⟨l⟩=>l.map ru
abbrev mj a b:=cV (fx a b)
noncomputable def DU(W:WW)(vE:FE)(aF c1 c2:Nat)(iL iI iC i1 i2 iK iA iB mm ro:Nat):bM:=oP (X:=GM) (Vw W) (fun st=>aj (fx st iA) (mj st iA)/\aj (fx st iB) (mj st iB)/\List.length (mj st iA)=4/\List.length (mj st iB)=3/\(∀a∈(mj st iA),Builtin.Int.intBits a<=64)/\(∀k,dI 0 (bA (mj st iA) (mj st iB) k 0 4))) (fun st=>⟨ay (gx (pW W) aF c1 c2 (ce st iK) (ce st iL) (ce st iI) (ce st iC)),none,none,(c6 vE),none⟩) (fun st=>[(A (ce st iL),eI),(A (ce st iI),Dh 6),(A (ce st iC),iz),(A c1,⟨Yu,none,.cell (some (.ref (A (ce st iA)))),⟨[]⟩⟩),(A c2,⟨Yu,none,.cell (some (.ref (A (ce st iB)))),⟨[]⟩⟩),(A (ce st iK),⟨Yu,none,.cell none,⟨[]⟩⟩),(sW st iA),(sW st iB)]) [iL,iI,iC,i1,i2,iK,iA,iB] mm ro (fun st=>xH W vE aF c1 c2 (ce st iK) (ce st iL) (ce st iI) (ce st iC) (ce st iA) (ce st iB) (fx st iA) (fx st iB) (fl st iA) (fl st iB)) (fun st x=>aj x.ls (cP (mj st iA) (mj st iB) 0 6))
theorem xA(W:WW)(vE:FE)(aF c1 c2:Nat){iL iI iC i1 i2 iK iA iB:Nat}{V:XV}(hk:V.kt=eG (pW W)):bX V (model pw (Vw W)) (DU W vE aF c1 c2 iL iI iC i1 i2 iK iA iB V.mm V.ro):=
 fp hk fun st h=>(vM W vE aF c1 c2 _ _ _ _ _ _ _ _ _ _ _ _ h.1 h.2.1 h.2.2.1 h.2.2.2.1 h.2.2.2.2.1 h.2.2.2.2.2 none).toF
structure vj where
 a:Nat
 r1:Addr
 r2:Addr
 pts:Array Value
 ep:Nat
 fz:List (Nat×Obj)
noncomputable def lY(vs:Array Value)(epV:Nat)(x:vj):Result×List Obj×ae:=(.ok (.ret (.ref (A x.a))),[bD (cE x.r1),bD (cD x.r2),ab vs epV],[(A x.a,ab x.pts x.ep)])
theorem ud(W:WW)(p4 p5 p6:Pos)(te2:Expr)(i2:Value)(bo2 e2:List Stmt)(n3 n4:Env)(f2:List Stmt)(aV B:Nat)(tB:Tok)(t140 t147:List Value)(vs:Array Value)(epV:Nat)(vals:List Int)(hvs:aj vs vals)(hlen:vals.length=3\/vals.length=4\/vals.length=6)(hB:B=2\/B=3)(hL:∀v∈vals,v.natAbs<2^20)(h0:∃v,vals[0]? =some v/\v≠0)(htab:t140=[]/\t147=[]\/∃r1 r2,t140=(jH r1)/\t147=(jC r2)):
  cw (Vw W) ⟨G3 aV B tB,none,none,(G4 te2 i2 bo2 e2 n3 p4 f2 n4 p5 p6),none⟩ (Dv t140 t147 aV vs epV) [] (lY vs epV) (fun x=>x.fz) (fun x=>aw x.pts x.fz (a8 B 0 vals)/\x.pts.toList.Nodup):=by
 intro p0 s hP _
 have key:∃(n tb:Nat) (s':Shared) (x0:r3),s.heap.objs.size=A n/\s.toks=TK tb/\(aw x0.pts x0.fz (a8 B 0 vals)/\x0.pts.toList.Nodup)/\Runs (Yt W) (⟨G3 aV B tB,none,none,(G4 te2 i2 bo2 e2 n3 p4 f2 n4 p5 p6),none⟩) p0 ((Yt W).den (.call (.ref 219) ⟨[fC aV,.int (Yh B) tB],[]⟩)) [] s (.ret (.ok (.ret (dY n 2)))) s'/\cN (pW W) s'/\cI ((Hl x0 aV vs epV n)) s'.heap/\af (Dv t140 t147 aV vs epV) s s'/\(∀x∈(([]++x0.fz):ae),s'.heap.get? x.1=some x.2/\x.1∉((Hl x0 aV vs epV n):ae).map (·.1)/\s.heap.objs.size<=x.1):=by
  rcases hlen with h|h|h
  ·exact nR (hz:=(.inl ⟨rfl,rfl⟩)) W p0 p4 p5 p6 te2 i2 bo2 e2 n3 n4 f2 aV B tB t140 t147 vs epV vals s hvs h hB hL h0 htab _ rfl hP
  ·exact nR (hz:=(.inr (.inl ⟨rfl,rfl⟩))) W p0 p4 p5 p6 te2 i2 bo2 e2 n3 n4 f2 aV B tB t140 t147 vs epV vals s hvs h hB hL h0 htab _ rfl hP
  ·exact nR (hz:=(.inr (.inr ⟨rfl,rfl⟩))) W p0 p4 p5 p6 te2 i2 bo2 e2 n3 n4 f2 aV B tB t140 t147 vs epV vals s hvs h hB hL h0 htab _ rfl hP
 refine gQ fun Q zQ=>?_
 obtain⟨n,tb,s',x0,hn,ht,hc,r,h1,h2,h3,h4⟩:=key
 refine zQ ?_
 refine⟨⟨Nat.add n 2,x0.r1,x0.r2,x0.pts,x0.ep,x0.fz⟩,s',r,h1,h3,⟨h2.1,h2.2.1,h2.2.2.1,trivial⟩,⟨h2.2.2.2.1,trivial⟩,fun y hy=>?_,by simp [lY],hc,fun y hy=>⟨(h4 y hy).1,(h4 y hy).2.2,fun hm=>(h4 y hy).2.1 ?_⟩⟩
 ·have:y=(df n 2,ab x0.pts x0.ep):=by simpa [lY] using hy
  subst this
  rw [hn];show n+245<=n+2+245;lia
 ·have:y.1=A (bK n 2):=by simpa [lY] using hm
  have e:A (bK n 2)=Nat.add (A n) 2:=by show n+2+245=n+245+2;lia
  rw [this,e];simp
def cM(ps es:List cA):Prop:=∃q0 ql,ps=q0::ql/\eH q0 ql es
structure pA where
 a:Nat
 eds:Array Value
 ep:Nat
 fz:List (Nat×Obj)
 es:List (Int×Int)
noncomputable def kN(pts:Array Value)(epP:Nat)(x:pA):Result×List Obj×ae:=(.ok (.ret (.ref (A x.a))),[ab pts epP],[(A x.a,ab x.eds x.ep)])
theorem ui(W:WW)(vC:FC)(aP:Nat)(pts:Array Value)(epP:Nat)(ps:List cA)(fz:List dh)(hps:aw pts fz ps)(h2:2<=ps.length)(h6:ps.length<=6)(hnd:pts.toList.Nodup)(hok:fa ps):
  cw (Vw W) ⟨G6 aP 231,none,none,(Dy vC),none⟩ [(Yk aP pts epP)] fz (kN pts epP) (fun x=>x.fz) (fun x=>aw x.eds x.fz x.es/\cM ps x.es/\x.eds.size<=50):=by
 intro p0 s hP hfz
 obtain⟨q0,ql,rfl⟩:∃q0 ql,ps=q0::ql:=by cases ps with|nil=>simp at h2|cons a l=>exact⟨a,l,rfl⟩
 have hl:ql≠[]:=by intro e;subst e;simp at h2
 refine HJ W p0 vC aP pts epP q0 ql fz s hps hl (by simp at h6;lia) hnd hok _ rfl hP hfz fun n tb s' x0 hn ht hc r h1 h2' h3 h4=>?_
 refine⟨⟨Nat.add n 5,x0.eds,x0.epE,x0.fz,x0.es⟩,s',r,h1,h3,⟨h2'.1,trivial⟩,⟨h2'.2.1,trivial⟩,fun y hy=>?_,by simp [kN],⟨hc.1,⟨_,_,rfl,hc.2.1⟩,hc.2.2⟩,fun y hy=>⟨(h4 y hy).1,(h4 y hy).2.2,fun hm=>(h4 y hy).2.1 ?_⟩⟩
 ·have:y=(df n 5,ab x0.eds x0.epE):=by simpa [kN] using hy
  subst this
  rw [hn];show n+245<=n+5+245;lia
 ·have:y.1=A (bK n 5):=by simpa [kN] using hm
  have e:A (bK n 5)=Nat.add (A n) 5:=by show n+5+245=n+245+5;lia
  rw [this,e];simp
def jB(ps es:List cA):Prop:=∃p0 pl,ps.head? =some p0/\ps.getLast? =some pl/\il ps p0.1 p0.2 es/\gJ p0.1 es=pl.1/\gU p0.2 es=pl.2/\og es/\es≠[]
theorem wf(W:WW)(vC:FC)(aP aE:Nat)(pts eds:Array Value)(ep1 ep0:Nat)(ps es:List (Int×Int))(fzP fzE:List (Nat×Obj))(hps:aw pts fzP ps)(hes:aw eds fzE es)(hdis:eR fzP fzE)(h2:2<=ps.length)(hnd:pts.toList.Nodup)(hb:jB ps es):
  bY (Vw W) ⟨.call (.ref 238) ⟨[.ref (A aP),.ref (A aE)],[]⟩,none,none,[(.forLoop vC.te vC.i1 vC.bo1 vC.e1 vC.n3,vC.p7),(.func vC.f2 vC.n4,vC.p5),(.builtin "claim.caller" {},vC.p6)],none⟩ [(A aP,ab pts ep1),(A aE,ab eds ep0)] (fzP++fzE) (fun _:Unit=>(.ok (.ret (.bool true)),[ab pts ep1,ab eds ep0],[])) (fun _=>True):=by
 intro p0 s hP hfz
 refine gQ fun Q zQ=>?_
 obtain⟨q0,ql,hq0,hql,hbel,hs1,hs2,hbits,hen⟩:=hb
 have hsz:=hps.size
 have hh0:ps[0]? =some q0:=by rw [<-List.head?_eq_getElem?];exact hq0
 have hhl:ps[ps.length-1]? =some ql:=by rw [<-List.getLast?_eq_getElem?];exact hql
 obtain⟨aT,tx,ty,et,hT,hTm⟩:=hps.some hh0
 obtain⟨aU,tz,tw,eu,hU,hUm⟩:=hps.some hhl
 refine zQ ?_
 have hT:pts[0]? =some (.ref (A aT)):=hT
 have hU:pts[ps.length-1]? =some (.ref (A aU)):=hU
 have hne:A aT≠A aU:=by
  intro e
  have e9:pts.toList[0]? =some (.ref (A aT)):=by simpa using hT
  have e2:pts.toList[ps.length-1]? =some (.ref (A aT)):=by rw [e];simpa using hU
  have:=(getElem?_inj (i:=0) (j:=ps.length-1) (by simp;lia) hnd).mp (e9.trans e2.symm)
  lia
 have hP':=az.addL (T:=[(A aT,a9 [.int q0.1 tx,.int q0.2 ty] et),(A aU,a9 [.int ql.1 tz,.int ql.2 tw] eu)]) hP hfz (fun x hx=>by
  rcases List.mem_cons.mp hx with rfl|hx
  ·exact mem_append_left _ hTm
  ·rw [List.mem_singleton.mp hx];exact mem_append_left _ hUm) (fun x hx=>by
  rcases List.mem_cons.mp hx with rfl|hx
  ·show 245<=aT+245;lia
  ·rw [List.mem_singleton.mp hx];show 245<=aU+245;lia) (by simp;exact fun e=>hne (by rw [e]))
 have hfz':cH ((fzP++fzE).filter fun x=> !(x.1==A aT)&& !(x.1==A aU)) ([(A aP,ab pts ep1),(A aE,ab eds ep0)]++[(A aT,a9 [.int q0.1 tx,.int q0.2 ty] et),(A aU,a9 [.int ql.1 tz,.int ql.2 tw] eu)]) s:=by
  intro x hx
  obtain⟨hx,hb⟩:=List.mem_filter.mp hx
  simp only [Bool.and_eq_true,Bool.not_eq_true',beq_eq_false_iff_ne] at hb
  refine⟨(hfz x hx).1,fun hm=>?_⟩
  rw [map_append] at hm
  rcases List.mem_append.mp hm with hm|hm
  ·exact(hfz x hx).2 hm
  ·simp only [map_cons,map_nil,List.mem_cons,List.not_mem_nil,or_false] at hm
   rcases hm with e|e
   ·exact hb.1 e
   ·exact hb.2 e
 have hmem:∀x∈fzP++fzE,x∈((fzP++fzE).filter fun x=> !(x.1==A aT)&& !(x.1==A aU))++[(A aT,a9 [.int q0.1 tx,.int q0.2 ty] et),(A aU,a9 [.int ql.1 tz,.int ql.2 tw] eu)]:=by
  intro x hx
  by_cases e9:x.1=A aT
  ·have a1:=(hfz x hx).1
   have a2:=(hfz _ (mem_append_left _ hTm)).1
   rw [e9,a2] at a1
   have:x=(A aT,a9 [.int q0.1 tx,.int q0.2 ty] et):=Prod.ext e9 (Option.some.inj a1).symm
   rw [this];exact mem_append_right _ (mem_cons_self ..)
  ·by_cases e2:x.1=A aU
   ·have a1:=(hfz x hx).1
    have a2:=(hfz _ (mem_append_left _ hUm)).1
    rw [e2,a2] at a1
    have:x=(A aU,a9 [.int ql.1 tz,.int ql.2 tw] eu):=Prod.ext e2 (Option.some.inj a1).symm
    rw [this];exact mem_append_right _ (mem_cons_of_mem _ (mem_cons_self ..))
   ·exact mem_append_left _ (List.mem_filter.mpr ⟨hx,by simp [e9,e2]⟩)
 apply Ig (W:=W) (fzP:=fzP) (fzE:=fzE) (ps:=ps) (es:=es) (p0:=p0) (hP:=hP') (h0:=hT) (hl:=by rw [hsz];exact hU) (hps:=hps) (hes:=hes) (hdis:=hdis) (hb:=hbits) (hnb:=hbel) (hpn:=by intro e;subst e;simp at h2) (hen:=hen) (hmem:=hmem) (hend:=by rw [hs1,hs2];simp) (hfz:=hfz') (kQ:=?k81) ..
 case' k81=>intro n tb s' _ _ r h1 h2' h3
 exact⟨(),s',r,h1,af.cutL h3 ⟨(hfz _ (mem_append_left _ hTm)).1,(hfz _ (mem_append_left _ hUm)).1,trivial⟩ ⟨h2'.2.2.1,h2'.2.2.2.1,trivial⟩,⟨h2'.1,h2'.2.1,trivial⟩,trivial,(fun y hy=>nomatch hy),nodup_nil,trivial⟩
noncomputable def t8{X:Type}(w':World)(pre:St->Prop)(G:St->Ctx)(E:St->ae)(is:List Nat)(mm ro:Nat)(out:St->X->Result×List Obj×ae)(fo:X->ae)(cond:St->X->Prop):bM:=fun Γ p c st K=>pre st/\Γ=G st/\sY (E st) is mm ro (out st) fo (cond st) st K
theorem lP{X:Type}{w':World}{pre:St->Prop}{G:St->Ctx}{E:St->ae}{is:List Nat}{V:XV}{out:St->X->Result×List Obj×ae}{fo:X->ae}{cond:St->X->Prop}(hk:V.kt=eG w'.params)(hc:∀st,pre st->∃fz,(∀x∈fz,x∈st.fz)/\cw w' (G st) (E st) fz (out st) fo (cond st)):bX V (model pw w') (t8 w' pre G E is V.mm V.ro out fo cond):=by
 intro h0 d os Γ p c st K s H hΓ R
 obtain⟨h1,h2,H⟩:=H
 subst hΓ
 obtain⟨fz,hm,hc⟩:=hc st h1
 rw [<-h2] at hc
 exact ly hk (fun hP hf=>hc p s hP fun x hx=>hf x (mem_append_right _ (hm x hx))) H R
theorem bY.toD{X:Type}{w':World}{G:Ctx}{E:ae}{fz:List (Nat×Obj)}{out:X->Result×List Obj×ae}{cond:X->Prop}(h:bY w' G E fz out cond):cw w' G E fz out (fun _=>[]) cond:=by
 intro p s hP hf
 refine gQ fun Q zQ=>?_
 obtain⟨x,s',r,a,b,c,d,e,f,g⟩:=h p s hP hf
 refine zQ ?_
 exact⟨x,s',r,a,b,c,d,e,f,g,fun y hy=>nomatch hy⟩
noncomputable def DT(W:WW)(vC:FC)(ps:List cA)(iP mm ro:Nat):bM:=
 t8 (X:=pA) (Vw W) (fun st=>aw (fx st iP) st.fz ps/\(fx st iP).toList.Nodup) (fun st=>⟨.call (.ref 231) ⟨[.ref (A (ce st iP))],[]⟩,none,none,(Dy vC),none⟩) (fun st=>[(sW st iP)]) [iP] mm ro (fun st=>kN (fx st iP) (fl st iP)) (fun x=>x.fz) (fun st x=>aw x.eds x.fz x.es/\cM ps x.es/\x.eds.size<=50)
theorem wV(W:WW)(vC:FC)(ps:List (Int×Int)){iP:Nat}{V:XV}(hk:V.kt=eG (pW W))(h2:2<=ps.length)(h6:ps.length<=6)(hok:fa ps):bX V (model pw (Vw W)) (DT W vC ps iP V.mm V.ro):=
 lP hk fun st h=>⟨st.fz,fun _ h=>h,ui W vC _ _ _ ps st.fz h.1 h2 h6 h.2 hok⟩
abbrev IQ a b:=ab (fx a b) (fl a b)
noncomputable def CZ(W:WW)(vC:FC)(ps:List cA)(iP iE mm ro:Nat):bM:=
 t8 (X:=Unit) (Vw W) (fun st=>∃es fzP fzE,aw (fx st iP) fzP ps/\aw (fx st iE) fzE es/\eR fzP fzE/\(∀x∈fzP++fzE,x∈st.fz)/\(fx st iP).toList.Nodup/\jB ps es) (fun st=>⟨.call (.ref 238) ⟨[BY st iP,BY st iE],[]⟩,none,none,(Dy vC),none⟩) (fun st=>[(sW st iP),(sW st iE)]) [iP,iE] mm ro (fun st _=>(.ok (.ret (.bool true)),[IQ st iP,IQ st iE],[])) (fun _=>[]) (fun st x=>True)
theorem yC(W:WW)(vC:FC)(ps:List (Int×Int)){iP iE:Nat}{V:XV}(hk:V.kt=eG (pW W))(h2:2<=ps.length):bX V (model pw (Vw W)) (CZ W vC ps iP iE V.mm V.ro):=
 lP hk fun st h=>by
  obtain⟨es,fzP,fzE,a,b,c,d,e,f⟩:=h
  exact⟨fzP++fzE,d,(wf W vC _ _ _ _ _ _ ps es fzP fzE a b c h2 e f).toD⟩
noncomputable def hJ(i j:Nat):bF:=fun Γ c st=>co i (.ref (bm st.L st.n j)) Γ c st
theorem eQ{V:XV}{pr:Program}{w:World}{i j:Nat}:bE V (model pr w) (hJ i j):=
 dT fun hΓ R hc H=>bB _ _ _ _ _ _ _ _ _ _ hc hΓ R H
theorem ue{items:Array Value}{v:Value}:(seqIndex? (-1) (items.push v).size).bind (fun j=>(items.push v)[j]?)=some v:=by
 rw [Array.size_push,seqIndex_neg (by lia) (by lia),show((-1:Int)+(items.size+1:Nat)).toNat=items.size by lia]
 show(items.push v)[items.size]? =some v
 rw [getElem?_push,if_pos rfl]
theorem Rh{pts:Array Value}{fz ps}(h:aw pts fz ps)(h2:2<=ps.length):(pts.size !=(Array.mk ([]:List Value)).size)=true:=by
 have:=h.size
 simp
 intro e
 rw [e] at this
 simp at this
 lia
noncomputable abbrev FK:=[101,100,103,101,115]
noncomputable abbrev lW:=FK
noncomputable abbrev GR:=[98,111,116,104]
noncomputable abbrev qD:=GR
abbrev Is a b c:=(((A a),⟨(.type "list_iterator"),none,(.fields ⟨[(Yp b),(.int (Int.ofNat c+1) 0)]⟩),⟨[]⟩⟩):Nat×Obj)
noncomputable abbrev G9:=Array.mk ([]:List Value)
abbrev JL(a b c d e:Nat)(f:vj)(g:Nat)(h:pA):=[140,147,(A a),(A b),(A c),(A d),(A e),(A f.a),(Y2 g 0),(A h.a)]
noncomputable abbrev C8:=Str.mk ⟨qD⟩
theorem xp(W:WW)(b7:Bool)(p0:Pos)(vE:FE)(aF c1 c2 aI aG aV aE B k:Nat)(u1 u2 u3 u4 u5 u6 u7 u8 u9 u10 u11 tB:Tok)(v1 v2 v3 v5 v6 v7 v8 v10 v11:Value)(t140 t147:List Value)(pv vs ev:Array Value)(epG epV epE:Nat)(vals:List Int)(s:Shared)(hit:pv[(Yh k).toNat]? =some (Yp aV))(hvs:aj vs vals)(hlen:vals.length=3\/vals.length=4\/vals.length=6)(hB:B=2\/B=3)(hL:∀v∈vals,v.natAbs<2^20)(h0:∃v,vals[0]? =some v/\v≠0)(htab:t140=[]/\t147=[]\/∃r1 r2,t140=(jH r1)/\t147=(jC r2))(hp2:2<=(a8 B 0 vals).length)(hp6:(a8 B 0 vals).length<=6)(hok:fa (a8 B 0 vals))(hbel:∀es,cM (a8 B 0 vals) es->jB (a8 B 0 vals) es)(hev:ev.size<=100)(E:WW->ae)(hE:E=fun W=>[(140,bD t140),(147,bD t147),(A aF,ah "frame" ([aa (pW W) Yy u1 v1,aa (pW W) g0 u2 v2,aa (pW W) g5 u3 v3,aa (pW W) eM u4 (cr B tB),aa (pW W) Yr u5 v5,aa (pW W) [105] u6 v6,aa (pW W) [113] u7 v7,aa (pW W) qD u8 v8,aa (pW W) lW u9 (Yp aE)]++(cond b7 [] [aa (pW W) gF u10 v10,aa (pW W) Yq u11 v11])) (cond b7 9 11)),(Y5 aI aG k),(Yk aG pv epG),(Yk aV vs epV),(Yk aE ev epE)])(hP:az (pW W) (E W) s){Q:Prop}(kQ:∀(n tb:Nat) (s':Shared) (x0:vj) (x1:pA) (r1 r2:Addr) (y10 y11:Tok) (w10 w11:Value) (ep:Nat),Hn s n->Ht s tb->(aw x1.eds x1.fz x1.es/\cM (a8 B 0 vals) x1.es)->br (Yt W) (⟨kh (pW W) aF c1 c2 aI,none,none,(c6 vE),none⟩) p0 s s'->cN (pW W) s'->cI ([(140,bD (cE r1)),(147,bD (cD r2)),(A aF,ah "frame" [aa (pW W) Yy u1 v1,aa (pW W) g0 u2 v2,aa (pW W) g5 u3 v3,aa (pW W) eM u4 (cr B tB),aa (pW W) Yr u5 v5,aa (pW W) [105] u6 v6,aa (pW W) [113] u7 v7,aa (pW W) qD u8 v8,aa (pW W) lW u9 (Yp aE),aa (pW W) gF y10 w10,aa (pW W) Yq y11 w11] 11),(vp aI aG k),(Yk aG pv epG),(Yk aV vs epV),(A aE,ab (ev.push (.ref (A x1.a))) ep),(A x1.a,ab x1.eds x1.ep)]) s'.heap->af (E W) s s'->((∀x∈(((([]++x0.fz)++x1.fz)++([]:ae)):ae),s'.heap.get? x.1=some x.2/\x.1∉([(140,bD (cE r1)),(147,bD (cD r2)),(A aF,ah "frame" [aa (pW W) Yy u1 v1,aa (pW W) g0 u2 v2,aa (pW W) g5 u3 v3,aa (pW W) eM u4 (cr B tB),aa (pW W) Yr u5 v5,aa (pW W) [105] u6 v6,aa (pW W) [113] u7 v7,aa (pW W) qD u8 v8,aa (pW W) lW u9 (Yp aE),aa (pW W) gF y10 w10,aa (pW W) Yq y11 w11] 11),(vp aI aG k),(Yk aG pv epG),(Yk aV vs epV),(A aE,ab (ev.push (.ref (A x1.a))) ep),(A x1.a,ab x1.eds x1.ep)]:ae).map (·.1)/\s.heap.objs.size<=x.1))->s.heap.objs.size<=A x1.a->Q):Q:=by
 obtain⟨n,tb,gb,hn,ht,hg⟩:=hP.nt
 refine qB (fz:=[]) hE hP hn ht hg (fun E W Z hs=>cm (ei (Vw W) 7 [(bG 3 4 (Yp aV)),(lx 7 8),(cf 6),(hJ 6 9)] [] [AC (Vw W) (⟨G3 aV B tB,none,none,(.forLoop (em (kn (pW W) 8)) (Yp aI) (bk (kn (pW W) 8)) (cJ (kn (pW W) 8)) (bo (pW W) aF c1 c2),⟨167,17,167,40⟩)::(c6 vE),none⟩) ((Dv t140 t147 aV vs epV)) [0,1,5] 7 7 (lY vs epV) (fun x:vj=>x.fz) (fun x:vj=>aw x.pts x.fz (a8 B 0 vals)/\List.Nodup (Array.toList x.pts)),DT W ⟨vE.p5,vE.p6,⟨170,21,170,39⟩,(em (kn (pW W) 8)),(Yp aI),(bk (kn (pW W) 8)),(cJ (kn (pW W) 8)),(bo (pW W) aF c1 c2),vE.n4,vE.f2⟩ (a8 B 0 vals) 7 7 7,CZ W ⟨vE.p5,vE.p6,⟨171,15,171,49⟩,(em (kn (pW W) 8)),(Yp aI),(bk (kn (pW W) 8)),(cJ (kn (pW W) 8)),(bo (pW W) aF c1 c2),vE.n4,vE.f2⟩ (a8 B 0 vals) 7 9 7 7] []) 140 (⟨kh (pW W) aF c1 c2 aI,none,none,(c6 vE),none⟩) (p0) (aQ (kh (pW W) aF c1 c2 aI)) [] hs (cO E n tb gb) (sI [0,1,2,3,4,5,6,9] Z)) (fun E W Z hs=>ad (lE E) (A n) gb (sl hs 0 2) ((DP aI aG pv k aV)/\ad (lE E) (A n) gb (sl hs 3 8) ((Rf (⟨G3 aV B tB,none,none,(.forLoop (em (kn (pW W) 8)) (Yp aI) (bk (kn (pW W) 8)) (cJ (kn (pW W) 8)) (bo (pW W) aF c1 c2),⟨167,17,167,40⟩)::(c6 vE),none⟩:Ctx))/\(Rf (ax ((Dv t140 t147 aV vs epV))))/\Yc/\Yc/\∀(x0:vj) (n0 tb0 gb0:Nat),(aw x0.pts x0.fz (a8 B 0 vals)/\List.Nodup (Array.toList x0.pts))/\eR [] x0.fz->Yc/\ad [140,147,(A aF),(A aI),(A aG),(A aV),(A aE),(A x0.a)] (A n0) gb0 (sl hs 12 7) (((Rf (.builtin "list.__eq__" ⟨[(.ref (A x0.a)),(dY n0 0)],[]⟩:Code))/\(Yi/\(Yi/\(((x0.pts.size !=(G9).size):(Bool))=(true)))))/\ad [140,147,(A aF),(A aI),(A aG),(A aV),(A aE),(A x0.a)] (A n0) gb0 (sl hs 20 8) ((aw (x0.pts) ([]++x0.fz) (a8 B 0 vals)/\List.Nodup (Array.toList (x0.pts)))/\(Rf (⟨.call (.ref 231) ⟨[.ref (A x0.a)],[]⟩,none,none,(.forLoop (em (kn (pW W) 8)) (Yp aI) (bk (kn (pW W) 8)) (cJ (kn (pW W) 8)) (bo (pW W) aF c1 c2),⟨170,21,170,39⟩)::(c6 vE),none⟩:Ctx))/\(Rf (ax ([(A x0.a,ab (x0.pts) x0.ep)])))/\Yc/\Yc/\∀(x1:pA) (n1 tb1 gb1:Nat),(aw x1.eds x1.fz x1.es/\cM (a8 B 0 vals) x1.es/\x1.eds.size<=50)/\eR ([]++x0.fz) x1.fz->Yc/\ad (JL aF aI aG aV aE x0 n0 x1) (A n1) gb1 (sl hs 29 1) (((Rf (.builtin "list.append" ⟨[(Yp aE),(.ref (A x1.a))],[]⟩:Code))/\(rE ev))/\ad (JL aF aI aG aV aE x0 n0 x1) (A n1) gb1 (sl hs 31 8) (((Rf (.builtin "list.__getitem__" ⟨[(Yp aE),(.int Ib (Y8 tb1 1))],[]⟩:Code))/\(bO Ib/\((((seqIndex? (-(Value.int 1 (TK tb1),1).snd) (ev.push (Value.ref (A (pA.mk x1.a x1.eds x1.ep x1.fz x1.es).a))).size).bind fun j=>(ev.push (Value.ref (A (pA.mk x1.a x1.eds x1.ep x1.fz x1.es).a)))[j]?):i8)=(some (.ref (A x1.a))))))/\ad (JL aF aI aG aV aE x0 n0 x1) (A n1) gb1 (sl hs 40 1) ((∃es fzP fzE,aw (x0.pts) fzP (a8 B 0 vals)/\aw (x1.eds) fzE es/\eR fzP fzE/\(∀x∈fzP++fzE,x∈(([]++x0.fz)++x1.fz))/\List.Nodup (Array.toList (x0.pts))/\jB (a8 B 0 vals) es)/\(Rf (⟨.call (.ref 238) ⟨[.ref (A x0.a),.ref (A x1.a)],[]⟩,none,none,(.forLoop (em (kn (pW W) 8)) (Yp aI) (bk (kn (pW W) 8)) (cJ (kn (pW W) 8)) (bo (pW W) aF c1 c2),⟨171,15,171,49⟩)::(c6 vE),none⟩:Ctx))/\(Rf (ax ([(A x0.a,ab (x0.pts) x0.ep),(A x1.a,ab (x1.eds) x1.ep)])))/\Yc/\Yc/\∀(x2:Unit) (n2 tb2 gb2:Nat),(True)/\eR (([]++x0.fz)++x1.fz) ([]:ae)->Yc/\ad (JL aF aI aG aV aE x0 n0 x1) (A n2) gb2 (sl hs 41 0) (Z (.again (kh (pW W) aF c1 c2 aI)) (Y2 n2 0) (Y8 tb2 0) true (ax ([(140,⟨.none,none,(.fields ⟨[(.int (Int.ofNat 67) 0),(.int (Int.ofNat 19) 0),(.ref x0.r1)]⟩),⟨[]⟩⟩),(147,⟨.none,none,(.fields ⟨[(.int (Int.ofNat 70) 0),(.int (Int.ofNat 32) 0),(.ref x0.r2)]⟩),⟨[]⟩⟩),((A aF),⟨DA,none,(.dict ⟨[⟨(PyData.keyHash (pW W) zw),(.str zw u1),(v1)⟩,⟨(PyData.keyHash (pW W) zB),(.str zB u2),(v2)⟩,⟨(PyData.keyHash (pW W) zu),(.str zu u3),(v3)⟩,⟨(PyData.keyHash (pW W) qR),(.str qR u4),(cr B tB)⟩,⟨(PyData.keyHash (pW W) zz),(.str zz u5),(v5)⟩,⟨(PyData.keyHash (pW W) (kz 105)),(.str (kz 105) u6),(v6)⟩,⟨(PyData.keyHash (pW W) (kz 113)),(.str (kz 113) u7),(v7)⟩,⟨(PyData.keyHash (pW W) C8),(.str C8 u8),(v8)⟩,⟨(PyData.keyHash (pW W) (Str.mk ⟨lW⟩)),(.str (Str.mk ⟨lW⟩) u9),(Yp aE)⟩,⟨(PyData.keyHash (pW W) sC),(.str sC (cond b7 (TK tb) u10)),(Yp aV)⟩,⟨(PyData.keyHash (pW W) (Str.mk ⟨Yq⟩)),(.str F7 (cond b7 (TK tb0) u11)),(.ref (A x0.a))⟩]⟩ 11),⟨[]⟩⟩),(Is aI aG k),(rQ aG pv epG),(rQ aV vs epV),(A aE,Obj.mapSeq (·.push (.ref (A x1.a))) (ab ev epE)),(A x1.a,ab x1.eds x1.ep)])) (((([]++x0.fz)++x1.fz)++([]:ae)))))))))))) (fun _=>[4,4,4000,4,4,3,3,0,3,3,0,1000,3,3,3,8,9,8,8,4001,3,7,7,7,7,0,3,0,1001,7,4002,7,0,3,3,7,7,7,7,4003,0,1002,3000]) (by apply iW b7<;>exact iY (by kernel_rfl)) rfl ⟨fun _=>bi,fun _=>qf,fun _=>bx,fun _=>eQ,trivial⟩ ⟨oR (fz:=[]) rfl (ud _ _ _ _ _ _ _ _ _ _ _ _ _ _ _ _ _ _ _ hvs hlen hB hL h0 htab) (fun x h=>nomatch h),wV _ _ _ rfl hp2 hp6 hok,yC _ _ _ rfl hp2,trivial⟩ rfl rfl (fun x hx=>nomatch hx) fun hs=>?_
 refine rI ⟨rfl,rfl,hit⟩ ?_
 refine ag ⟨rfl,rfl,rfl,rfl,fun x0 n0 tb0 gb0 hx0=>⟨rfl,?_⟩⟩ _
 refine rI ⟨rfl,⟨rfl,rfl,rfl⟩,⟨rfl,rfl,rfl⟩,Rh hx0.1.1 hp2⟩ ?_
 refine ag ⟨⟨hx0.1.1,hx0.1.2⟩,rfl,rfl,rfl,rfl,fun x1 n1 tb1 gb1 hx1=>⟨rfl,?_⟩⟩ _
 refine rI ⟨rfl,⟨rfl,rfl,rfl⟩,Nat.le_trans hev (by decide)⟩ ?_
 refine rI ⟨rfl,rfl,ue⟩ ?_
 refine ag ⟨⟨x1.es,x0.fz,x1.fz,hx0.1.1,hx1.1.1,hx1.2,(fun x hx=>hx),hx0.1.2,hbel _ hx1.1.2.1⟩,rfl,rfl,rfl,rfl,fun x2 n2 tb2 gb2 hx2=>⟨rfl,?_⟩⟩ _
 exact rF fun s' r _ h3 h4 h5 h6 h7=>kQ n tb s' x0 x1 _ _ _ _ _ _ _ hn ht ⟨hx1.1.1,hx1.1.2.1⟩ (am rfl r) h4 (ai h3) h5 h6 (h7 _ (mem_cons_self ..))
theorem FG(W:WW)(p0:Pos)(vE:FE)(aF c1 c2 aI aG k bR epG:Nat)(frl:List DictEntry)(pv:Array Value)(s:Shared)(hit:pv[(Yh k).toNat]? =none)(E:WW->ae)(hE:E=fun W=>[(wG aF frl bR),(Y5 aI aG k),(Yk aG pv epG)])(hP:az (pW W) (E W) s){Q:Prop}(kQ:∀(n tb:Nat) (s':Shared),Hn s n->Ht s tb->Runs (Yt W) (⟨kh (pW W) aF c1 c2 aI,none,none,(c6 vE),none⟩) p0 ((Yt W).den (kh (pW W) aF c1 c2 aI)) [] s fu s'->cN (pW W) s'->cI ([(wG aF frl bR),(kc aI k),(Yk aG pv epG)]) s'.heap->af (E W) s s'->Q):Q:=by
 obtain⟨n,tb,gb,hn,ht,hg⟩:=hP.nt
 refine bT hE hP hn ht hg (fun E W Z hs=>cm (vd W 3 1 2) 54 (⟨kh (pW W) aF c1 c2 aI,none,none,(c6 vE),none⟩) (p0) (aQ (kh (pW W) aF c1 c2 aI)) [] hs (cO E n tb gb) (mb Z)) (fun E W Z hs=>ad (lE E) (A n) gb (sl hs 0 2) ((vR aI aG pv k)/\ad (lE E) (A n) gb (sl hs 3 3) (Z oY (Y2 n 2) (Y8 tb 0) true (ax ([(wG aF frl bR),(kc aI k),(Yk aG pv epG)]))))) (fun _=>[2,2,4000,2,2,5]) (oW (by kernel_rfl)) rfl ⟨fun _=>cg,trivial⟩ trivial rfl fun hs=>?_
 refine rI ⟨rfl,rfl,hit⟩ ?_
 exact rF fun s' r _ h3 h4 h5=>kQ n tb s' hn ht (by rw [bI];exact r) h4 (ai h3) h5
structure dL(B:Nat)(vals:List Int):Prop where
 small:∀v∈vals,v.natAbs<2^20
 head:∃v,vals[0]? =some v/\v≠0
 two:2<=(a8 B 0 vals).length
 six:(a8 B 0 vals).length<=6
 ok:fa (a8 B 0 vals)
 below:∀es,cM (a8 B 0 vals) es->jB (a8 B 0 vals) es
noncomputable def CN(P:Params)(aF aI aG aE B:Nat)(u1 u2 u3 u4 u5 u6 u7 u8 u9 tB:Tok)(v1 v2 v3 v5 v6 v7 v8:Value)(pv:Array Value)(epG:Nat)(aV:Nat)(fr:List DictEntry)(bR k:Nat)(t140 t147:List Value)(vs:Array Value)(epV:Nat)(ev:Array Value)(epE:Nat):ae:=
 [(140,bD t140),(147,bD t147),(A aF,ah "frame" ([aa P Yy u1 v1,aa P g0 u2 v2,aa P g5 u3 v3,aa P eM u4 (cr B tB),aa P Yr u5 v5,aa P [105] u6 v6,aa P [113] u7 v7,aa P qD u8 v8,aa P lW u9 (Yp aE)]++fr) bR),(Y5 aI aG k),(Yk aG pv epG),(Yk aV vs epV),(Yk aE ev epE)]
theorem vo{a b:List (Nat×Obj)}{x:Nat×Obj}(h:x∈b):x∈((([]++a)++b)++([]:ae):ae):=mem_append_left _ (mem_append_right _ h)
theorem nI(W:WW)(vE:FE)(aF c1 c2 aI aG aE B:Nat)(u1 u2 u3 u4 u5 u6 u7 u8 u9 tB:Tok)(v1 v2 v3 v5 v6 v7 v8:Value)(pv:Array Value)(epG:Nat)(aV:Nat)(fr:List DictEntry)(bR k:Nat)(t140 t147:List Value)(vs:Array Value)(epV:Nat)(ev:Array Value)(epE:Nat)(vals:List Int)(hvs:aj vs vals)(hlen:vals.length=3\/vals.length=4\/vals.length=6)(hB:B=2\/B=3)(hp:dL B vals)(hfr:(fr=[]/\bR=9)\/(∃y10 y11 w10 w11,fr=[aa (pW W) gF y10 w10,aa (pW W) Yq y11 w11]/\bR=11))(hit:pv[(Yh k).toNat]? =some (Yp aV))(htab:t140=[]/\t147=[]\/∃r1 r2,t140=(jH r1)/\t147=(jC r2))(hev:ev.size<=100)(p0:Pos)(s:Shared)(hP:az (pW W) (CN (pW W) aF aI aG aE B u1 u2 u3 u4 u5 u6 u7 u8 u9 tB v1 v2 v3 v5 v6 v7 v8 pv epG aV fr bR k t140 t147 vs epV ev epE) s){Q:Prop}(kQ:∀s1 y10 y11 w10 w11 r1 r2 x1 ep,br (Yt W) ⟨kh (pW W) aF c1 c2 aI,none,none,(c6 vE),none⟩ p0 s s1->az (pW W) (CN (pW W) aF aI aG aE B u1 u2 u3 u4 u5 u6 u7 u8 u9 tB v1 v2 v3 v5 v6 v7 v8 pv epG aV [aa (pW W) gF y10 w10,aa (pW W) Yq y11 w11] 11 (k+1) (cE r1) (cD r2) vs epV (ev.push (.ref (A x1.a))) ep) s1->af (CN (pW W) aF aI aG aE B u1 u2 u3 u4 u5 u6 u7 u8 u9 tB v1 v2 v3 v5 v6 v7 v8 pv epG aV fr bR k t140 t147 vs epV ev epE) s s1->s1.heap.get? (A (pA.a x1))=some (ab x1.eds x1.ep)->s.heap.objs.size<=A x1.a->aw x1.eds x1.fz x1.es->cM (a8 B 0 vals) x1.es->(∀x∈x1.fz,s1.heap.get? x.1=some x.2/\s.heap.objs.size<=x.1/\x.1≠A x1.a)->Q):Q:=by
 rcases hfr with⟨rfl,rfl⟩|⟨z10,z11,Ju,Js,rfl,rfl⟩
 ·apply xp (b7:=true) (W:=W) (hit:=hit) (hvs:=hvs) (hlen:=hlen) (hB:=hB) (hL:=hp.small) (h0:=hp.head) (htab:=htab) (hp2:=hp.two) (hp6:=hp.six) (hok:=hp.ok) (hbel:=hp.below) (hev:=hev) (hE:=rfl) (hP:=hP) (p0:=p0) (u10:=0) (u11:=0) (v10:=.none) (v11:=.none) (kQ:=?k83) ..
  case' k83=>intro n tb s1 x0 x1 r1 r2 y10 y11 w10 w11 ep _ _ hc zp82 h4 hF K hfz hnew
  obtain⟨p',H⟩:=zp82
  exact kQ s1 y10 y11 w10 w11 r1 r2 x1 ep ⟨p',H⟩ ⟨h4,⟨hF.1,hF.2.1,hF.2.2.1,hF.2.2.2.1,hF.2.2.2.2.1,hF.2.2.2.2.2.1,hF.2.2.2.2.2.2.1,trivial⟩,hP.nd,hP.lo⟩ K hF.2.2.2.2.2.2.2.1 hnew hc.1 hc.2 (fun x hx=>⟨(hfz x (vo hx)).1,(hfz x (vo hx)).2.2,fun e=>(hfz x (vo hx)).2.1 (by rw [e];simp)⟩)
 ·apply xp (b7:=false) (W:=W) (hit:=hit) (hvs:=hvs) (hlen:=hlen) (hB:=hB) (hL:=hp.small) (h0:=hp.head) (htab:=htab) (hp2:=hp.two) (hp6:=hp.six) (hok:=hp.ok) (hbel:=hp.below) (hev:=hev) (hE:=rfl) (hP:=hP) (p0:=p0) (kQ:=?k85) ..
  case' k85=>intro n tb s1 x0 x1 r1 r2 y10 y11 w10 w11 ep _ _ hc zp84 h4 hF K hfz hnew
  obtain⟨p',H⟩:=zp84
  exact kQ s1 y10 y11 w10 w11 r1 r2 x1 ep ⟨p',H⟩ ⟨h4,⟨hF.1,hF.2.1,hF.2.2.1,hF.2.2.2.1,hF.2.2.2.2.1,hF.2.2.2.2.2.1,hF.2.2.2.2.2.2.1,trivial⟩,hP.nd,hP.lo⟩ K hF.2.2.2.2.2.2.2.1 hnew hc.1 hc.2 (fun x hx=>⟨(hfz x (vo hx)).1,(hfz x (vo hx)).2.2,fun e=>(hfz x (vo hx)).2.1 (by rw [e];simp)⟩)
theorem az.sub{P:Params}{E E':ae}{s:Shared}(h:az P E s)(hs:E'.Sublist E):az P E' s:=by
 refine⟨h.rdy,?_,h.nd.sublist (hs.map _),fun a ha=>h.lo a ((hs.map _).subset ha)⟩
 have:∀(T:ae),(∀x∈T,x∈E)->cI T s.heap:=by
  intro T
  induction T with
  |nil=>intro _;trivial
  |cons x T ih=>
   intro hx
   obtain⟨i,hi⟩:=List.mem_iff_getElem?.mp (hx x (mem_cons_self ..))
   exact⟨h.has.get hi,ih fun y hy=>hx y (mem_cons_of_mem _ hy)⟩
 exact this E' fun x hx=>hs.subset hx
theorem af.mono{E E':ae}{s s':Shared}(h:af E s s')(hs:∀a∈E.map (·.1),a∈E'.map (·.1)):af E' s s':=⟨fun b o q hb=>h.keep b o q fun hm=>hb (hs b hm),h.drawn,h.os,h.size⟩
theorem az.perm{P:Params}{E E':ae}{s:Shared}(h:az P E s)(p:E.Perm E'):az P E' s:=by
 refine⟨h.rdy,?_,(p.map _).nodup_iff.mp h.nd,fun a ha=>h.lo a ((p.map _).mem_iff.mpr ha)⟩
 have:∀(T:ae),(∀x∈T,x∈E)->cI T s.heap:=by
  intro T
  induction T with
  |nil=>intro _;trivial
  |cons x T ih=>
   intro hx
   obtain⟨i,hi⟩:=List.mem_iff_getElem?.mp (hx x (mem_cons_self ..))
   exact⟨h.has.get hi,ih fun y hy=>hx y (mem_cons_of_mem _ hy)⟩
 exact this E' fun x hx=>p.mem_iff.mpr hx
theorem az.left{P:Params}{E T:ae}{s:Shared}(h:az P (E++T) s):az P E s:=az.sub h (List.sublist_append_left _ _)
theorem az.uncutL{P:Params}{E E' T:ae}{s s':Shared}(hP:az P (E++T) s)(hP':az P E' s')(K:af E s s')(e:E'.map (·.1)=E.map (·.1):=by rfl):az P (E'++T) s':=by
 have nd:=hP.nd
 rw [map_append] at nd
 refine⟨hP'.rdy,cj.mpr ⟨hP'.has,lB K (cj.mp hP.has).2 fun a ha hb=>(List.nodup_append.mp nd).2.2 a hb a ha rfl⟩,?_,?_⟩
 ·rw [map_append,e];exact nd
 ·intro a ha
  rw [map_append,e,<-map_append] at ha
  exact hP.lo a ha
theorem E9{α:Type}(a E b c:α):[a,E,b,c].Perm [b,E,a,c]:=(List.Perm.cons a (List.Perm.swap b E [c])).trans ((List.Perm.swap b a [E,c]).trans (List.Perm.cons b (List.Perm.swap E a [c])))
theorem Fi{α:Type}(b E a c:α):[b,E,a,c].Perm [c,E,a,b]:=(List.perm_append_comm (l₁:=[b,E,a]) (l₂:=[c])).trans (List.Perm.cons c (List.perm_append_comm (l₁:=[b]) (l₂:=[E,a])))
structure oI where
 r1:Addr
 r2:Addr
 y10:Tok
 y11:Tok
 w10:Value
 w11:Value
 k:Nat
 ep:Nat
 a1:Nat
 a2:Nat
 a3:Nat
 ep1:Nat
 ep2:Nat
 ep3:Nat
 eds1:Array Value
 eds2:Array Value
 eds3:Array Value
 fz1:List (Nat×Obj)
 fz2:List (Nat×Obj)
 fz3:List (Nat×Obj)
 es1:List (Int×Int)
 es2:List (Int×Int)
 es3:List (Int×Int)
noncomputable def lO(P:Params)(aF aI aG aE B:Nat)(u1 u2 u3 u4 u5 u6 u7 u8 u9 tB:Tok)(v1 v2 v3 v5 v6 v7 v8:Value)(epG:Nat)(p1 p2 p3:Nat)(vs1 vs2 vs3:Array Value)(ep1 ep2 ep3:Nat)(x:oI):Result×List Obj×ae:=(m8,([(140,bD (cE x.r1)),(147,bD (cD x.r2)),(A aF,ah "frame" ([aa P Yy u1 v1,aa P g0 u2 v2,aa P g5 u3 v3,aa P eM u4 (cr B tB),aa P Yr u5 v5,aa P [105] u6 v6,aa P [113] u7 v7,aa P qD u8 v8,aa P lW u9 (Yp aE)]++[aa P gF x.y10 x.w10,aa P Yq x.y11 x.w11]) 11),(A aI,aK "list_iterator" [.none,.int (Int.ofNat x.k) 0]),(A aG,ab ⟨[fC p1,fC p2,fC p3]⟩ epG),(Yk p1 vs1 ep1),(Yk p2 vs2 ep2),(Yk p3 vs3 ep3),(A aE,ab ⟨[.ref (A x.a1),.ref (A x.a2),.ref (A x.a3)]⟩ x.ep)]:ae).map (·.2),[(A x.a1,ab x.eds1 x.ep1),(A x.a2,ab x.eds2 x.ep2),(A x.a3,ab x.eds3 x.ep3)])
def oU(B:Nat)(vals1 vals2 gD:List Int)(x:oI):Prop:=(aw x.eds1 x.fz1 x.es1/\cM (a8 B 0 vals1) x.es1)/\(aw x.eds2 x.fz2 x.es2/\cM (a8 B 0 vals2) x.es2)/\(aw x.eds3 x.fz3 x.es3/\cM (a8 B 0 gD) x.es3)
theorem az.kmono{P:Params}{E0 E:ae}{s s1 s2:Shared}(_:az P E0 s)(K:af E s1 s2)(h:∀a,a∈E.map (·.1)->a∈E0.map (·.1)):af E0 s1 s2:=K.mono h
theorem Hh{a b c d e p q r z:Nat}:List.Sublist [a,b,c,d,e,p,z] [a,b,c,d,e,p,q,r,z]:=.cons_cons _ (.cons_cons _ (.cons_cons _ (.cons_cons _ (.cons_cons _ (.cons_cons _ (.cons _ (.cons _ (.cons_cons _ .slnil))))))))
theorem Iv{a b c d e p q r z:Nat}:List.Sublist [a,b,c,d,e,q,z] [a,b,c,d,e,p,q,r,z]:=.cons_cons _ (.cons_cons _ (.cons_cons _ (.cons_cons _ (.cons_cons _ (.cons _ (.cons_cons _ (.cons _ (.cons_cons _ .slnil))))))))
theorem IE{a b c d e p q r z:Nat}:List.Sublist [a,b,c,d,e,r,z] [a,b,c,d,e,p,q,r,z]:=.cons_cons _ (.cons_cons _ (.cons_cons _ (.cons_cons _ (.cons_cons _ (.cons _ (.cons _ (.cons_cons _ (.cons_cons _ .slnil))))))))
theorem Hi{p q r z:Nat}:[r,z,p,q]⊆[p,q,r,z]:=by
 intro x h
 simp only [List.mem_cons,List.not_mem_nil,or_false] at h⊢
 rcases h with h|h|h|h<;>simp only [h,true_or,or_true]
theorem Ip{a b c d e p q r z:Nat}:[a,b,c,d,e,r,z,p,q]⊆[a,b,c,d,e,p,q,r,z]:=cons_subset_cons _ (cons_subset_cons _ (cons_subset_cons _ (cons_subset_cons _ (cons_subset_cons _ Hi))))
theorem ut(W:WW)(vE:FE)(aF c1 c2 aI aG aE B:Nat)(u1 u2 u3 u4 u5 u6 u7 u8 u9 tB:Tok)(v1 v2 v3 v5 v6 v7 v8:Value)(epG:Nat)(p1 p2 p3:Nat)(vs1 vs2 vs3:Array Value)(ep1 ep2 ep3:Nat)(vals1 vals2 gD:List Int)(hv1:aj vs1 vals1)(hv2:aj vs2 vals2)(hv3:aj vs3 gD)(hl1:vals1.length=4)(hl2:vals2.length=3)(hl3:gD.length=6)(hB:B=2\/B=3)(hp1:dL B vals1)(hp2:dL B vals2)(hp3:dL B gD):
  cw (Vw W) ⟨kh (pW W) aF c1 c2 aI,none,none,(c6 vE),none⟩ [(140,bD []),(147,bD []),(A aF,ah "frame" ([aa (pW W) Yy u1 v1,aa (pW W) g0 u2 v2,aa (pW W) g5 u3 v3,aa (pW W) eM u4 (cr B tB),aa (pW W) Yr u5 v5,aa (pW W) [105] u6 v6,aa (pW W) [113] u7 v7,aa (pW W) qD u8 v8,aa (pW W) lW u9 (Yp aE)]++[]) 9),(A aI,Yf aG),(A aG,ab ⟨[fC p1,fC p2,fC p3]⟩ epG),(Yk p1 vs1 ep1),(Yk p2 vs2 ep2),(Yk p3 vs3 ep3),(A aE,iz)] [] (lO (pW W) aF aI aG aE B u1 u2 u3 u4 u5 u6 u7 u8 u9 tB v1 v2 v3 v5 v6 v7 v8 epG p1 p2 p3 vs1 vs2 vs3 ep1 ep2 ep3) (fun x=>x.fz1++(x.fz2++x.fz3)) (oU B vals1 vals2 gD):=by
 intro p0 s hP _
 have hPa:az (pW W) ((CN (pW W) aF aI aG aE B u1 u2 u3 u4 u5 u6 u7 u8 u9 tB v1 v2 v3 v5 v6 v7 v8 ⟨[fC p1,fC p2,fC p3]⟩ epG p1 [] 9 0 [] [] vs1 ep1 ⟨[]⟩ 0)++[(Yk p2 vs2 ep2),(Yk p3 vs3 ep3)]) s:=hP.perm (List.Perm.append_left [_,_,_,_,_] ((List.Perm.cons _ ((List.perm_append_comm (l₁:=[_,_]) (l₂:=[_]))))))
 refine nI W vE aF c1 c2 aI aG aE B u1 u2 u3 u4 u5 u6 u7 u8 u9 tB v1 v2 v3 v5 v6 v7 v8 ⟨[fC p1,fC p2,fC p3]⟩ epG p1 [] 9 0 [] [] vs1 ep1 ⟨[]⟩ 0 vals1 hv1 (.inr (.inl hl1)) hB hp1 (.inl ⟨rfl,rfl⟩) rfl (.inl ⟨rfl,rfl⟩) (by simp) p0 s hPa.left fun s1 y10 y11 w10 w11 r1 r2 x1 e1 zq24 hP1 K1 ho1 hn1 hpa1 hst1 hf1=>?_
 obtain⟨q1,H1⟩:=zq24
 have hPb:=(hPa.uncutL hP1 K1).perm (List.Perm.append_left [_,_,_,_,_] (E9 _ _ _ _))
 refine nI W vE aF c1 c2 aI aG aE B u1 u2 u3 u4 u5 u6 u7 u8 u9 tB v1 v2 v3 v5 v6 v7 v8 ⟨[fC p1,fC p2,fC p3]⟩ epG p2 [aa (pW W) gF y10 w10,aa (pW W) Yq y11 w11] 11 (0+1) (cE r1) (cD r2) vs2 ep2 ((⟨[]⟩:Array Value).push (.ref (A x1.a))) e1 vals2 hv2 (.inl hl2) hB hp2 (.inr ⟨_,_,_,_,rfl,rfl⟩) rfl (.inr ⟨r1,r2,rfl,rfl⟩) (by simp) q1 s1 (az.left (T:=[(Yk p1 vs1 ep1),(Yk p3 vs3 ep3)]) hPb) fun s2 z10 z11 Ju Js r12 r22 x2 e2 zq25 hP2 K2 ho2 hn2 hpa2 hst2 hf2=>?_
 obtain⟨q2,H2⟩:=zq25
 have hPc:=((az.uncutL (T:=[(Yk p1 vs1 ep1),(Yk p3 vs3 ep3)]) hPb hP2 K2)).perm (List.Perm.append_left [_,_,_,_,_] (Fi _ _ _ _))
 refine nI W vE aF c1 c2 aI aG aE B u1 u2 u3 u4 u5 u6 u7 u8 u9 tB v1 v2 v3 v5 v6 v7 v8 ⟨[fC p1,fC p2,fC p3]⟩ epG p3 [aa (pW W) gF z10 Ju,aa (pW W) Yq z11 Js] 11 (0+1+1) (cE r12) (cD r22) vs3 ep3 (((⟨[]⟩:Array Value).push (.ref (A x1.a))).push (.ref (A x2.a))) e2 gD hv3 (.inr (.inr hl3)) hB hp3 (.inr ⟨_,_,_,_,rfl,rfl⟩) rfl (.inr ⟨r12,r22,rfl,rfl⟩) (by simp) q2 s2 (az.left (T:=[(Yk p1 vs1 ep1),(Yk p2 vs2 ep2)]) hPc) fun s3 g10 g11 h10 h11 r13 r23 x3 e3 zq26 hP3 K3 ho3 hn3 hpa3 hst3 hf3=>?_
 obtain⟨q3,H3⟩:=zq26
 have hPd:=az.uncutL (T:=[(Yk p1 vs1 ep1),(Yk p2 vs2 ep2)]) hPc hP3 K3
 apply FG (W:=W) (hit:=rfl) (hE:=rfl) (hP:=az.mid (E1:=[_,_]) (E3:=[_,_,_,_]) hPd) (p0:=q3) (kQ:=?k86) ..
 case' k86=>intro n tb s4 _ _ r h4a h4b h4c
 obtain⟨hH,hK⟩:=az.mid_back (E1:=[_,_]) (E3:=[_,_,_,_]) hPd h4b h4c
 have lt1:A x1.a<s1.heap.objs.size:=Heap.lt_size ho1
 have lt2:A x2.a<s2.heap.objs.size:=Heap.lt_size ho2
 have lt3:A x3.a<s3.heap.objs.size:=Heap.lt_size ho3
 have lo9:=fun a (ha:s.heap.objs.size<=a) hm=>Nat.not_lt.mpr ha (hP.lt hm)
 have KK1:=hP.kmono K1 fun a h=>Hh.subset h
 have KK2:=hP.kmono K2 fun a h=>Iv.subset h
 have KK3:=hP.kmono K3 fun a h=>IE.subset h
 have KK4:=hP.kmono hK fun a h=>Ip h
 have sz1:=KK1.size
 have sz2:=KK2.size
 have k1:∀a o,s.heap.objs.size<=a->s1.heap.get? a=some o->s4.heap.get? a=some o:=fun a o ha e=>KK4.keep _ _ (KK3.keep _ _ (KK2.keep _ _ e (lo9 a ha)) (lo9 a ha)) (lo9 a ha)
 have k2:∀a o,s.heap.objs.size<=a->s2.heap.get? a=some o->s4.heap.get? a=some o:=fun a o ha e=>KK4.keep _ _ (KK3.keep _ _ e (lo9 a ha)) (lo9 a ha)
 have k3:∀a o,s.heap.objs.size<=a->s3.heap.get? a=some o->s4.heap.get? a=some o:=fun a o ha e=>KK4.keep _ _ e (lo9 a ha)
 have g2:s.heap.objs.size<=A x2.a:=Nat.le_trans sz1 hn2
 have g3:s.heap.objs.size<=A x3.a:=Nat.le_trans sz1 (Nat.le_trans sz2 hn3)
 refine⟨⟨r13,r23,g10,g11,h10,h11,0+1+1+1,e3,x1.a,x2.a,x3.a,x1.ep,x2.ep,x3.ep,x1.eds,x2.eds,x3.eds,x1.fz,x2.fz,x3.fz,x1.es,x2.es,x3.es⟩,s4,H1 _ _ (H2 _ _ (H3 _ _ r)),h4a,KK1.trans (KK2.trans (KK3.trans KK4)),⟨hH.1,hH.2.1,hH.2.2.1,hH.2.2.2.1,hH.2.2.2.2.1,hH.2.2.2.2.2.2.2.1,hH.2.2.2.2.2.2.2.2.1,hH.2.2.2.2.2.1,hH.2.2.2.2.2.2.1,trivial⟩,⟨k1 _ _ hn1 ho1,k2 _ _ g2 ho2,k3 _ _ g3 ho3,trivial⟩,?_,?_,⟨⟨hpa1,hst1⟩,⟨hpa2,hst2⟩,⟨hpa3,hst3⟩⟩,?_⟩
 ·intro y hy
  simp only [lO,List.mem_cons,List.not_mem_nil,or_false] at hy
  rcases hy with rfl|rfl|rfl
  ·exact hn1
  ·exact g2
  ·exact g3
 ·simp only [lO,map_cons,map_nil,List.nodup_cons,List.mem_cons,List.not_mem_nil,or_false,not_or,nodup_nil,and_true,not_false_eq_true]
  exact⟨⟨fun e=>Nat.lt_irrefl _ (lt_of_lt_of_le lt1 (e▸hn2)),fun e=>Nat.lt_irrefl _ (lt_of_lt_of_le lt1 (Nat.le_trans sz2 (e▸hn3)))⟩,fun e=>Nat.lt_irrefl _ (lt_of_lt_of_le lt2 (e▸hn3))⟩
 ·intro y hy
  simp only [lO,map_cons,map_nil,List.mem_cons,List.not_mem_nil,or_false,not_or]
  rcases List.mem_append.mp hy with hy|hy
  ·have:=hf1 y hy
   have lt:=Heap.lt_size this.1
   exact⟨k1 _ _ this.2.1 this.1,this.2.1,this.2.2,fun e=>Nat.lt_irrefl _ (lt_of_lt_of_le lt (e▸hn2)),fun e=>Nat.lt_irrefl _ (lt_of_lt_of_le lt (Nat.le_trans sz2 (e▸hn3)))⟩
  ·rcases List.mem_append.mp hy with hy|hy
   ·have:=hf2 y hy
    have lt:=Heap.lt_size this.1
    have ge:=Nat.le_trans sz1 this.2.1
    exact⟨k2 _ _ ge this.1,ge,fun e=>Nat.lt_irrefl _ (lt_of_lt_of_le lt1 (e▸this.2.1)),this.2.2,fun e=>Nat.lt_irrefl _ (lt_of_lt_of_le lt (e▸hn3))⟩
   ·have:=hf3 y hy
    have ge:=Nat.le_trans sz1 (Nat.le_trans sz2 this.2.1)
    exact⟨k3 _ _ ge this.1,ge,fun e=>Nat.lt_irrefl _ (lt_of_lt_of_le lt1 (Nat.le_trans sz2 (e▸this.2.1))),fun e=>Nat.lt_irrefl _ (lt_of_lt_of_le lt2 (e▸this.2.1)),this.2.2⟩
noncomputable def DK(W:WW)(vE:FE)(aF c1 c2:Nat)(iF iI iG j1 j2 j3 iE mm ro:Nat):bM:=t8 (X:=oI) (Vw W) (fun st=>aj (fx st j1) (mj st j1)/\aj (fx st j2) (mj st j2)/\aj (fx st j3) (mj st j3)/\List.length (mj st j1)=4/\List.length (mj st j2)=3/\List.length (mj st j3)=6/\((wa st iF)=2\/(wa st iF)=3)/\dL (wa st iF) (mj st j1)/\dL (wa st iF) (mj st j2)/\dL (wa st iF) (mj st j3)) (fun st=>⟨kh (pW W) aF c1 c2 (ce st iI),none,none,(c6 vE),none⟩) (fun st=>[(140,bD []),(147,bD []),(A aF,ah "frame" ([aa (pW W) Yy (bW st iF 0).1 (bW st iF 0).2,aa (pW W) g0 (bW st iF 1).1 (bW st iF 1).2,aa (pW W) g5 (bW st iF 2).1 (bW st iF 2).2,aa (pW W) eM (bW st iF 3).1 (.int (Int.ofNat (wa st iF)) (lj (bW st iF 3).2)),aa (pW W) Yr (bW st iF 4).1 (bW st iF 4).2,aa (pW W) [105] (bW st iF 5).1 (bW st iF 5).2,aa (pW W) [113] (bW st iF 6).1 (bW st iF 6).2,aa (pW W) qD (bW st iF 7).1 (bW st iF 7).2,aa (pW W) lW (bW st iF 8).1 (.ref (A (ce st iE)))]++[]) 9),(Ph st iI iG),(A (ce st iG),ab ⟨[BY st j1,BY st j2,BY st j3]⟩ (fl st iG)),(sW st j1),(sW st j2),(sW st j3),(A (ce st iE),iz)]) [0,1,iF,iI,iG,j1,j2,j3,iE] mm ro (fun st=>lO (pW W) aF (ce st iI) (ce st iG) (ce st iE) (wa st iF) (bW st iF 0).1 (bW st iF 1).1 (bW st iF 2).1 (bW st iF 3).1 (bW st iF 4).1 (bW st iF 5).1 (bW st iF 6).1 (bW st iF 7).1 (bW st iF 8).1 (lj (bW st iF 3).2) (bW st iF 0).2 (bW st iF 1).2 (bW st iF 2).2 (bW st iF 4).2 (bW st iF 5).2 (bW st iF 6).2 (bW st iF 7).2 (fl st iG) (ce st j1) (ce st j2) (ce st j3) (fx st j1) (fx st j2) (fx st j3) (fl st j1) (fl st j2) (fl st j3)) (fun x=>x.fz1++(x.fz2++x.fz3)) (fun st=>oU (wa st iF) (mj st j1) (mj st j2) (mj st j3))
theorem zk(W:WW)(vE:FE)(aF c1 c2:Nat){iF iI iG j1 j2 j3 iE:Nat}{V:XV}(hk:V.kt=eG (pW W)):bX V (model pw (Vw W)) (DK W vE aF c1 c2 iF iI iG j1 j2 j3 iE V.mm V.ro):=
 lP hk fun st h=>⟨[],(fun x hx=>nomatch hx),ut W vE aF c1 c2 _ _ _ _ _ _ _ _ _ _ _ _ _ _ _ _ _ _ _ _ _ _ _ _ _ _ _ _ _ _ _ _ _ _ h.1 h.2.1 h.2.2.1 h.2.2.2.1 h.2.2.2.2.1 h.2.2.2.2.2.1 h.2.2.2.2.2.2.1 h.2.2.2.2.2.2.2.1 h.2.2.2.2.2.2.2.2.1 h.2.2.2.2.2.2.2.2.2⟩
def mW{X:Type}(w':World)(G:Ctx)(E:ae)(out:X->Result×List Obj×ae)(cond:X->Nat->Nat->Prop)(p:Pos)(s:Shared):Prop:=
 ∃x s',Runs (jA w') G p ((jA w').den G.code) [] s (.ret (out x).1) s'/\cN w'.params s'/\af E s s'/\kf (E.map (·.1)) (out x).2.1 s'.heap/\cI (out x).2.2 s'.heap/\
  (∀y∈(out x).2.2,s.heap.objs.size<=y.1)/\((out x).2.2.map (·.1)).Nodup/\cond x s.toks s'.toks
def tR{X:Type}(w':World)(G:Ctx)(E:ae)(out:X->Result×List Obj×ae)(cond:X->Nat->Nat->Prop):Prop:=
 ∀p s,az w'.params E s->mW w' G E out cond p s
noncomputable def Dl{X:Type}(E:ae)(is:List Nat)(mm ro:Nat)(out:X->Result×List Obj×ae)(cond:X->Nat->Nat->Prop)(st:St)(K:Result->St->Prop):Prop:=
 (is.map fun i=>(bm st.L st.n i,st.T.get i))=ax E/\st.gl.all l9=true/\(MK st is mm ro)=true/\
  ∀(x:X) (n' tb' gb':Nat),cond x (Nat.add st.tb st.ti) (TK tb')->(Nat.beq is.length (out x).2.1.length&&je (qP st.T is (out x).2.1) (Nat.add st.m0 st.k) ((out x).2.2.map (·.2)))=true/\K (out x).1 (dS st is (out x).2.1 (out x).2.2 (A n') (TK tb') gb')
noncomputable def DB{X:Type}(w':World)(G:Ctx)(E:ae)(is:List Nat)(mm ro:Nat)(out:X->Result×List Obj×ae)(cond:X->Nat->Nat->Prop):bM:=fun Γ p c st K=>Γ=G/\Dl E is mm ro out cond st K
theorem yd{X:Type}{w':World}{E:ae}{is:List Nat}{V:XV}{out:X->Result×List Obj×ae}{cond:X->Nat->Nat->Prop}{h0 d os Γ p st K s}(hk:V.kt=eG w'.params)(hc:az w'.params E s->cH V.fz E s->mW w' Γ E out cond p s)(H:Dl E is V.mm V.ro out cond st K)(R:f6 V h0 d os st s):
  ∃r st' s',Runs (jA w') Γ p ((jA w').den Γ.code) [] s (.ret r) s'/\f6 V h0 d os st' s'/\K r st':=by
 refine gQ fun Q zQ=>?_
 obtain⟨hE,hfin,hb,H⟩:=H
 rw [Bool.and_eq_true,Bool.and_eq_true,Bool.and_eq_true] at hb
 obtain⟨⟨⟨b1,b2⟩,b4⟩,b3⟩:=hb
 have eA:E.map (·.1)=is.map fun i=>bm st.L st.n i:=by
  have:=congrArg (List.map fun x=>x.1) hE
  simp only [map_map,ax] at this
  exact this.symm
 have hlt:∀i∈is,∃x,st.T.get i=some x:=by
  intro i hi
  have:(bm st.L st.n i,st.T.get i)∈ax E:=by rw [<-hE];exact List.mem_map.mpr ⟨i,hi,rfl⟩
  obtain⟨x,_,e⟩:=List.mem_map.mp this
  exact⟨_,(congrArg Prod.snd e).symm⟩
 have pre:az w'.params E s:=by
  refine⟨⟨fun a o e=>R.kt a o (by rw [hk];exact e),fU R hfin,by rw [R.size];exact le_of_ble_eq_true b1,by rw [R.toks];exact le_of_ble_eq_true b2⟩,?_,?_,?_⟩
  ·have z:=gd R is
   rw [hE] at z
   exact ai z
  ·rw [eA]
   refine g7 (hV b4) fun i hi j hj e=>?_
   obtain⟨o,e1⟩:=hlt i hi
   obtain⟨o',e2⟩:=hlt j hj
   exact R.inj i j (R.own i o e1).1 (R.own j o' e2).1 e
  ·intro a ha
   rw [eA] at ha
   obtain⟨i,hi,rfl⟩:=List.mem_map.mp ha
   obtain⟨o,e⟩:=hlt i hi
   rw [<-hk];exact R.off i (R.own i o e).1
 have fzo:cH V.fz E s:=by
  intro x hx
  have z:=R.fz x hx
  refine⟨R.keep x.1 x.2 z.1 z.2,fun hm=>?_⟩
  rw [eA] at hm
  obtain⟨i,hi,e⟩:=List.mem_map.mp hm
  have e:bm st.L st.n i=x.1:=e
  have q:=List.all_eq_true.mp b3 i hi
  rw [Bool.or_eq_true] at q
  rcases q with q|q
  ·exact z.2 i (le_of_ble_eq_true q) e
  ·obtain⟨o,e1⟩:=hlt i hi
   have q1:=R.new i (le_of_ble_eq_true q) (R.own i o e1).1
   have q2:=Heap.lt_size z.1
   rw [e] at q1
   exact absurd q2 (Nat.not_lt.mpr q1)
 obtain⟨x,s',r,rdy,K',has,hasN,newN,ndN,cx⟩:=hc pre fzo
 have e1:=rdy.size
 have e2:=rdy.toks
 obtain⟨c1,H⟩:=H x (s'.heap.objs.size-245) (s'.toks-677) s'.gens.size (by rw [show Nat.add st.tb st.ti=s.toks from R.toks.symm,show TK (s'.toks-677)=s'.toks from Nat.sub_add_cancel e2];exact cx)
 refine zQ ?_
 rw [Bool.and_eq_true] at c1
 exact⟨_,_,s',r,oe R hk hE (eq_of_beq_eq_true c1.1) b3 c1.2 rdy K' has hasN newN ndN (show s'.heap.objs.size=(s'.heap.objs.size-245)+245 by lia) (show s'.toks=(s'.toks-677)+677 by lia) rfl (F:=st.fz) (fun x hx=>.inl hx),H⟩
theorem zg{X:Type}{w':World}{G:Ctx}{E:ae}{is:List Nat}{V:XV}{out:X->Result×List Obj×ae}{cond:X->Nat->Nat->Prop}(hk:V.kt=eG w'.params)(hc:tR w' G E out cond):bX V (model pw w') (DB w' G E is V.mm V.ro out cond):=by
 intro h0 d os Γ p c st K s H hΓ R
 obtain⟨rfl,H⟩:=H
 subst hΓ
 exact yd hk (fun h _=>hc p s h) H R
theorem qX(W:WW)(cel:Expr)(cgs:List Comprehension)(csc:Scope)(cps:Pos)(cd:Nat)(ci ca:Value)(cenv:Env)(p2:Pos)(vE:FE)(aT:Nat)(dx dy:Int)(tx ty:Tok)(ep:Nat)(hr:eW dx dy):
  tR (Vw W) (OK aT cel cgs csc cps cd ci ca cenv p2 vE) ([(fh aT dx tx dy ty ep)]) (fun x:cC=>(.ok (.ret (.float (bf dx dy) x.t)),[a9 [.int dx tx,.int dy ty] ep],[])) (fun x t1 t2=>t1<=x.t/\x.t<t2):=by
 intro p0 s hP
 refine gQ fun Q zQ=>?_
 obtain⟨n,hn⟩:=hP.size
 obtain⟨tb,ht⟩:=hP.toks
 generalize hg:s.gens.size=gb
 have k:=px hr
 unfold sS at k
 simp only [Bool.and_eq_true,Bool.not_eq_true',beq_iff_eq] at k
 obtain⟨⟨⟨⟨⟨⟨⟨⟨⟨k1,k2⟩,k3⟩,k4⟩,k5⟩,k6⟩,k7⟩,k8⟩,k9⟩,k10⟩:=k
 have hd:IntMulOk 16 dx:=IntMulOk.of_left (by decide)
 have key:∃ev s' l,dA (Yt W) (OK aT cel cgs csc cps cd ci ca cenv p2 vE) p0 (G7 aT 226) [] s ev s'/\((∃x:cC,(TK tb<=x.t/\x.t<s'.toks)/\ev=.fin (.ret (.ok (.ret (.float (bf dx dy) x.t))))/\l=ax ([(fh aT dx tx dy ty ep)]))/\677<=s'.toks)/\f9 l s'.heap/\cN (pW W) s'/\af ([(fh aT dx tx dy ty ep)]) s s':=by
  have H:=Eq.mpr (rs W p0 cel cgs csc cps cd ci ca cenv p2 vE aT dx dy tx ty ep (fR dx) (fG dx dy) (Dt dx) (O0 dx) (N4 dx) (Pp dx) (KY dx dy) (LH dx dy) (LE dx) (OH dx dy) (Ml dx dy) (bf dx dy) n tb gb (fun ev nk tk fin l=>fin=true/\((∃x:cC,(TK tb<=x.t/\x.t<tk)/\ev=.fin (.ret (.ok (.ret (.float (bf dx dy) x.t))))/\l=ax ([(fh aT dx tx dy ty ep)]))/\677<=tk)) _ rfl _ rfl) (by
   iterate 20 refine rI ⟨by first|exact g9 (by decide) k1|exact g9 (by decide) k2|exact gX hd|exact mK|exact ju k5|exact ju k6|exact fN (beq_iff_eq.mpr k7)|exact fN (beq_iff_eq.mpr k8)|exact ek k9|exact ek (beq_iff_eq.mpr k10)|exact eO k3|exact eO k4|exact eO PD|exact m6 O1,rfl⟩ ?_
   exact ag ⟨rfl,⟨⟨Nat.add (TK tb) 36⟩,⟨le_add_right _ _,Nat.add_lt_add_left (by decide) _⟩,rfl,rfl⟩,eU⟩ _)
  exact dw (is:=[0]) (by exact⟨fun _=>au,fun _=>au,fun _=>au,fun _=>au,fun _=>au,fun _=>au,fun _=>au,fun _=>au,fun _=>au,fun _=>au,fun _=>au,fun _=>au,fun _=>au,fun _=>au,fun _=>au,fun _=>au,fun _=>au,fun _=>au,fun _=>au,fun _=>au,trivial⟩) (by exact trivial) hP hn ht hg rfl (by rintro ev nk tk l ⟨⟨x,_,rfl,rfl⟩,h⟩;exact⟨rfl,h⟩) H
 obtain⟨ev,s',l,r,⟨⟨x,hx,rfl,rfl⟩,htk⟩,h3,h4,h5⟩:=key
 refine zQ ?_
 have h3:=ai h3
 exact⟨x,s',by rw [bI];exact r,h4,h5,⟨h3.1,trivial⟩,trivial,(fun y hy=>nomatch hy),nodup_nil,by rw [ht];exact hx⟩
theorem CB{P:Params}:eB P=.ListComp (Ab (eB P)) (xB (eB P)) (ix (eB P)) (Gq (eB P)):=by rfl
theorem y0(W:WW)(b7:Bool)(p0:Pos)(vE:FE)(aF c1 c2 aL aI aC aG aT:Nat)(uF tx ty:Tok)(vF:Value)(dx dy:Int)(k et:Nat)(gs as:Array Value)(epG epA:Nat)(s:Shared)(hit:gs[(Int.ofNat k).toNat]? =some (.ref (A aT)))(hr:eW dx dy)(hsz:as.size<=1000)(E:WW->ae)(hE:E=fun W=>[(A aL,ah "dict" (cond b7 [] [aa (pW W) [115,116,101,112] uF vF]) (cond b7 0 1)),(A aI,aK "list_iterator" [.ref (A aG),.int (Int.ofNat k) 0]),(A aG,ab gs epG),(A aC,ab as epA),(A aT,a9 [.int dx tx,.int dy ty] et)])(hP:az (pW W) (E W) s){Q:Prop}(kQ:∀(n tb:Nat) (s':Shared) (y:Tok) (nt ep:Nat) (th:Tok),Hn s n->Ht s tb->(TK tb<=th/\th<s'.toks)->br (model pw (Vw W)) (⟨ao (eB (pW W)) (bo (pW W) aF c1 c2) aL aI aC,none,none,[(.func vE.f2 vE.n4,vE.p5),(.builtin "claim.caller" {},vE.p6)],none⟩) p0 s s'->cN (pW W) s'->cI ([(A aL,ah "dict" [aa (pW W) [115,116,101,112] y (.ref (A aT))] 1),(A aI,aK "list_iterator" [.ref (A aG),.int (Int.ofNat (k+1)) 0]),(A aG,ab gs epG),(A aC,ab (as.push (.ref (A nt))) ep),(A aT,a9 [.int dx tx,.int dy ty] et),(A nt,a9 [.float (bf dx dy) th,.int dx tx,.int dy ty] 0)]) s'.heap->af (E W) s s'->s.heap.objs.size<=A nt->Q):Q:=by
 obtain⟨n,tb,gb,hn,ht,hg⟩:=hP.nt
 refine qB (fz:=[]) hE hP hn ht hg (fun E W Z hs=>cm (ei (Vw W) 5 [(bG 1 2 (.ref (A aT))),(cf 3)] [] [DB (Vw W) (⟨.call (.ref 226) ⟨[.ref (A aT)],[]⟩,none,none,(ao (eB (pW W)) (bo (pW W) aF c1 c2) aL aI aC,⟨174,36,174,50⟩)::[(.func vE.f2 vE.n4,vE.p5),(.builtin "claim.caller" {},vE.p6)],none⟩) ([(A aT,a9 [.int dx tx,.int dy ty] et)]) [4] 5 5 (fun x:cC=>((.ok (.ret (.float (bf dx dy) x.t)),[a9 [.int dx tx,.int dy ty] et],[]):Result×List Obj×ae)) (fun x t1 t2=>t1<=x.t/\x.t<t2)] []) 95 (⟨ao (eB (pW W)) (bo (pW W) aF c1 c2) aL aI aC,none,none,[(.func vE.f2 vE.n4,vE.p5),(.builtin "claim.caller" {},vE.p6)],none⟩) (p0) (aQ (ao (eB (pW W)) (bo (pW W) aF c1 c2) aL aI aC)) [] hs (qU E (A n) (TK tb) gb) (sI [0,1,2,3,4,5] Z)) (fun E W Z hs=>ad (lE E) (A n) gb (sl hs 0 2) (((Rf (.builtin "list_iterator.__next__" ⟨[(.ref (A aI))],[]⟩:Code))/\((Rf (A aG:Addr))/\(((gs[(Int.ofNat k).toNat]?):(Option Value))=(some (.ref (A aT))))))/\ad (lE E) (A n) gb (sl hs 3 7) ((Rf (⟨.call (.ref 226) ⟨[.ref (A aT)],[]⟩,none,none,(ao (eB (pW W)) (bo (pW W) aF c1 c2) aL aI aC,⟨174,36,174,50⟩)::[(.func vE.f2 vE.n4,vE.p5),(.builtin "claim.caller" {},vE.p6)],none⟩:Ctx))/\(Rf (ax ([(A aT,a9 [.int dx tx,.int dy ty] et)])))/\(Rf (true:Bool))/\(Rf (true:Bool))/\∀(x0:cC) (n0 tb0 gb0:Nat),((Nat.add (TK tb) 1)<=x0.t/\x0.t<(TK tb0))->(Rf (true:Bool))/\ad [(A aL),(A aI),(A aG),(A aC),(A aT)] (A n0) gb0 (sl hs 11 13) (((Rf (.builtin "list.append" ⟨[(.ref (A aC)),(.ref (Nat.add (A n0) 0))],[]⟩:Code))/\(((Rf (.type "list":Value))/\((Rf (none:Option Addr))/\(Rf (Array.mk []:Array (Option Value)))))/\(as.size.le 1000)))/\ad [(A aL),(A aI),(A aG),(A aC),(A aT)] (A n0) gb0 (sl hs 25 1) (Z (.again (ao (eB (pW W)) (bo (pW W) aF c1 c2) aL aI aC)) (Nat.add (A n0) 1) (Nat.add (TK tb0) 2) true (ax ([((A aL),⟨(.type "dict"),none,(.dict ⟨[⟨(PyData.keyHash (pW W) (Str.mk ⟨[115,116,101,112]⟩)),(.str (Str.mk ⟨[115,116,101,112]⟩) (cond b7 (TK tb) uF)),(.ref (A aT))⟩]⟩ 1),⟨[]⟩⟩),((A aI),⟨(.type "list_iterator"),none,(.fields ⟨[(.ref (A aG)),(.int (Int.ofNat k+1) 0)]⟩),⟨[]⟩⟩),((A aG),⟨(.type "list"),none,(.seq (gs) epG),⟨[]⟩⟩),(A aC,Obj.mapSeq (·.push (.ref (Nat.add (A n0) 0))) (ab as epA)),((A aT),⟨(.type "tuple"),none,(.seq ⟨[(.int (dx) tx),(.int (dy) ty)]⟩ et),⟨[]⟩⟩),((Nat.add (A n0) 0),⟨(.type "tuple"),none,(.seq ⟨[(.float (bf dx dy) x0.t),(.int (dx) tx),(.int (dy) ty)]⟩ 0),⟨[]⟩⟩)])) ([])))))) (fun _=>[2,2,4000,2,2,1,1,0,1,0,1000,1,5,5,5,5,5,1,5,5,5,5,5,4,4001,4,3000]) (by apply iW b7<;>exact oW (by kernel_rfl)) rfl ⟨fun _=>bi,fun _=>bx,trivial⟩ ⟨zg rfl (by unfold ao;rw [CB];exact qX W _ _ _ _ _ _ _ _ _ vE aT dx dy tx ty et hr),trivial⟩ rfl rfl (fun x hx=>nomatch hx) fun hs=>?_
 refine rI ⟨rfl,rfl,hit⟩ ?_
 refine ag ⟨rfl,rfl,rfl,rfl,fun x0 n0 tb0 gb0 hx0=>⟨rfl,?_⟩⟩ _
 refine rI ⟨rfl,⟨rfl,rfl,rfl⟩,hsz⟩ ?_
 exact rF fun s' r et h3 h4 h5 h6 h7=>kQ n tb s' _ (Nat.add n0 0) _ x0.t hn ht (by rw [et];exact⟨Nat.le_trans (le_add_right _ _) hx0.1,lt_of_lt_of_le hx0.2 (le_add_right _ _)⟩) (am rfl r) h4 (ai h3) h5 (h7 _ (mem_cons_self ..))
theorem Gy(W:WW)(p0:Pos)(vE:FE)(aF c1 c2 aL aI aC aG:Nat)(loc:List DictEntry)(k el:Nat)(gs as:Array Value)(epG epA:Nat)(s:Shared)(hit:gs[(Yh k).toNat]? =none)(E:WW->ae)(hE:E=fun W=>[(mh aL loc el),(Y5 aI aG k),(Yk aG gs epG),(Yk aC as epA)])(hP:az (pW W) (E W) s){Q:Prop}(kQ:∀(n tb:Nat) (s':Shared),Hn s n->Ht s tb->Runs (Yt W) (⟨ao (eB (pW W)) (bo (pW W) aF c1 c2) aL aI aC,none,none,(c6 vE),none⟩) p0 ((Yt W).den (ao (eB (pW W)) (bo (pW W) aF c1 c2) aL aI aC)) [] s fu s'->cN (pW W) s'->cI (Dr aL loc el aI k aG gs epG aC as epA) s'.heap->af (E W) s s'->Q):Q:=by
 obtain⟨n,tb,gb,hn,ht,hg⟩:=hP.nt
 refine bT hE hP hn ht hg (fun E W Z hs=>cm (vd W 4 1 2) 53 (⟨ao (eB (pW W)) (bo (pW W) aF c1 c2) aL aI aC,none,none,(c6 vE),none⟩) (p0) (aQ (ao (eB (pW W)) (bo (pW W) aF c1 c2) aL aI aC)) [] hs (cO E n tb gb) (m4 Z)) (fun E W Z hs=>ad (lE E) (A n) gb (sl hs 0 2) ((vR aI aG gs k)/\ad (lE E) (A n) gb (sl hs 3 3) (Z (.fin fu) (Y2 n 2) (Y8 tb 0) true (ax ((GY aL loc el aI k aG gs epG aC as epA)))))) (fun _=>[2,2,4000,2,2,6]) (oW (by kernel_rfl)) rfl ⟨fun _=>cg,trivial⟩ trivial rfl fun hs=>?_
 refine rI ⟨rfl,rfl,hit⟩ ?_
 exact rF fun s' r _ h3 h4 h5=>kQ n tb s' hn ht (by rw [bI];exact r) h4 (ai h3) h5
theorem Fj(W:WW)(p0:Pos)(vE:FE)(aF c1 c2 aL aI aC aG:Nat)(gs:Array Value)(epG:Nat)(s:Shared)(E:WW->ae)(hE:E=fun W=>(Y9 aL aI aG gs epG aC))(hP:az (pW W) (E W) s){Q:Prop}(kQ:∀(n tb:Nat) (s':Shared),Hn s n->Ht s tb->cu (Yt W) (⟨ay (ao (eB (pW W)) (bo (pW W) aF c1 c2) aL aI aC),none,none,(c6 vE),none⟩) (ao (eB (pW W)) (bo (pW W) aF c1 c2) aL aI aC) p0 s s'->az (pW W) ((Y9 aL aI aG gs epG aC)) s'->af (E W) s s'->Q):Q:=by
 obtain⟨n,tb,gb,hn,ht,hg⟩:=hP.nt
 refine bT hE hP hn ht hg (fun E W Z hs=>cm (oZ W 4) 52 (⟨ay (ao (eB (pW W)) (bo (pW W) aF c1 c2) aL aI aC),none,none,(c6 vE),none⟩) (p0) (aQ (ay (ao (eB (pW W)) (bo (pW W) aF c1 c2) aL aI aC))) [] hs (cO E n tb gb) (m4 Z)) (fun E W Z hs=>ad (lE E) (A n) gb (zt hs W) (Z (.again (ao (eB (pW W)) (bo (pW W) aF c1 c2) aL aI aC)) (Y2 n 0) (Y8 tb 0) true (ax ((Y9 aL aI aG gs epG aC))))) zE (pD (by kernel_rfl)) rfl trivial (by exact trivial) rfl fun hs=>?_
 exact rF fun s' r _ h3 h4 h5=>kQ n tb s' hn ht (ch r) ⟨h4,ai h3,(nx hE hP).nd,(nx hE hP).lo⟩ h5
def bq(items:Array Value)(fz:List (Nat×Obj))(ds:List (Int×Int)):Prop:=∀i:Nat,match ds[i]? with
 |some d=>∃a th tx ty et,items[i]? =some (.ref (A a))/\(A a,a9 [.float (bf d.1 d.2) th,.int d.1 tx,.int d.2 ty] et)∈fz
 |none=>items[i]? =none
theorem bq.size{items:Array Value}{fz}{ds:List (Int×Int)}(h:bq items fz ds):items.size=ds.length:=by
 have h1:items[ds.length]? =Option.none:=by
  have:=h ds.length
  rw [List.getElem?_eq_none (Nat.le_refl _)] at this;exact this
 have h2:items.size<=ds.length:=by
  rcases lt_or_ge ds.length items.size with q|q
  ·rw [Array.getElem?_eq_getElem q] at h1;cases h1
  ·exact q
 rcases lt_or_ge items.size ds.length with q|q
 ·have z:=h items.size
  rw [List.getElem?_eq_getElem q] at z
  obtain⟨a,th,tx,ty,et,e,_⟩:=z
  rw [Array.getElem?_eq_none (Nat.le_refl _)] at e;cases e
 ·lia
theorem bq.push{items:Array Value}{fz:List dh}{ds:List cA}{a th tx ty et}{d:Int×Int}(h:bq items fz ds):bq (items.push (Yp a)) (fz++[(A a,a9 [.float (bf d.1 d.2) th,.int d.1 tx,.int d.2 ty] et)]) (ds++[d]):=by
 intro i
 have hs:=h.size
 by_cases q:i<ds.length
 ·rw [getElem?_append_left q]
  have z:=h i
  revert z
  rw [List.getElem?_eq_getElem q]
  intro z
  obtain⟨a',th',tx',ty',et',e',hm⟩:=z
  exact⟨a',th',tx',ty',et',by rw [getElem?_push,if_neg (by lia)];exact e',mem_append_left _ hm⟩
 ·by_cases q2:i=ds.length
  ·subst q2
   rw [getElem?_append_right (Nat.le_refl _),Nat.sub_self]
   exact⟨a,th,tx,ty,et,by rw [getElem?_push,if_pos hs.symm],mem_append_right _ (List.mem_singleton.mpr rfl)⟩
  ·rw [getElem?_append_right (by lia),List.getElem?_eq_none (by simp;lia)]
   show _=Option.none
   rw [getElem?_push,if_neg (by lia),Array.getElem?_eq_none (by lia)]
noncomputable def vU(x:Nat×Obj):Tok:=match x.2.data with
 |.seq ⟨.float _ t::_⟩ _=>t
 |_=>0
def dm(fz:List dh)(hi:Nat):Prop:=(fz.map vU).Pairwise (·<·)/\∀x∈fz,677<=vU x/\vU x<hi
theorem dm.nil{hi:Nat}:dm [] hi:=⟨List.Pairwise.nil,fun _ h=>nomatch h⟩
theorem dm.push{fz:List (Nat×Obj)}{hi hi' th a:Nat}{h:UInt64}{u v:Value}{et:Nat}(H:dm fz hi)(h0:677<=hi)(h1:hi<=th)(h2:th<hi'):dm (fz++[(a,a9 [.float h th,u,v] et)]) hi':=by
 refine⟨?_,?_⟩
 ·rw [map_append,List.pairwise_append]
  refine⟨H.1,pairwise_singleton ..,fun x hx y hy=>?_⟩
  obtain⟨z,hz,rfl⟩:=List.mem_map.mp hx
  have e:y=th:=by simpa [vU,a9] using hy
  rw [e]
  exact lt_of_lt_of_le (H.2 z hz).2 h1
 ·intro x hx
  rcases List.mem_append.mp hx with hx|hx
  ·exact⟨(H.2 x hx).1,Nat.lt_trans (H.2 x hx).2 (Nat.lt_of_le_of_lt h1 h2)⟩
  ·have e:x=(a,a9 [.float h th,u,v] et):=by simpa using hx
   subst e
   exact⟨Nat.le_trans h0 h1,h2⟩
theorem CT(W:WW)(vE:FE)(aF c1 c2 aL aI aC aG:Nat)(gs:Array Value)(epG:Nat)(fz:List dh)(ds:List cA)(hgs:aw gs fz ds)(hr:ranged ds):∀(rest:List cA) (k:Nat) (uF:Tok) (vF:Value) (pre:List cA) (as:Array Value) (ep:Nat) (fzT:List dh) (n0:Nat) (p0:Pos) (s:Shared),ds.drop k=rest->bq as fzT pre->dm fzT s.toks->as.size+rest.length<=1000->az (pW W) [(A aL,ah "dict" [aa (pW W) C1 uF vF] 1),(Y5 aI aG k),(Yk aG gs epG),(Yk aC as ep)] s->cH fz [(A aL,ah "dict" [aa (pW W) C1 uF vF] 1),(Y5 aI aG k),(Yk aG gs epG),(Yk aC as ep)] s->dc fzT [(A aL,ah "dict" [aa (pW W) C1 uF vF] 1),(Y5 aI aG k),(Yk aG gs epG),(Yk aC as ep)] n0 s->n0<=s.heap.objs.size->
  ∀Q:Prop,(∀s' uF' vF' k' ep' as' fzT',Runs (Yt W) ⟨ao (eB (pW W)) (bo (pW W) aF c1 c2) aL aI aC,none,none,(c6 vE),none⟩ p0 ((Yt W).den (ao (eB (pW W)) (bo (pW W) aF c1 c2) aL aI aC)) [] s fu s'->cN (pW W) s'->cI [(A aL,ah "dict" [aa (pW W) C1 uF' vF'] 1),(kc aI k'),(Yk aG gs epG),(Yk aC as' ep')] s'.heap->af [(A aL,ah "dict" [aa (pW W) C1 uF vF] 1),(Y5 aI aG k),(Yk aG gs epG),(Yk aC as ep)] s s'->bq as' fzT' (pre++rest)->(∃hi,dm fzT' hi)->dc fzT' [(A aL,ah "dict" [aa (pW W) C1 uF' vF'] 1),(kc aI k'),(Yk aG gs epG),(Yk aC as' ep')] n0 s'->Q)->Q:=by
 intro rest0
 induction rest0 with
 |nil=>
  intro k uF vF pre as ep fzT n0 p0 s hd hls hta hsz hP hf hst hn0 Q kQ
  apply Gy (W:=W) (hit:=hgs.none hd) (hE:=rfl) (hP:=hP) (p0:=p0) (kQ:=?k87) ..
  case' k87=>intro n tb s' _ _ r h1 h2 h3
  exact kQ s' uF vF k ep as fzT r h1 h2 h3 (by simpa using hls) ⟨_,hta⟩ (hst.keep h3 rfl)
 |cons q rest ih=>
  intro k uF vF pre as ep fzT n0 p0 s hd hls hta hsz hP hf hst hn0 Q kQ
  obtain⟨hk,hd'⟩:=bw hd
  obtain⟨aT,tx,ty,et,hit,hx⟩:=hgs.some hk
  have hP5:=hP.add hf hx (by show 245<=aT+245;lia)
  apply y0 (b7:=false) (W:=W) (hit:=hit) (hr:=hr q (mem_of_getElem? hk)) (hsz:=by simp at hsz;lia) (hE:=rfl) (hP:=hP5) (p0:=p0) (kQ:=?k89) ..
  case' k89=>intro n tb s1 y nt ep1 th _ htb hth zp88 h4 hF K hnew
  obtain⟨p',H⟩:=zp88
  have K4:=af.cut (E:=[(A aL,ah "dict" [aa (pW W) C1 uF vF] 1),(Y5 aI aG k),(Yk aG gs epG),(Yk aC as ep)]) (x:=(A aT,a9 [.int q.1 tx,.int q.2 ty] et)) K (hf _ hx).1 hF.2.2.2.2.1
  have hP1:az (pW W) [(A aL,ah "dict" [aa (pW W) J4 y (Yp aT)] 1),(vp aI aG k),(Yk aG gs epG),(A aC,ab (as.push (Yp nt)) ep1)] s1:=⟨h4,⟨hF.1,hF.2.1,hF.2.2.1,hF.2.2.2.1,trivial⟩,hP.nd,hP.lo⟩
  have hn1:s.heap.objs.size<=A nt:=hnew
  have ho:s1.heap.get? (A nt)=some (a9 [.float (bf q.1 q.2) th,.int q.1 tx,.int q.2 ty] 0):=hF.2.2.2.2.2.1
  refine ih (k+1) y _ (pre++[q]) _ ep1 (fzT++[(A nt,a9 [.float (bf q.1 q.2) th,.int q.1 tx,.int q.2 ty] 0)]) n0 p' s1 hd' hls.push (hta.push hP.rdy.toks (by rw [htb];exact hth.1) hth.2) (by simp at hsz⊢;lia) hP1 (hf.keep K4 rfl) ((hst.keep K4 rfl).add hP rfl ho hn1 hn0) (Nat.le_trans hn0 K4.size) _ fun s2 u2 v2 k2 ep2 as2 fz2 r h5 h6 h7 h8 h8t h9=>?_
  exact kQ s2 u2 v2 k2 ep2 as2 fz2 (H _ _ r) h5 h6 (K4.trans (h7.cast rfl)) (by simpa using h8) h8t h9
structure Cs where
 u:Tok
 v:Value
 k:Nat
 ep:Nat
 ls:Array Value
 fz:List (Nat×Obj)
noncomputable def sj(W:WW)(vE:FE)(aF c1 c2 aL aI aC aG:Nat)(gs:Array Value)(epG:Nat)(x:Cs):Result×List Obj×ae:=(m8,([(A aL,ah "dict" [aa (pW W) J4 x.u x.v] 1),(A aI,aK "list_iterator" [.none,.int (Int.ofNat x.k) 0]),(Yk aG gs epG),(A aC,ab x.ls x.ep)]:ae).map (·.2),[])
theorem cw.to{X:Type}{w':World}{Γ:Ctx}{C:Code}{E:ae}{fz:List (Nat×Obj)}{out:X->Result×List Obj×ae}{fo:X->ae}{cond:X->Prop}(h:cw w' (Γ.goto C) E fz out fo cond)
  (g:∀p s,az w'.params E s->∃s',cu (model pw w') Γ C p s s'/\az w'.params E s'/\af E s s'):cw w' Γ E fz out fo cond:=by
 intro p s hP hf
 refine gQ fun Q zQ=>?_
 obtain⟨s1,⟨p',H⟩,hP',K⟩:=g p s hP
 obtain⟨x,s2,r,rdy,K2,has,hasN,newN,ndN,cx,hfo⟩:=h p' s1 hP' (hf.keep K rfl)
 refine zQ ?_
 exact⟨x,s2,H _ _ r,rdy,K.trans K2,has,hasN,(fun y hy=>Nat.le_trans K.size (newN y hy)),ndN,cx,fun y hy=>⟨(hfo y hy).1,Nat.le_trans K.size (hfo y hy).2.1,(hfo y hy).2.2⟩⟩
abbrev Lf a:=aK "list_iterator" [fC a,.int (Int.ofNat (0+1)) 0]
theorem uu(W:WW)(vE:FE)(aF c1 c2 aL aI aC aG:Nat)(gs:Array Value)(epG:Nat)(fz:List dh)(ds:List cA)(hgs:aw gs fz ds)(hr:ranged ds)(hne:ds≠[])(hlen:ds.length<=900):
  cw (Vw W) ⟨ay (ao (eB (pW W)) (bo (pW W) aF c1 c2) aL aI aC),none,none,(c6 vE),none⟩ (Y9 aL aI aG gs epG aC) fz (sj W vE aF c1 c2 aL aI aC aG gs epG) (fun x=>x.fz) (fun x=>bq x.ls x.fz ds/\∃hi,dm x.fz hi):=
 cw.to (C:=ao (eB (pW W)) (bo (pW W) aF c1 c2) aL aI aC) (fun p0 s hP hf=>by
  obtain⟨q,rest,rfl⟩:∃q rest,ds=q::rest:=by cases ds with|nil=>exact(hne rfl).elim|cons q r=>exact⟨q,r,rfl⟩
  obtain⟨aT,tx,ty,et,hit,hx⟩:=hgs.some (k:=0) rfl
  have hP5:=hP.add hf hx (by show 245<=aT+245;lia)
  apply y0 (b7:=true) (W:=W) (hit:=hit) (hr:=hr q (mem_of_getElem? (i:=0) rfl)) (hsz:=zero_le _) (hE:=rfl) (hP:=hP5) (p0:=p0) (uF:=0) (vF:=.none) (kQ:=?k91) ..
  case' k91=>intro n tb s1 y nt ep1 th _ htb hth zp90 h4 hF K hnew
  obtain⟨p',H⟩:=zp90
  have K4:=af.cut (E:=(Y9 aL aI aG gs epG aC)) (x:=(A aT,a9 [.int q.1 tx,.int q.2 ty] et)) K (hf _ hx).1 hF.2.2.2.2.1
  have hP1:az (pW W) [(A aL,ah "dict" [aa (pW W) J4 y (Yp aT)] 1),(A aI,Lf aG),(Yk aG gs epG),(A aC,ab (GO nt) ep1)] s1:=⟨h4,⟨hF.1,hF.2.1,hF.2.2.1,hF.2.2.2.1,trivial⟩,hP.nd,hP.lo⟩
  have hn1:s.heap.objs.size<=A nt:=hnew
  have ho:s1.heap.get? (A nt)=some (a9 [.float (bf q.1 q.2) th,.int q.1 tx,.int q.2 ty] 0):=hF.2.2.2.2.2.1
  have hst0:dc [] (Y9 aL aI aG gs epG aC) s.heap.objs.size s:=fun y hy=>nomatch hy
  have hls0:bq (⟨[]⟩:Array Value) [] []:=fun i=>by simp
  refine CT W vE aF c1 c2 aL aI aC aG gs epG fz (q::rest) hgs hr rest 1 y _ ([]++[q]) _ ep1 ([]++[(A nt,a9 [.float (bf q.1 q.2) th,.int q.1 tx,.int q.2 ty] 0)]) s.heap.objs.size p' s1 rfl hls0.push ((dm.nil (hi:=s.toks)).push hP.rdy.toks (by rw [htb];exact hth.1) hth.2) (by simp at hlen⊢;lia) hP1 (hf.keep K4 rfl) ((hst0.keep K4 rfl).add hP rfl ho hn1 (Nat.le_refl _)) K4.size _ fun s2 u2 v2 k2 ep2 as2 fz2 r h5 h6 h7 h8 h8t h9=>?_
  exact⟨⟨u2,v2,k2,ep2,as2,fz2⟩,s2,H _ _ r,h5,K4.trans (h7.cast rfl),⟨h6.1,h6.2.1,h6.2.2.1,h6.2.2.2.1,trivial⟩,trivial,(fun y hy=>nomatch hy),nodup_nil,⟨by simpa using h8,h8t⟩,fun y hy=>⟨(h9 y hy).1,(h9 y hy).2.2,by simp [sj]⟩⟩) fun p s hP=>by
  apply Fj (W:=W) (p0:=p) (hE:=rfl) (hP:=hP) (kQ:=?k92) ..
  case' k92=>intro n tb s' _ _ H hP' K
  exact⟨s',H,hP',K⟩
noncomputable def jV{X Y:Type}(w':World)(pre:St->Y->Prop)(G:St->Ctx)(E:St->ae)(is:List Nat)(mm ro:Nat)(out:St->X->Result×List Obj×ae)(fo:X->ae)(cond:St->Y->X->Prop):bM:=fun Γ p c st K=>∃y,pre st y/\Γ=G st/\sY (E st) is mm ro (out st) fo (cond st y) st K
theorem fO{X Y:Type}{w':World}{pre:St->Y->Prop}{G:St->Ctx}{E:St->ae}{is:List Nat}{V:XV}{out:St->X->Result×List Obj×ae}{fo:X->ae}{cond:St->Y->X->Prop}(hk:V.kt=eG w'.params)(hc:∀st y,pre st y->∃fz,(∀x∈fz,x∈st.fz)/\cw w' (G st) (E st) fz (out st) fo (cond st y)):bX V (model pw w') (jV w' pre G E is V.mm V.ro out fo cond):=by
 intro h0 d os Γ p c st K s H hΓ R
 obtain⟨y,h1,h2,H⟩:=H
 subst hΓ
 obtain⟨fz,hm,hc⟩:=hc st y h1
 rw [<-h2] at hc
 exact ly hk (fun hP hf=>hc p s hP fun x hx=>hf x (mem_append_right _ (hm x hx))) H R
noncomputable def Ds(W:WW)(vE:FE)(aF c1 c2 iL iI iC iG mm ro:Nat):bM:=jV (X:=Cs) (Y:=List cA) (Vw W) (fun st ds=>aw (fx st iG) st.fz ds/\ranged ds/\ds≠[]/\ds.length<=900) (fun st=>⟨ay (ao (eB (pW W)) (bo (pW W) aF c1 c2) (ce st iL) (ce st iI) (ce st iC)),none,none,(c6 vE),none⟩) (I7 iL iI iG iC) [iL,iI,iG,iC] mm ro (fun st=>sj W vE aF c1 c2 (ce st iL) (ce st iI) (ce st iC) (ce st iG) (fx st iG) (fl st iG)) (fun x=>x.fz) (fun st ds x=>bq x.ls x.fz ds/\∃hi,dm x.fz hi)
theorem yB(W:WW)(vE:FE)(aF c1 c2:Nat){iL iI iC iG:Nat}{V:XV}(hk:V.kt=eG (pW W)):bX V (model pw (Vw W)) (Ds W vE aF c1 c2 iL iI iC iG V.mm V.ro):=
 fO hk fun st ds h=>⟨st.fz,fun _ h=>h,uu W vE aF c1 c2 _ _ _ _ _ _ st.fz ds h.1 h.2.1 h.2.2.1 h.2.2.2⟩
section
open PyProof.Rows
section
theorem rR{P:Params}{s:Shared}(R:cN P s):NoneBooked s.heap:=by
 obtain⟨o,ep,e,d⟩:∃o ep,(eG P).get 2=some o/\o.data=.dict #[] ep:=⟨_,_,rfl,rfl⟩
 exact⟨fun _=>none,⟨o, #[],ep,R.base 2 o e,d,(fun e he=>by simp at he),fun name=>rfl⟩,rfl⟩
section
variable{prog:Program}{w:World}{A:Around}{E:Value->Shared->Prop}{s:Shared}
theorem nK{a b:UInt64}{t u:Tok}{Q:Bool->Shared->Prop}(h0:(t==0||u==0)=false)(hb:NoneBooked s.heap)(h1:t=u->Q true s)(h2:a=b->∀b,Q b s)(h3:Q false s):wpAny (model prog w) A (isSame (.float a t) (.float b u)) Q E s:=by
 show wpAny _ A (isSame.created (a==b&& !Float64.isNaN a) t u) Q E s
 unfold isSame.created
 refine wpAny_ite ?_
 split
 ·rename_i h;rw [h0] at h;exact absurd h Bool.false_ne_true
 refine wpAny_ite ?_
 split
 ·rename_i h;exact wpAny_pure (h1 (eq_of_beq h))
 refine wpAny_ite ?_
 split
 ·exact wpAny_pure h3
 rename_i h
 have e:a=b:=by
  simp only [Bool.not_eq_true,Bool.not_eq_false',Bool.and_eq_true] at h
  exact eq_of_beq h.1
 refine wpAny_bind (wpAny_sharingNotTold_none hb ?_)
 first|rw [if_neg Bool.false_ne_true]|simp only [Bool.false_eq_true,if_false]
 refine wpAny_bind (wpAny_sharingNotTold_none hb ?_)
 first|rw [if_neg Bool.false_ne_true]|simp only [Bool.false_eq_true,if_false]
 exact wpAny_bind (wpAny_rule (wpAny_bind (wpAny_askSetting (wpAny_pure (h2 e _)))))
theorem oz{a b:UInt64}{t u:Tok}{Q:Bool->Shared->Prop}(h0:(t==0||u==0)=false)(hb:NoneBooked s.heap)(hc:t=u\/a=b->Float64.cmp a b=some .eq)(h:Q (Float64.cmp a b==some .eq) s):wpAny (model prog w) A (eqBool (.float a t) (.float b u)) Q E s:=by
 unfold eqBool
 show wpAny _ _ (if(Value.float a t==Value.float b u)=true then _ else _) Q E s
 have rest:wpAny (model prog w) A (truthOfDropped=<<richCompare .Eq (.float a t) (.float b u)) Q E s:=
  wpAny_bind (AutoFloatOps.eq_0 (wpAny_truthy_bool h))
 by_cases hab:(Value.float a t==Value.float b u)=true
 ·rw [if_pos hab]
  have e:a=b:=by have:=eq_of_beq hab;injection this
  have hq:=hc (.inr e)
  rw [hq] at h
  exact wpAny_bind (wpAny_rule (wpAny_pure h))
 ·rw [if_neg hab]
  show wpAny _ _ (isSame (.float a t) (.float b u)>>=fun r=>if r=true then _ else _) Q E s
  have yes:t=u\/a=b->Q true s:=fun q=>by have z:=hc q;rw [z] at h;exact h
  refine wpAny_bind (nK h0 hb (fun e=>?_) (fun e b=>?_) ?_)
  ·exact wpAny_pure (yes (.inl e))
  ·cases b
   ·exact rest
   ·exact wpAny_pure (yes (.inr e))
  ·exact rest
theorem pp{a b:UInt64}{t u:Tok}{Q:Bool->Shared->Prop}(h:Q (Float64.cmp a b==some .lt) s):wpAny (model prog w) A (oneLt' true (.float a t) (.float b u)) Q E s:=by
 rw [oneLt'_eq]
 simp only [if_true]
 refine wpAny_bind (wpAny_cRoomFor_byValue rfl ?_)
 refine wpAny_bind (wpAny_callSpecialIfBound?_slot (AutoFloatOps.typeIs_float s a t) F.slot_float_lt (call_gives F.slot_float_lt (AutoFloatOps.typeIs_float s a t) F.entry_float_lt (F.args_float_lt_2 _ _) (AutoFloatG5.float___lt___float_float_0 a t b u) ?_))
 exact wpAny_truthy_bool h
end
noncomputable def qN(d e:Int×Int):Bool:=if d.2*e.1=e.2*d.1 then(if d.1=e.1 then(if d.2=e.2 then false else decide (d.2<e.2)) else decide (d.1<e.1)) else decide (d.2*e.1<e.2*d.1)
theorem sF{a b:Int}:(a==b)=decide (a=b):=by
 by_cases h:a=b
 ·rw [decide_eq_true h,h];exact beq_self_eq_true b
 ·rw [decide_eq_false h];exact beq_eq_false_iff_ne.mpr h
section
variable{prog:Program}{w:World}{A:Around}{E:Value->Shared->Prop}{s:Shared}
theorem sR{a b:Int}{t u:Tok}{Q:Bool->Shared->Prop}(h:Q (decide (a<b)) s):wpAny (model prog w) A (oneLt' false (.int a t) (.int b u)) Q (fun _ _=>False) s:=by
 refine kat_one _ _ ?_
 exact wpAny_lt_int h
theorem Ew{d e:Int×Int}{x y:Addr}{tx ty ux uy vx vy:Tok}{ex ey:Nat}{Q:Bool->Shared->Prop}(hd:cW d)(he:cW e)(h0:(tx==0||ty==0)=false)(hb:NoneBooked s.heap)(ht:tx=ty->d.2*e.1=e.2*d.1)
  (hx:s.heap.get? x=some (a9 [.float (bf d.1 d.2) tx,.int d.1 ux,.int d.2 vx] ex)) (hy:s.heap.get? y=some (a9 [.float (bf e.1 e.2) ty,.int e.1 uy,.int e.2 vy] ey)) (h:Q (qN d e) s):
  wpAny (model prog w) A (keyLt' (tuples' true) (.ref x) (.ref y)) Q E s:=by
 refine kat_lt hx rfl hy rfl ?_
 show KatLex prog w A true _ Q [(GN d tx,GN e ty),(.int d.1 ux,.int e.1 uy),(.int d.2 vx,.int e.2 vy)] 0 s
 refine kat_cons (oz h0 hb (fun q=>?_) ?_)
 ·have z:d.2*e.1=e.2*d.1:=by
   rcases q with q|q
   ·exact ht q
   ·have c:=iQ hd he
    rw [<-q] at c
    have c2:=iQ hd hd
    rw [c2] at c
    have:decide (d.2*d.1=d.2*d.1)=true:=decide_eq_true rfl
    rw [this] at c
    exact of_decide_eq_true c.symm
  have c:=iQ hd he
  rw [decide_eq_true z] at c
  exact eq_of_beq c
 rw [iQ hd he]
 unfold qN at h
 refine kat_go (fun q=>?_) (fun q=>?_)
 ·rw [if_pos (of_decide_eq_true q)] at h
  refine kat_yes (kat_cons (wpAny_eqBool_int ?_))
  rw [sF]
  refine kat_go (fun q=>?_) (fun q=>?_)
  ·rw [if_pos (of_decide_eq_true q)] at h
   refine kat_yes (kat_cons (wpAny_eqBool_int ?_))
   rw [sF]
   refine kat_go (fun q=>?_) (fun q=>?_)
   ·rw [if_pos (of_decide_eq_true q)] at h
    exact kat_yes (kat_nil h)
   ·rw [if_neg (of_decide_eq_false q)] at h
    exact kat_no (sR h)
  ·rw [if_neg (of_decide_eq_false q)] at h
   exact kat_no (sR h)
 ·rw [if_neg (of_decide_eq_false q)] at h
  refine kat_no (pp ?_)
  rw [xu hd he]
  exact h
end
noncomputable def nH(d:Int×Int):Int:=60*d.2/d.1*10+d.1
theorem vt:(iV.all fun a=>iV.all fun b=>qN (a.1,a.2.1) (b.1,b.2.1)==decide (nH (a.1,a.2.1)<nH (b.1,b.2.1)))=true:=by decide+kernel
theorem m5{d e:Int×Int}(hd:cW d)(he:cW e):qN d e=decide (nH d<nH e):=by
 obtain⟨a,ha,a1,a2,_⟩:=ic hd
 obtain⟨b,hb,b1,b2,_⟩:=ic he
 have z:=beq_iff_eq.mp (List.all_eq_true.mp (List.all_eq_true.mp vt a ha) b hb)
 rw [a1,a2,b1,b2] at z;exact z
end
noncomputable def mn{α:Type}(n:Nat)(lt:Nat->Nat->Bool):KasT α->Option α
 |.ret a=>some a
 |.ask i j k=>if Nat.blt i n&&Nat.blt j n then mn n lt (k (lt i j)) else none
theorem sr{α:Type}{n:Nat}{lt:Nat->Nat->Bool}{cmp:Nat->Nat->(Bool->Shared->Prop)->Shared->Prop}{Q:α->Shared->Prop}{s:Shared}(hc:∀i j C,i<n->j<n->C (lt i j) s->cmp i j C s):∀(t:KasT α) (a:α),mn n lt t=some a->Q a s->t.kasWp cmp Q s
 |.ret b,a,e,h=>by
  have e:some b=some a:=e
  cases e;exact h
 |.ask i j k,a,e,h=>by
  unfold mn at e
  split at e
  ·rename_i q
   rw [Bool.and_eq_true] at q
   exact hc i j _ (Nat.blt_eq▸q.1) (Nat.blt_eq▸q.2) (sr hc (k (lt i j)) a e h)
  ·cases e
noncomputable def CE(r:Nat->Nat):List Nat->Bool
 |[]=>true
 |a::l=>l.all (fun b=>Nat.ble (r a) (r b))&&CE r l
noncomputable def ig(n:Nat)(r:Nat->Nat):Bool:=match mn n (fun i j=>Nat.blt (r i) (r j)) (kas_sort n) with
 |some p=>Nat.beq p.toList.length n&&(List.range n).all (fun i=>p.toList.any (Nat.beq i))&&CE r p.toList&&p.toList.all (fun i=>Nat.blt i n)
 |none=>false
noncomputable def qW(m:Nat):Nat->List (List Nat)
 |0=>[[]]
 |n+1=>(List.range m).flatMap fun x=>(qW m n).map (x::·)
theorem p9{m:Nat}:∀(l:List Nat),(∀x∈l,x<m)->l∈qW m l.length
 |[],_=>List.mem_singleton.mpr rfl
 |x::l,h=>List.mem_flatMap.mpr ⟨x,List.mem_range.mpr (h x (mem_cons_self ..)),List.mem_map.mpr ⟨l,p9 l fun y hy=>h y (mem_cons_of_mem _ hy),rfl⟩⟩
noncomputable def mg:List Nat->Nat->Nat
 |[],_=>0
 |a::_,0=>a
 |_::l,i+1=>mg l i
theorem sM:∀(l:List Nat) (i:Nat),mg l i=l.getD i 0
 |[],i=>by cases i<;>rfl
 |a::l,0=>rfl
 |a::l,i+1=>sM l i
theorem Lw:((qW 2 2).all fun l=>ig 2 (mg l))=true:=by decide+kernel
theorem Om:((qW 3 3).all fun l=>ig 3 (mg l))=true:=by decide+kernel
theorem MY:((qW 4 4).all fun l=>ig 4 (mg l))=true:=by decide+kernel
theorem L1:((qW 5 5).all fun l=>ig 5 (mg l))=true:=by decide+kernel
theorem lJ{α:Type}{n:Nat}{lt lt':Nat->Nat->Bool}(h:∀i j,i<n->j<n->lt i j=lt' i j):∀t:KasT α,mn n lt t=mn n lt' t
 |.ret a=>rfl
 |.ask i j k=>by
  unfold mn
  split
  ·rename_i q
   rw [Bool.and_eq_true] at q
   rw [h i j (Nat.blt_eq▸q.1) (Nat.blt_eq▸q.2)]
   exact lJ h _
  ·rfl
theorem kd:∀(m l:List Nat),m.Nodup->(∀x∈m,x∈l)->l.length=m.length->l.Perm m
 |[],l,_,_,h=>by rw [eq_nil_of_length_eq_zero h]
 |x::m,l,hn,hs,h=>by
  have hx:=hs x (mem_cons_self ..)
  have hn:=List.nodup_cons.mp hn
  refine(List.perm_cons_erase hx).trans ((kd m (l.erase x) hn.2 (fun y hy=>?_) ?_).cons x)
  ·exact(List.mem_erase_of_ne (fun e=>hn.1 (by rw [<-e];exact hy))).mpr (hs y (mem_cons_of_mem _ hy))
  ·rw [List.length_erase_of_mem hx,h];rfl
theorem kT{p q:Nat->Bool}:∀(l:List Nat),(∀x,p x=true->q x=true)->(∃x∈l,q x=true/\p x=false)->l.countP p<l.countP q
 |[],_,h=>by obtain⟨_,h,_⟩:=h;cases h
 |a::l,hpq,h=>by
  rw [List.countP_cons,List.countP_cons]
  have mono:l.countP p<=l.countP q:=List.countP_mono_left fun x _=>hpq x
  obtain⟨x,hx,h1,h2⟩:=h
  rcases List.mem_cons.mp hx with rfl|hx
  ·rw [h1,h2];simp;lia
  ·have ih:=kT l hpq ⟨x,hx,h1,h2⟩
   have:(if p a=true then 1 else 0)<=(if q a=true then 1 else 0):=by
    by_cases g:p a=true
    ·rw [if_pos g,if_pos (hpq a g)];exact Nat.le_refl _
    ·rw [if_neg g];exact zero_le _
   lia
noncomputable def dX(key:Nat->Int)(n i:Nat):Nat:=(List.range n).countP fun j=>decide (key j<key i)
theorem tU{key:Nat->Int}{n i j:Nat}(hi:i<n)(hj:j<n):Nat.blt (dX key n i) (dX key n j)=decide (key i<key j):=by
 by_cases h:key i<key j
 ·rw [decide_eq_true h,Nat.blt_eq]
  exact kT _ (fun x hx=>by have:=of_decide_eq_true hx;exact decide_eq_true (by lia)) ⟨i,List.mem_range.mpr hi,decide_eq_true h,decide_eq_false (by lia)⟩
 ·rw [decide_eq_false h]
  have:dX key n j<=dX key n i:=List.countP_mono_left fun x _ hx=>by have:=of_decide_eq_true hx;exact decide_eq_true (by lia)
  cases q:Nat.blt (dX key n i) (dX key n j)
  ·rfl
  ·have:=Nat.blt_eq▸q;have:=(Nat.blt_eq (x:=dX key n i) (y:=dX key n j)).mp q;lia
theorem ry{key:Nat->Int}{n i:Nat}(hi:i<n):dX key n i<n:=by
 have a:(List.range n).countP (fun j=>decide (key j<key i))<(List.range n).countP (fun _=>true):=kT _ (fun _ _=>rfl) ⟨i,List.mem_range.mpr hi,rfl,decide_eq_false (by lia)⟩
 rw [List.countP_true,length_range] at a
 exact a
theorem sP{r:Nat->Nat}:∀{l:List Nat},CE r l=true->l.Pairwise fun a b=>r a<=r b
 |[],_=>List.Pairwise.nil
 |a::l,h=>by
  unfold CE at h
  rw [Bool.and_eq_true] at h
  exact List.pairwise_cons.mpr ⟨fun b hb=>le_of_ble_eq_true (List.all_eq_true.mp h.1 b hb),sP h.2⟩
theorem jb{r:Nat->Nat}{n i:Nat}(h:i<n):mg ((List.range n).map r) i=r i:=by
 rw [sM]
 simp [h]
abbrev Hm a b:=(List.range a).map (dX b a)
theorem uc{n:Nat}(h2:2<=n)(h5:n<=5)(key:Nat->Int):∃p:Array Nat,mn n (fun i j=>decide (key i<key j)) (kas_sort n)=some p/\p.toList.Perm (List.range n)/\p.toList.Pairwise fun a b=>key a<=key b:=by
 have hl:(Hm n key).length=n:=by simp
 have hm:(List.range n).map (dX key n)∈qW n n:=by
  have:=p9 (m:=n) (Hm n key) fun x hx=>by
   obtain⟨i,hi,rfl⟩:=List.mem_map.mp hx
   exact ry (List.mem_range.mp hi)
  rw [hl] at this;exact this
 have hc:ig n (mg (Hm n key))=true:=by
  have cs:n=2\/n=3\/n=4\/n=5:=by lia
  rcases cs with rfl|rfl|rfl|rfl
  ·exact List.all_eq_true.mp Lw _ hm
  ·exact List.all_eq_true.mp Om _ hm
  ·exact List.all_eq_true.mp MY _ hm
  ·exact List.all_eq_true.mp L1 _ hm
 unfold ig at hc
 have ecc:mn n (fun i j=>Nat.blt (mg (Hm n key) i) (mg (Hm n key) j)) (kas_sort n)=mn n (fun i j=>decide (key i<key j)) (kas_sort n):=
  lJ (fun i j hi hj=>by rw [jb hi,jb hj];exact tU hi hj) _
 rw [ecc] at hc
 split at hc
 ·rename_i p hp
  simp only [Bool.and_eq_true] at hc
  obtain⟨⟨⟨c1,c2⟩,c3⟩,c4⟩:=hc
  have lt:∀x∈p.toList,x<n:=fun x hx=>by have:=List.all_eq_true.mp c4 x hx;exact(Nat.blt_eq).mp this
  refine⟨p,hp,kd _ _ List.nodup_range (fun x hx=>?_) (by rw [length_range];exact eq_of_beq_eq_true c1),?_⟩
  ·obtain⟨y,hy,e⟩:=List.any_eq_true.mp (List.all_eq_true.mp c2 x hx)
   rw [eq_of_beq_eq_true e];exact hy
  ·refine(List.Pairwise.and_mem.mp (sP c3)).imp fun{a b} h=>?_
   obtain⟨ha,hb,h⟩:=h
   rw [jb (lt a ha),jb (lt b hb)] at h
   have q:=tU (key:=key) (lt b hb) (lt a ha)
   rcases(by lia:key b<key a\/key a<=key b) with g|g
   ·rw [decide_eq_true g] at q
    have:=(Nat.blt_eq (x:=dX key n b) (y:=dX key n a)).mp q
    lia
   ·exact g
 ·cases hc
section
section
variable{prog:Program}{w:World}{A:Around}{E:Value->Shared->Prop}{s:Shared}
noncomputable abbrev JW(a:Array Nat)(b:List Value):=a.toList.map fun i=>b.getD i Value.none
theorem mr{a:Addr}{vs:List Value}{n:Nat}{P:PySem.Fin->Shared->Prop}{p:Array Nat}(ho:s.heap.get? a=some (seqObj "list" vs.toArray n))(h2:2<=vs.length)(h64:vs.length<64)(hp:p.size=vs.length)
  (hk:∀h',(∀b o,b≠a->s.heap.get? b=some o->h'.get? b=some o)->wpAny (model prog w) A (keyKind' vs.toArray) (fun κ s'=>(kas_sort vs.length).kasWp (kas_ask prog w A κ vs) (fun q s''=>q=p/\s''={s with heap:=h'}) s') (fun _ _=>False) {s with heap:=h'})
  (h:P (.done (.ret .none)) {s with heap:=sortedHeap s.heap a vs (List.toArray (JW p vs))}):
  wpAny (model prog w) A (Builtin.«list.sort» ⟨[.ref a],[]⟩) P E s:=by
 have ha:a<s.heap.objs.size:=Heap.lt_size ho
 obtain⟨e1,ho1⟩:∃e1,(s.heap.update a (Obj.mapSeq fun _=>(#[]:Array Value))).get? a=some (seqObj "list" #[] e1):=⟨_,get?_update_seq ho fun _=> #[]⟩
 have ho6:(((s.heap.update a (Obj.mapSeq fun _=>(#[]:Array Value))).push (seqObj "tuple" vs.toArray 0)).push (seqObj "list" #[] 0)).get? a=some (seqObj "list" #[] e1):=
  Heap.get?_push_of_some _ (Heap.get?_push_of_some _ ho1)
 have keep:∀b o,b≠a->s.heap.get? b=some o->(((s.heap.update a (Obj.mapSeq fun _=>(#[]:Array Value))).push (seqObj "tuple" vs.toArray 0)).push (seqObj "list" #[] 0)).get? b=some o:=fun b o hb e=>
  Heap.get?_push_of_some _ (Heap.get?_push_of_some _ ((Heap.get?_update_ne _ _ _ _ hb).trans e))
 have ask:=hk _ keep
 rw [list_sort_plain]
 refine wpAny_bind (listItems_at ho rfl ?_)
 refine wpAny_bind (listUpdate_at ho rfl ?_ (by rw [size_toArray,sizeLine_eq];lia) (zero_le _))
 refine wpAny_bind (seqEpoch_at ho1 rfl ?_)
 refine wpAny_bind (wpAny_newTuple ?_ (by show vs.length<=_;rw [sizeLine_eq];lia))
 refine wpAny_bind (wpAny_newList ?_ (zero_le _))
 refine wpAny_holding ?_
 show wpAny (model prog w) A _ P E {s with heap:=((s.heap.update a (Obj.mapSeq fun _=>(#[]:Array Value))).push (seqObj "tuple" vs.toArray 0)).push (seqObj "list" #[] 0)}
 dsimp only
 have hn2:¬vs.toArray.size<2:=by rw [size_toArray];lia
 rw [if_neg hn2,if_neg hn2]
 refine wpAny_bind (wpAny_mono ask (fun κ s0 hk=>?_) fun _ _ x=>x.elim)
 refine wpAny_bind (wpAny_mono (kat_run (Q:=fun st' s'=>arrOf st'=p.map (kas_item (vs.toArray.zip vs.toArray))/\failedOf st'=none/\s'={s with heap:=((s.heap.update a (Obj.mapSeq fun _=>(#[]:Array Value))).push (seqObj "tuple" vs.toArray 0)).push (seqObj "list" #[] 0)})
  rfl h2 h64 (fun p' st' s' a1 a2 a3 a4=>⟨by rw [<-a4.1];exact a2,a3,a4.2⟩) hk) ?_ fun _ _ e=>e)
 rintro⟨⟨⟩,st'⟩ s' ⟨har,hf,rfl⟩
 dsimp only
 have hout:=kat_snds rfl har
 have hsz:(List.toArray (JW p vs)).size=vs.length:=by rw [size_toArray,length_map,length_toList,hp]
 rw [hout]
 refine wpAny_bind (seqEpoch_at ho6 rfl ?_)
 refine wpAny_bind (listUpdate_at ho6 rfl ?_ (zero_le _) (Nat.le_trans (le_of_eq hsz) (by rw [sizeLine_eq];lia)))
 rw [hf]
 simp only [bne_self_eq_false,Bool.false_eq_true,if_false]
 exact wpAny_pure h
theorem rz{l:Addr}{vs:List Value}{Q:PySem.Fin->Shared->Prop}{p:Array Nat}(hl:s.heap.IsList l vs.toArray)(h2:2<=vs.length)(h64:vs.length<64)(hp:p.size=vs.length)
  (hk:∀h',(∀b o,s.heap.get? b=some o->h'.get? b=some o)->wpAny (model prog w) A.in1 (keyKind' vs.toArray) (fun κ s'=>(kas_sort vs.length).kasWp (kas_ask prog w A.in1 κ vs) (fun q s''=>q=p/\s''={s with heap:=h'}) s') (fun _ _=>False) {s with heap:=h'})
  (h:∀h' ep,(∀b o,s.heap.get? b=some o->h'.get? b=some o)->h'.get? (s.heap.objs.size+1)=some (seqObj "list" (List.toArray (JW p vs)) ep)->Q (.done (.ret (.ref (s.heap.objs.size+1)))) {s with heap:=h'}):
  wpAny (model prog w) A (Builtin.«sorted» ⟨[.ref l],[]⟩) Q E s:=by
 unfold Builtin.«sorted»
 refine wpAny_bind (m:=checkCount "sorted" 1 1 _) (wpAny_pure ?_)
 refine wpAny_bind (collect_list hl ?_ (by rw [sizeLine_eq];lia))
 refine wpAny_bind (wpAny_newList ?_ (by rw [sizeLine_eq];lia))
 have hsz:((s.heap.push (seqObj "list" #[] 0)).update s.heap.objs.size (Obj.mapSeq (·++vs.toArray))).objs.size=s.heap.objs.size+1:=by
  rw [Heap.size_update,size_push']
 have hoL:(((s.heap.push (seqObj "list" #[] 0)).update s.heap.objs.size (Obj.mapSeq (·++vs.toArray))).push (seqObj "list" vs.toArray 0)).get? (s.heap.objs.size+1)=some (seqObj "list" vs.toArray 0):=by
  rw [<-hsz];exact Heap.get?_push_size _ rfl
 have keep:∀b o,s.heap.get? b=some o->(((s.heap.push (seqObj "list" #[] 0)).update s.heap.objs.size (Obj.mapSeq (·++vs.toArray))).push (seqObj "list" vs.toArray 0)).get? b=some o:=fun b o q=>by
  have hlt:b<s.heap.objs.size:=Heap.lt_size q
  rw [Heap.get?_push_ne _ _ _ (by rw [hsz];exact ne_of_lt (Nat.lt_succ_of_lt hlt)),Heap.get?_update_ne _ _ _ _ (ne_of_lt hlt),Heap.get?_push_ne _ _ _ (ne_of_lt hlt)]
  exact q
 have ne:∀b o,s.heap.get? b=some o->b≠s.heap.objs.size+1:=fun b o q=>ne_of_lt (Nat.lt_succ_of_lt (Heap.lt_size q))
 show wpAny _ _ _ _ _ {s with heap:=((s.heap.push (seqObj "list" #[] 0)).update s.heap.objs.size (Obj.mapSeq (·++vs.toArray))).push (seqObj "list" vs.toArray 0)}
 rw [hsz]
 refine wpAny_bind (wpAny_holding (wpAny_call_entry slot_list_sort ⟨_,hoL,rfl⟩ entry_list_sort ?body (args_list_sort _)))
 case body=>
  refine mr (s:={s with heap:=((s.heap.push (seqObj "list" #[] 0)).update s.heap.objs.size (Obj.mapSeq (·++vs.toArray))).push (seqObj "list" vs.toArray 0)}) hoL h2 h64 hp (fun h' k=>hk h' fun b o q=>k b o (ne b o q) (keep b o q)) ⟨_,rfl,wpAny_pure ?_⟩
  have hoE:=get?_update_seq hoL fun _=>(#[]:Array Value)
  have ho6:=Heap.get?_push_of_some (seqObj "list" #[] 0) (Heap.get?_push_of_some (seqObj "tuple" vs.toArray 0) hoE)
  have hoF:=get?_update_seq ho6 fun _=>List.toArray (JW p vs)
  refine h _ _ (fun b o q=>?_) hoF
  unfold sortedHeap
  rw [Heap.get?_update_ne _ _ _ _ (ne b o q)]
  exact Heap.get?_push_of_some _ (Heap.get?_push_of_some _ ((Heap.get?_update_ne _ _ _ _ (ne b o q)).trans (keep b o q)))
end
end
theorem rT{fz:List (Nat×Obj)}{hi:Nat}(h:dm fz hi){x y:Nat×Obj}(hx:x∈fz)(hy:y∈fz)(e:vU x=vU y):x=y:=by
 obtain⟨i,hi'⟩:=List.mem_iff_getElem?.mp hx
 obtain⟨j,hj'⟩:=List.mem_iff_getElem?.mp hy
 obtain⟨hi1,hi2⟩:=List.getElem?_eq_some_iff.mp hi'
 obtain⟨hj1,hj2⟩:=List.getElem?_eq_some_iff.mp hj'
 have p:=List.pairwise_iff_getElem.mp h.1
 rcases(by lia:i<j\/i=j\/j<i) with q|q|q
 ·have:=p i j (by simpa using hi1) (by simpa using hj1) q
  rw [getElem_map,getElem_map,hi2,hj2,e] at this
  exact absurd this (Nat.lt_irrefl _)
 ·subst q;rw [<-hi2,<-hj2]
 ·have:=p j i (by simpa using hj1) (by simpa using hi1) q
  rw [getElem_map,getElem_map,hi2,hj2,e] at this
  exact absurd this (Nat.lt_irrefl _)
theorem bq.at{items:Array Value}{fz:List (Nat×Obj)}{ds:List (Int×Int)}(h:bq items fz ds){i:Nat}(hi:i<ds.length):∃a th tx ty et,items.toList.getD i .none=.ref (A a)/\items[i]? =some (.ref (A a))/\(A a,a9 [.float (bf (ds.getD i (0,0)).1 (ds.getD i (0,0)).2) th,.int (ds.getD i (0,0)).1 tx,.int (ds.getD i (0,0)).2 ty] et)∈fz:=by
 have z:=h i
 revert z
 rw [List.getElem?_eq_getElem hi]
 intro z
 refine gQ fun Q zQ=>?_
 obtain⟨a,th,tx,ty,et,e,m⟩:=z
 refine zQ ?_
 have e2:ds.getD i (0,0)=ds[i]:=by simp [hi]
 have e3:items.toList.getD i .none=.ref (A a):=by
  rw [getD_eq_getElem?_getD,show items.toList[i]? =items[i]? by simp,e];rfl
 exact⟨a,th,tx,ty,et,e3,e,by rw [e2];exact m⟩
theorem lI{h:Heap}:∀(vs:List Value),(∀v∈vs,∃a o xs n f t,v=.ref a/\h.get? a=some o/\o.cls=.type "tuple"/\o.data=.seq xs n/\xs[0]? =some (.float f t))->∃fs,KatTups h vs fs/\fs.length=vs.length/\∀v∈fs,∃f t,v=.float f t
 |[],_=>⟨[],trivial,rfl,fun _ h=>nomatch h⟩
 |v::vs,hv=>by
  obtain⟨fs,h1,h2,h3⟩:=lI vs fun x hx=>hv x (mem_cons_of_mem _ hx)
  obtain⟨a,o,xs,n,f,t,rfl,e1,e2,e3,e4⟩:=hv v (mem_cons_self ..)
  refine⟨.float f t::fs,KatTups.cons e1 e2 e3 e4 h1,by rw [length_cons,h2];rfl,fun x hx=>?_⟩
  rcases List.mem_cons.mp hx with rfl|hx
  ·exact⟨f,t,rfl⟩
  ·exact h3 x hx
theorem FF{items:Array Value}{v:Value}(h:v∈items.toList):∃i,i<items.size/\items.toList.getD i .none=v:=by
 obtain⟨i,hi,e⟩:=List.mem_iff_getElem.mp h
 exact⟨i,by simpa using hi,by rw [getD_eq_getElem?_getD,List.getElem?_eq_getElem hi,e];rfl⟩
theorem qV{α:Type}(l:List α)(d:α):(List.range l.length).map (fun i=>l.getD i d)=l:=by
 apply List.ext_getElem
 ·simp
 ·intro i h1 h2
  simp
  rw [List.getElem?_eq_getElem (by simpa using h2)];rfl
theorem oB{d e:Int×Int}(hd:cW d)(he:cW e)(h:nH d<=nH e):aY d e:=by
 have z:=m5 he hd
 rw [decide_eq_false (by omega)] at z
 unfold qN at z
 unfold aY
 split at z
 ·rename_i q;omega
 ·have:=of_decide_eq_false z;omega
structure sL where
 a:Nat
 ls:Array Value
 ep:Nat
 ds:List (Int×Int)
noncomputable def oK(items:Array Value)(ep:Nat)(x:sL):Result×List Obj×ae:=(.ok (.ret (.ref (A x.a))),[ab items ep],[(A x.a,ab x.ls x.ep)])
theorem oD(W:WW)(bl:List nW)(aL:Nat)(items:Array Value)(ep:Nat)(fz:List dh)(ds:List cA)(ht:bq items fz ds)(htk:∃hi,dm fz hi)(hr:cb ds)(h2:2<=ds.length)(h5:ds.length<=5):
  bY (Vw W) ⟨.builtin "sorted" (oX aL),none,none,bl,none⟩ [(Yk aL items ep)] fz (oK items ep) (fun x=>bq x.ls fz x.ds/\x.ds.Perm ds/\x.ds.Pairwise aY):=by
 intro p0 s hP hf
 refine gQ fun Q zQ=>?_
 obtain⟨hi,htk⟩:=htk
 have hsz:=ht.size
 have hvl:items.toList.length=ds.length:=by rw [length_toList];exact hsz
 have h10:∀i,i<ds.length->cW (ds.getD i (0,0)):=fun i hi=>hr _ (by rw [show ds.getD i (0,0)=ds[i] by simp [hi]];exact getElem_mem hi)
 obtain⟨p,hp,hperm,hpw⟩:=uc h2 h5 fun i=>nH (ds.getD i (0,0))
 have hps:p.size=items.toList.length:=by
  rw [<-length_toList,hperm.length_eq,length_range,hvl]
 have lt:∀x∈p.toList,x<ds.length:=fun x hx=>List.mem_range.mp (hperm.mem_iff.mp hx)
 have hsq:(("tuple":String)="tuple"):=rfl
 have hk:∀(A':Around) h',(∀b o,s.heap.get? b=some o->h'.get? b=some o)->wpAny (Yt W) A' (keyKind' items.toList.toArray) (fun κ s'=>(kas_sort items.toList.length).kasWp (kas_ask pw (Vw W) A' κ items.toList) (fun q s''=>q=p/\s''={s with heap:=h'}) s') (fun _ _=>False) {s with heap:=h'}:=by
  intro A' h' hkeep
  have hobj:∀{x:Nat×Obj},x∈fz->h'.get? x.1=some x.2:=fun{x} hx=>hkeep _ _ (hf x hx).1
  obtain⟨fs,k1,k2,k3⟩:=lI (h:=h') items.toList fun v hv=>by
   obtain⟨i,hi,e⟩:=FF hv
   obtain⟨a,th,tx,ty,et,e1,e2,m⟩:=ht.at (i:=i) (by lia)
   exact⟨A a,_,_,et,_,th,by rw [<-e,e1],hobj m,rfl,rfl,rfl⟩
  refine kat_kind (s:={s with heap:=h'}) k1 (by lia) (T:=.type "float") (fun v hv=>?_) (beq_self_eq_true _) ?_
  ·obtain⟨f,t,rfl⟩:=k3 v hv
   exact Looks.of_pure rfl
  ·rw [show((Value.type "float") !=Value.type "tuple")=true by decide]
   rw [hvl]
   refine sr (n:=ds.length) (lt:=fun i j=>decide (nH (ds.getD i (0,0))<nH (ds.getD j (0,0)))) (fun i j C hi' hj' hC=>?_) _ p hp ⟨rfl,rfl⟩
   unfold kas_ask
   obtain⟨a,th,tx,ty,et,e1,e2,m⟩:=ht.at hi'
   obtain⟨a',th',tx',ty',et',e1',e2',m'⟩:=ht.at hj'
   rw [e1,e1']
   refine Ew (h10 i hi') (h10 j hj') ?_ ?_ (fun q=>?_) (hobj m) (hobj m') ?_
   ·have z1:677<=th:=(htk.2 _ m).1
    have z2:677<=th':=(htk.2 _ m').1
    rw [Bool.or_eq_false_iff]
    exact⟨beq_eq_false_iff_ne.mpr fun q=>by rw [q] at z1;exact absurd z1 (by decide),beq_eq_false_iff_ne.mpr fun q=>by rw [q] at z2;exact absurd z2 (by decide)⟩
   ·obtain⟨mc,⟨o,es,e,n1,n2⟩,n3⟩:=rR hP.rdy
    exact⟨mc,⟨o,es,e,hkeep _ _ n1,n2⟩,n3⟩
   ·have z:=rT htk m m' q
    have z:=congrArg Prod.snd z
    injection z with z1 z2 z3 z4
    injection z3 with z5 z6
    injection z5 with z7
    injection z7 with z8 z9
    injection z9 with z10 z11
    injection z11 with z12 z13
    injection z10 with z14 z15
    injection z12 with z16 z17
    rw [z14,z16,Int.mul_comm]
   ·show C _ _
    rw [m5 (h10 i hi') (h10 j hj')];exact hC
 have key:codeAny (Yt W) {handled:=none,depth:=frameCount bl,units:=unitsOf bl} (.builtin "sorted" (oX aL))
   (fun r s'=>∃h' e,r=.ok (.ret (.ref (s.heap.objs.size+1)))/\s'={s with heap:=h'}/\(∀b o,s.heap.get? b=some o->h'.get? b=some o)/\h'.get? (s.heap.objs.size+1)=some (seqObj "list" (List.toArray (p.toList.map fun i=>items.toList.getD i Value.none)) e)) s:=by
  refine codeAny_builtin entry_sorted ?_
  refine rz (p:=p) (vs:=items.toList) ⟨_,hP.has.1,rfl,ep,?_⟩ (by lia) (by lia) hps (fun h' k=>hk _ h' k) fun h' e k1 k2=>⟨h',e,rfl,rfl,k1,k2⟩
  show Data.seq items ep=_
  rw [Array.toArray_toList]
 obtain⟨r,s2,R,h',e,rfl,rfl,k1,k2⟩:=key ⟨.builtin "sorted" (oX aL),none,none,bl,none⟩ p0 rfl ⟨rfl,Nat.le_refl _,(fun _ h=>nomatch h),(fun _ h=>nomatch h),Nat.le_refl _⟩
 obtain⟨n,hn⟩:=hP.size
 refine zQ ?_
 have hA:s.heap.objs.size+1=A (n+1):=by rw [hn]
 have hz:s.heap.objs.size+1<h'.objs.size:=Heap.lt_size k2
 rw [hA] at R k2
 refine⟨⟨n+1,_,e,p.toList.map fun i=>ds.getD i (0,0)⟩,{s with heap:=h'},R,⟨fun a o q=>k1 a o (hP.rdy.base a o q),hP.rdy.gens,?_,hP.rdy.toks⟩,⟨fun b o q _=>k1 b o q,rfl,rfl,?_⟩,⟨k1 _ _ hP.has.1,trivial⟩,⟨k2,trivial⟩,fun y hy=>?_,by simp [oK],?_,?_,?_⟩
 ·have:=hP.rdy.size
  show 245<=h'.objs.size
  lia
 ·show s.heap.objs.size<=h'.objs.size
  lia
 ·have:y=_:=List.mem_singleton.mp hy
  subst this
  show s.heap.objs.size<=A (n+1)
  lia
 ·intro k
  show match(p.toList.map fun i=>ds.getD i (0,0))[k]? with
   |some d=>_
   |none=>_
  rw [getElem?_map]
  cases q:p.toList[k]? with
  |none=>
   show(List.toArray (p.toList.map fun i=>items.toList.getD i Value.none))[k]? =none
   rw [getElem?_toArray,getElem?_map,q];rfl
  |some i=>
   obtain⟨a,th,tx,ty,et,e1,e2,m⟩:=ht.at (lt i (mem_of_getElem? q))
   refine⟨a,th,tx,ty,et,?_,m⟩
   rw [getElem?_toArray,getElem?_map,q]
   exact congrArg some e1
 ·refine(hperm.map _).trans ?_
  rw [qV]
 ·refine List.pairwise_map.mpr ((List.Pairwise.and_mem.mp hpw).imp fun{a b} h=>?_)
  exact oB (h10 a (lt a h.1)) (h10 b (lt b h.2.1)) h.2.2
end
noncomputable def xr(W:WW)(bl:List nW)(i mm ro:Nat):bM:=jV (X:=sL) (Y:=List cA×List dh) (Vw W) (fun st y=>bq (fx st i) y.2 y.1/\(∃hi,dm y.2 hi)/\cb y.1/\2<=y.1.length/\y.1.length<=5/\∀x∈y.2,x∈st.fz) (fun st=>⟨.builtin "sorted" ⟨[.ref (A (ce st i))],[]⟩,none,none,bl,none⟩) (fun st=>[(sW st i)]) [i] mm ro (fun st=>oK (fx st i) (fl st i)) (fun _=>[]) (fun st y x=>bq x.ls y.2 x.ds/\x.ds.Perm y.1/\x.ds.Pairwise aY)
theorem vf(W:WW)(bl:List (Code×Pos)){i:Nat}{V:XV}(hk:V.kt=eG (pW W)):bX V (model pw (Vw W)) (xr W bl i V.mm V.ro):=
 fO hk fun st y h=>⟨y.2,h.2.2.2.2.2,(oD W bl _ _ _ y.2 y.1 h.1 h.2.1 h.2.2.1 h.2.2.2.1 h.2.2.2.2.1).toD⟩
open PySem.AutoSeq1 in
theorem oj(l:Addr)(items:Array Value)(n:Nat)(b:Addr)(items2:Array Value)(n2:Nat)(hc0:(items.size !=items2.size)=true):
  Meets (Builtin.«list.__ne__» ⟨[.ref l,.ref b],[]⟩) (fun _ R s=>s.heap.get? l=some {cls:=.type "list",dict:=none,data:=.seq items n,slots:= #[]}/\s.heap.get? b=some {cls:=.type "list",dict:=none,data:=.seq items2 n2,slots:= #[]}/\R (.ok (.ret (Value.bool (CmpOp.NotEq==CmpOp.NotEq)))) {s with heap:=s.heap,toks:=s.toks}):=
 .of_wp fun prog w A R s h=>by obtain⟨hp,g,d,tk,os⟩:=s;obtain⟨hl,hb,h⟩:=h;have f3:=sub_list_list;wp_walk using wpAny_loadPart' hl,wpAny_loadPart' hb;exact⟨_,rfl,h⟩
noncomputable def oM(i j:Nat):bF:=fun Γ c st=>match st.T.get i,st.T.get j with
 |some ⟨cl,dd,.seq items n,sl⟩,some ⟨cl',dd',.seq items2 n2,sl'⟩=>
  (c=.builtin "list.__ne__" ⟨[.ref (bm st.L st.n i),.ref (bm st.L st.n j)],[]⟩/\(cl=.type "list"/\dd=none/\sl=⟨[]⟩)/\(cl'=.type "list"/\dd'=none/\sl'=⟨[]⟩)/\(items.size !=items2.size)=true,ret (.bool true))
 |_,_=>(False,unsupported "")
theorem mT{V:XV}{pr:Program}{w:World}{i j:Nat}:bE V (model pr w) (oM i j):=by
 intro h0 d os Γ c st s p r s' hc hΓ R H
 unfold oM at hc H
 split at hc
 ·rename_i cl dd items n sl cl' dd' items2 n2 sl' e1 e2
  obtain⟨rfl,⟨rfl,rfl,rfl⟩,⟨rfl,rfl,rfl⟩,hb⟩:=hc
  simp only [e1,e2] at H
  obtain⟨rfl,rfl⟩:=fV H
  rw [bg PySem.F.entry_list_ne]
  exact bv (oj _ items n _ items2 n2 hb) (by rw [hΓ];rfl) ⟨jh R e1,jh R e2,rfl,rfl⟩
 ·exact hc.elim
noncomputable abbrev nT:=[109,101,114,103,101,100]
noncomputable abbrev mQ:=[104,117,101]
abbrev GQ a b c d e f g h:=(((A a),⟨(.type "tuple"),none,(.seq ⟨[(oE b c),(.int (d) e),(.int (f) g)]⟩ h),⟨[]⟩⟩):Nat×Obj)
abbrev wD a b c d e f g h:=(A a,a9 [.float b c,.int d e,.int f g] h)
noncomputable abbrev De:=Str.mk ⟨mQ⟩
noncomputable abbrev Da:=Str.mk ⟨mf⟩
noncomputable abbrev DJ:=Str.mk ⟨wB⟩
section
variable(W:WW)(p0:Pos)(vE:FE)(aF c1 c2 aI aG aM aT aB k:Nat)(u1 u2 u3 u4 u5 u6 u7 u8 u9 u10 u11 u12 u13 u14 u15:Tok)(v1 v2 v3 v4 v5 v6 v7 v8 v9 v10 v11 v13 v14 v15:Value)(gs ms:Array Value)(epG epM et eb:Nat)(hh hl:UInt64)(th tl tx ty tcx tcy:Tok)(dx dy cx cy:Int)
include W p0 vE aF c1 c2 aI aG aM aT aB k u1 u2 u3 u4 u5 u6 u7 u8 u9 u10 u11 u12 u13 u14 u15 v1 v2 v3 v4 v5 v6 v7 v8 v9 v10 v11 v13 v14 v15 gs ms epG epM et eb hh hl th tl tx ty tcx tcy dx dy cx cy
theorem Eo(s:Shared)(hit:gs[(Yh k).toNat]? =some (Yp aT))(E:WW->ae)(hE:E=fun W=>[(A aF,ah "frame" [aa (pW W) Yy u1 v1,aa (pW W) g0 u2 v2,aa (pW W) g5 u3 v3,aa (pW W) eM u4 v4,aa (pW W) Yr u5 v5,aa (pW W) [105] u6 v6,aa (pW W) [113] u7 v7,aa (pW W) GR u8 v8,aa (pW W) lW u9 v9,aa (pW W) gF u10 v10,aa (pW W) Yq u11 v11,aa (pW W) nT u12 (Yp aM)] 12),(Y5 aI aG k),(Yk aG gs epG),(wy aM epM),(wD aT hh th dx tx dy ty et)])(hP:az (pW W) (E W) s){Q:Prop}(kQ:∀(n tb:Nat) (s':Shared) (y13 y14 y15:Tok) (nt ep:Nat) (tX tY:Tok),Hn s n->Ht s tb->br (Yt W) (⟨fA (pW W) aF c1 c2 aI,none,none,(c6 vE),none⟩) p0 s s'->cN (pW W) s'->cI ([(A aF,ah "frame" [aa (pW W) Yy u1 v1,aa (pW W) g0 u2 v2,aa (pW W) g5 u3 v3,aa (pW W) eM u4 v4,aa (pW W) Yr u5 v5,aa (pW W) [105] u6 v6,aa (pW W) [113] u7 v7,aa (pW W) qD u8 v8,aa (pW W) lW u9 v9,aa (pW W) gF u10 v10,aa (pW W) Yq u11 v11,aa (pW W) nT u12 (Yp aM),aa (pW W) mQ y13 (.float hh th),aa (pW W) mf y14 (b8 dx tx),aa (pW W) wB y15 (b8 dy ty)] 15),(vp aI aG k),(Yk aG gs epG),(A aM,ab ⟨[.ref (A nt)]⟩ ep),(wD aT hh th dx tx dy ty et),(A nt,a9 [.float hh th,.int dx tX,.int dy tY] 0)]) s'.heap->af (E W) s s'->s.heap.objs.size<=A nt->Q):Q:=by
 obtain⟨n,tb,gb,hn,ht,hg⟩:=hP.nt
 refine qB (fz:=[]) hE hP hn ht hg (fun E W Z hs=>cm (ei (Vw W) 5 [(bG 1 2 (Yp aT)),(cf 3)] [] [] []) 175 (⟨fA (pW W) aF c1 c2 aI,none,none,(c6 vE),none⟩) (p0) (aQ (fA (pW W) aF c1 c2 aI)) [] hs (cO E n tb gb) (sI [0,1,2,3,4,9] Z)) (fun E W Z hs=>ad (lE E) (A n) gb (sl hs 0 2) ((DP aI aG gs k aT)/\ad (lE E) (A n) gb (sl hs 3 64) (((Hg aM n 4)/\(Yi/\((G9).size.le 1000)))/\ad (lE E) (A n) gb (sl hs 68 1) (Z (.again (fA (pW W) aF c1 c2 aI)) (Y2 n 5) (Y8 tb 3) true (ax ([((A aF),⟨DA,none,(.dict ⟨[⟨(PyData.keyHash (pW W) zw),(.str zw u1),(v1)⟩,⟨(PyData.keyHash (pW W) zB),(.str zB u2),(v2)⟩,⟨(PyData.keyHash (pW W) zu),(.str zu u3),(v3)⟩,⟨(PyData.keyHash (pW W) qR),(.str qR u4),(v4)⟩,⟨(PyData.keyHash (pW W) zz),(.str zz u5),(v5)⟩,⟨(PyData.keyHash (pW W) (kz 105)),(.str (kz 105) u6),(v6)⟩,⟨(PyData.keyHash (pW W) (kz 113)),(.str (kz 113) u7),(v7)⟩,⟨(PyData.keyHash (pW W) C8),(.str C8 u8),(v8)⟩,⟨(PyData.keyHash (pW W) (Str.mk ⟨FK⟩)),(.str (Str.mk ⟨FK⟩) u9),(v9)⟩,⟨(PyData.keyHash (pW W) sC),(.str sC u10),(v10)⟩,⟨(PyData.keyHash (pW W) (Str.mk ⟨Yq⟩)),(.str F7 u11),(v11)⟩,⟨(PyData.keyHash (pW W) (Str.mk ⟨nT⟩)),(.str (Str.mk ⟨nT⟩) u12),(Yp aM)⟩,⟨(PyData.keyHash (pW W) De),(.str De (TK tb)),(oE hh th)⟩,⟨(PyData.keyHash (pW W) Da),(.str Da (Y8 tb 1)),(iU dx tx)⟩,⟨(PyData.keyHash (pW W) DJ),(.str DJ (Y8 tb 2)),(iU dy ty)⟩]⟩ 15),⟨[]⟩⟩),(Is aI aG k),(rQ aG gs epG),(A aM,(Obj.mapSeq (·.push (dY n 4)) (ab ⟨[]⟩ epM))),(GQ aT hh th dx tx dy ty et),((Y2 n 4),⟨(.type "tuple"),none,(.seq ⟨[(oE hh th),(iU dx tx),(iU dy ty)]⟩ 0),⟨[]⟩⟩)])) ([]))))) (fun _=>(gE [2,2,4000,2,2,2,40005,50006,5,60006,5,60006,5,60006,5,6,6,8,70001,4,9,4,4,9,4,9,4,9,4,9,1,40004,1,1,1,4,4001,4,3000])) (iY (by kernel_rfl)) rfl ⟨fun _=>bi,fun _=>bx,trivial⟩ trivial rfl rfl (fun x hx=>nomatch hx) fun hs=>?_
 refine rI ⟨rfl,rfl,hit⟩ ?_
 refine rI ⟨rfl,⟨rfl,rfl,rfl⟩,zero_le _⟩ ?_
 exact rF fun s' r _ h3 h4 h5 h6 h7=>kQ n tb s' _ _ _ (bK n 4) _ _ _ hn ht (am rfl r) h4 (ai h3) h5 (h7 _ (mem_cons_self ..))
abbrev J7(a b:Nat)(c:Array Value)(d e f:Nat):=(Rf (.builtin "list.__getitem__" ⟨[(Yp a),(.int (Int.negSucc 0) (Y8 b e))],[]⟩:Code))/\(bO (Int.negSucc 0)/\((((seqIndex? (-(Value.int 1 (Y8 b f),1).snd) c.size).bind fun j=>c[j]?):i8)=(some (Yp d))))
abbrev Px(a b:Nat)(c:Array Value):=(Rf (.builtin "list.__ne__" ⟨[(Yp a),(dY b 3)],[]⟩:Code))/\(Yi/\(Yi/\(((c.size !=(G9).size):(Bool))=(true))))
theorem Fp(m:Nat)(s:Shared)(hit:gs[(Yh k).toNat]? =some (Yp aT))(hne:(ms.size !=(G9).size)=true)(hlast:(seqIndex? (-1) ms.size).bind (fun j=>ms[j]?)=some (Yp aB))(heq:(Float64.cmp hl hh==some .eq)=true)(hm:seqIndex? (-1) ms.size=some m)(E:WW->ae)(hE:E=fun W=>[(A aF,ah "frame" [aa (pW W) wH u1 v1,aa (pW W) [103,105,118,101,110] u2 v2,aa (pW W) [100,114,97,119,110] u3 v3,aa (pW W) [98,97,115,101] u4 v4,aa (pW W) wC u5 v5,aa (pW W) [105] u6 v6,aa (pW W) [113] u7 v7,aa (pW W) [98,111,116,104] u8 v8,aa (pW W) [101,100,103,101,115] u9 v9,aa (pW W) [112,111,108,121] u10 v10,aa (pW W) wI u11 v11,aa (pW W) [109,101,114,103,101,100] u12 (.ref (A aM)),aa (pW W) [104,117,101] u13 v13,aa (pW W) wz u14 v14,aa (pW W) [117,112] u15 v15] 15),(Y5 aI aG k),(Yk aG gs epG),(Yk aM ms epM),(wD aT hh th dx tx dy ty et),(wD aB hl tl cx tcx cy tcy eb)])(hP:az (pW W) (E W) s){Q:Prop}(kQ:∀(n tb:Nat) (s':Shared) (y13 y14 y15:Tok) (nt ep:Nat) (tX tY:Tok),Hn s n->Ht s tb->br (Yt W) (⟨fA (pW W) aF c1 c2 aI,none,none,(c6 vE),none⟩) p0 s s'->cN (pW W) s'->cI ([(A aF,ah "frame" [aa (pW W) Yy u1 v1,aa (pW W) g0 u2 v2,aa (pW W) g5 u3 v3,aa (pW W) eM u4 v4,aa (pW W) Yr u5 v5,aa (pW W) [105] u6 v6,aa (pW W) [113] u7 v7,aa (pW W) qD u8 v8,aa (pW W) lW u9 v9,aa (pW W) gF u10 v10,aa (pW W) Yq u11 v11,aa (pW W) nT u12 (Yp aM),aa (pW W) mQ y13 (.float hh th),aa (pW W) mf y14 (b8 dx tx),aa (pW W) wB y15 (b8 dy ty)] 15),(vp aI aG k),(Yk aG gs epG),(A aM,ab (ms.setIfInBounds m (Yp nt)) ep),(wD aT hh th dx tx dy ty et),(wD aB hl tl cx tcx cy tcy eb),(A nt,a9 [.float hh th,.int (cx+dx) tX,.int (cy+dy) tY] 0)]) s'.heap->af (E W) s s'->s.heap.objs.size<=A nt->Q):Q:=by
 obtain⟨n,tb,gb,hn,ht,hg⟩:=hP.nt
 refine qB (fz:=[]) hE hP hn ht hg (fun E W Z hs=>cm (ei (Vw W) 6 [(bG 1 2 (Yp aT)),(oM 3 9),(hJ 3 5),pn,(hJ 3 5),(hJ 3 5),(nV 3 m)] [] [] []) 270 (⟨fA (pW W) aF c1 c2 aI,none,none,(c6 vE),none⟩) (p0) (aQ (fA (pW W) aF c1 c2 aI)) [] hs (cO E n tb gb) (sI [0,1,2,3,4,5,10] Z)) (fun E W Z hs=>ad (lE E) (A n) gb (sl hs 0 2) ((DP aI aG gs k aT)/\ad (lE E) (A n) gb (sl hs 3 48) ((Px aM n ms)/\ad (lE E) (A n) gb (sl hs 52 5) ((J7 aM tb ms aB 4 3)/\ad (lE E) (A n) gb (sl hs 58 6) ((av (J8 hl tl hh th) [] ww/\Yc)/\ad (lE E) (A n) gb (sl hs 65 6) ((J7 aM tb ms aB 7 6)/\ad (lE E) (A n) gb (sl hs 72 11) ((J7 aM tb ms aB 11 10)/\ad (lE E) (A n) gb (sl hs 84 10) (((Rf (.builtin "list.__setitem__" ⟨[(Yp aM),(.int Ib (Y8 tb 15)),(dY n 4)],[]⟩:Code))/\(bO Ib/\(((seqIndex? (-(Value.int 1 (Y8 tb 14),1).snd) ms.size):(Option Nat))=(some m))))/\ad (lE E) (A n) gb (sl hs 95 1) (Z (.again (fA (pW W) aF c1 c2 aI)) (Y2 n 5) (Y8 tb 16) true (ax ([((A aF),⟨DA,none,(.dict ⟨[⟨(PyData.keyHash (pW W) zw),(.str zw u1),(v1)⟩,⟨(PyData.keyHash (pW W) zB),(.str zB u2),(v2)⟩,⟨(PyData.keyHash (pW W) zu),(.str zu u3),(v3)⟩,⟨(PyData.keyHash (pW W) qR),(.str qR u4),(v4)⟩,⟨(PyData.keyHash (pW W) zz),(.str zz u5),(v5)⟩,⟨(PyData.keyHash (pW W) (kz 105)),(.str (kz 105) u6),(v6)⟩,⟨(PyData.keyHash (pW W) (kz 113)),(.str (kz 113) u7),(v7)⟩,⟨(PyData.keyHash (pW W) C8),(.str C8 u8),(v8)⟩,⟨(PyData.keyHash (pW W) (Str.mk ⟨FK⟩)),(.str (Str.mk ⟨FK⟩) u9),(v9)⟩,⟨(PyData.keyHash (pW W) sC),(.str sC u10),(v10)⟩,⟨(PyData.keyHash (pW W) (Str.mk ⟨Yq⟩)),(.str F7 u11),(v11)⟩,⟨(PyData.keyHash (pW W) (Str.mk ⟨nT⟩)),(.str (Str.mk ⟨nT⟩) u12),(Yp aM)⟩,⟨(PyData.keyHash (pW W) De),(.str De u13),(oE hh th)⟩,⟨(PyData.keyHash (pW W) Da),(.str Da u14),(iU dx tx)⟩,⟨(PyData.keyHash (pW W) DJ),(.str DJ u15),(iU dy ty)⟩]⟩ 15),⟨[]⟩⟩),(Is aI aG k),(rQ aG gs epG),(A aM,(Obj.mapSeq (·.setIfInBounds m (dY n 4)) (ab ms epM))),(GQ aT hh th dx tx dy ty et),(GQ aB hl tl cx tcx cy tcy eb),((Y2 n 4),⟨(.type "tuple"),none,(.seq ⟨[(oE hh th),(.int (cx+dx) (Y8 tb 9)),(.int (cy+dy) (Y8 tb 13))]⟩ 0),⟨[]⟩⟩)])) ([])))))))))) (fun _=>(gE [2,2,4000,2,2,2,40005,50007,5,60007,5,60007,5,60007,5,7,7,9,70001,4,10,4,4,4001,1,40004,4002,50006,1,4003,1,1,40004,4004,50006,1,1,40004,4005,50006,1,1,4,4,4,4006,4,3000])) (iY (by kernel_rfl)) rfl ⟨fun _=>bi,fun _=>mT,fun _=>eQ,fun _=>au,fun _=>eQ,fun _=>eQ,fun _=>kO,trivial⟩ trivial rfl rfl (fun x hx=>nomatch hx) fun hs=>?_
 refine rI ⟨rfl,rfl,hit⟩ ?_
 refine rI ⟨rfl,⟨rfl,rfl,rfl⟩,⟨rfl,rfl,rfl⟩,hne⟩ ?_
 refine rI ⟨rfl,rfl,hlast⟩ ?_
 refine rI ⟨ek heq,rfl⟩ ?_
 refine rI ⟨rfl,rfl,hlast⟩ ?_
 refine rI ⟨rfl,rfl,hlast⟩ ?_
 refine rI ⟨rfl,rfl,hm⟩ ?_
 exact rF fun s' r _ h3 h4 h5 h6 h7=>kQ n tb s' _ _ _ (bK n 4) _ _ _ hn ht (am rfl r) h4 (ai h3) h5 (h7 _ (mem_cons_self ..))
theorem Ge(s:Shared)(hit:gs[(Yh k).toNat]? =some (Yp aT))(hsz:ms.size<=1000)(hne:(ms.size !=(G9).size)=true)(hlast:(seqIndex? (-1) ms.size).bind (fun j=>ms[j]?)=some (Yp aB))(heq:(Float64.cmp hl hh==some .eq)=false)(E:WW->ae)(hE:E=fun W=>[(A aF,ah "frame" [aa (pW W) wH u1 v1,aa (pW W) [103,105,118,101,110] u2 v2,aa (pW W) [100,114,97,119,110] u3 v3,aa (pW W) [98,97,115,101] u4 v4,aa (pW W) wC u5 v5,aa (pW W) [105] u6 v6,aa (pW W) [113] u7 v7,aa (pW W) [98,111,116,104] u8 v8,aa (pW W) [101,100,103,101,115] u9 v9,aa (pW W) [112,111,108,121] u10 v10,aa (pW W) wI u11 v11,aa (pW W) [109,101,114,103,101,100] u12 (.ref (A aM)),aa (pW W) [104,117,101] u13 v13,aa (pW W) wz u14 v14,aa (pW W) [117,112] u15 v15] 15),(Y5 aI aG k),(Yk aG gs epG),(Yk aM ms epM),(wD aT hh th dx tx dy ty et),(wD aB hl tl cx tcx cy tcy eb)])(hP:az (pW W) (E W) s){Q:Prop}(kQ:∀(n tb:Nat) (s':Shared) (y13 y14 y15:Tok) (nt ep:Nat) (tX tY:Tok),Hn s n->Ht s tb->br (Yt W) (⟨fA (pW W) aF c1 c2 aI,none,none,(c6 vE),none⟩) p0 s s'->cN (pW W) s'->cI ([(A aF,ah "frame" [aa (pW W) Yy u1 v1,aa (pW W) g0 u2 v2,aa (pW W) g5 u3 v3,aa (pW W) eM u4 v4,aa (pW W) Yr u5 v5,aa (pW W) [105] u6 v6,aa (pW W) [113] u7 v7,aa (pW W) qD u8 v8,aa (pW W) lW u9 v9,aa (pW W) gF u10 v10,aa (pW W) Yq u11 v11,aa (pW W) nT u12 (Yp aM),aa (pW W) mQ y13 (.float hh th),aa (pW W) mf y14 (b8 dx tx),aa (pW W) wB y15 (b8 dy ty)] 15),(vp aI aG k),(Yk aG gs epG),(A aM,ab (ms.push (Yp nt)) ep),(wD aT hh th dx tx dy ty et),(wD aB hl tl cx tcx cy tcy eb),(A nt,a9 [.float hh th,.int dx tX,.int dy tY] 0)]) s'.heap->af (E W) s s'->s.heap.objs.size<=A nt->Q):Q:=by
 obtain⟨n,tb,gb,hn,ht,hg⟩:=hP.nt
 refine qB (fz:=[]) hE hP hn ht hg (fun E W Z hs=>cm (ei (Vw W) 6 [(bG 1 2 (Yp aT)),(oM 3 9),(hJ 3 5),mx,(cf 3)] [] [] []) 202 (⟨fA (pW W) aF c1 c2 aI,none,none,(c6 vE),none⟩) (p0) (aQ (fA (pW W) aF c1 c2 aI)) [] hs (cO E n tb gb) (sI [0,1,2,3,4,5,10] Z)) (fun E W Z hs=>ad (lE E) (A n) gb (sl hs 0 2) ((DP aI aG gs k aT)/\ad (lE E) (A n) gb (sl hs 3 48) ((Px aM n ms)/\ad (lE E) (A n) gb (sl hs 52 5) ((J7 aM tb ms aB 4 3)/\ad (lE E) (A n) gb (sl hs 58 6) ((av (J8 hl tl hh th) [] wu/\Yc)/\ad (lE E) (A n) gb (sl hs 65 9) (((Hg aM n 4)/\(rE ms))/\ad (lE E) (A n) gb (sl hs 75 1) (Z (.again (fA (pW W) aF c1 c2 aI)) (Y2 n 5) (Y8 tb 6) true (ax ([((A aF),⟨DA,none,(.dict ⟨[⟨(PyData.keyHash (pW W) zw),(.str zw u1),(v1)⟩,⟨(PyData.keyHash (pW W) zB),(.str zB u2),(v2)⟩,⟨(PyData.keyHash (pW W) zu),(.str zu u3),(v3)⟩,⟨(PyData.keyHash (pW W) qR),(.str qR u4),(v4)⟩,⟨(PyData.keyHash (pW W) zz),(.str zz u5),(v5)⟩,⟨(PyData.keyHash (pW W) (kz 105)),(.str (kz 105) u6),(v6)⟩,⟨(PyData.keyHash (pW W) (kz 113)),(.str (kz 113) u7),(v7)⟩,⟨(PyData.keyHash (pW W) C8),(.str C8 u8),(v8)⟩,⟨(PyData.keyHash (pW W) (Str.mk ⟨FK⟩)),(.str (Str.mk ⟨FK⟩) u9),(v9)⟩,⟨(PyData.keyHash (pW W) sC),(.str sC u10),(v10)⟩,⟨(PyData.keyHash (pW W) (Str.mk ⟨Yq⟩)),(.str F7 u11),(v11)⟩,⟨(PyData.keyHash (pW W) (Str.mk ⟨nT⟩)),(.str (Str.mk ⟨nT⟩) u12),(Yp aM)⟩,⟨(PyData.keyHash (pW W) De),(.str De u13),(oE hh th)⟩,⟨(PyData.keyHash (pW W) Da),(.str Da u14),(iU dx tx)⟩,⟨(PyData.keyHash (pW W) DJ),(.str DJ u15),(iU dy ty)⟩]⟩ 15),⟨[]⟩⟩),(Is aI aG k),(rQ aG gs epG),(A aM,(Obj.mapSeq (·.push (dY n 4)) (ab ms epM))),(GQ aT hh th dx tx dy ty et),(GQ aB hl tl cx tcx cy tcy eb),((Y2 n 4),⟨(.type "tuple"),none,(.seq ⟨[(oE hh th),(iU dx tx),(iU dy ty)]⟩ 0),⟨[]⟩⟩)])) ([])))))))) (fun _=>(gE [2,2,4000,2,2,2,40005,50007,5,60007,5,60007,5,60007,5,7,7,9,70001,4,10,4,4,4001,1,40004,4002,50006,1,4003,1,40004,1,1,1,4,4004,4,3000])) (iY (by kernel_rfl)) rfl ⟨fun _=>bi,fun _=>mT,fun _=>eQ,fun _=>au,fun _=>bx,trivial⟩ trivial rfl rfl (fun x hx=>nomatch hx) fun hs=>?_
 refine rI ⟨rfl,rfl,hit⟩ ?_
 refine rI ⟨rfl,⟨rfl,rfl,rfl⟩,⟨rfl,rfl,rfl⟩,hne⟩ ?_
 refine rI ⟨rfl,rfl,hlast⟩ ?_
 refine rI ⟨ek heq,rfl⟩ ?_
 refine rI ⟨rfl,⟨rfl,rfl,rfl⟩,hsz⟩ ?_
 exact rF fun s' r _ h3 h4 h5 h6 h7=>kQ n tb s' _ _ _ (bK n 4) _ _ _ hn ht (am rfl r) h4 (ai h3) h5 (h7 _ (mem_cons_self ..))
end
theorem Gs(W:WW)(p0:Pos)(vE:FE)(aF c1 c2 aI aG k:Nat)(gs:Array Value)(epG:Nat)(s:Shared)(hit:gs[(Yh k).toNat]? =none)(E:WW->ae)(hE:E=fun W=>[(Y5 aI aG k),(Yk aG gs epG)])(hP:az (pW W) (E W) s){Q:Prop}(kQ:∀(n tb:Nat) (s':Shared),Hn s n->Ht s tb->Runs (Yt W) (⟨fA (pW W) aF c1 c2 aI,none,none,(c6 vE),none⟩) p0 ((Yt W).den (fA (pW W) aF c1 c2 aI)) [] s fu s'->cN (pW W) s'->cI ([(kc aI k),(Yk aG gs epG)]) s'.heap->af (E W) s s'->Q):Q:=by
 obtain⟨n,tb,gb,hn,ht,hg⟩:=hP.nt
 refine bT hE hP hn ht hg (fun E W Z hs=>cm (vd W 2 0 1) 54 (⟨fA (pW W) aF c1 c2 aI,none,none,(c6 vE),none⟩) (p0) (aQ (fA (pW W) aF c1 c2 aI)) [] hs (cO E n tb gb) (kZ [0,1] Z)) (fun E W Z hs=>ad (lE E) (A n) gb (sl hs 0 2) ((vR aI aG gs k)/\ad (lE E) (A n) gb (sl hs 3 3) (Z oY (Y2 n 2) (Y8 tb 0) true (ax ([(kc aI k),(Yk aG gs epG)]))))) (fun _=>[1,1,4000,1,1,4]) (oW (by kernel_rfl)) rfl ⟨fun _=>cg,trivial⟩ trivial rfl fun hs=>?_
 refine rI ⟨rfl,rfl,hit⟩ ?_
 exact rF fun s' r _ h3 h4 h5=>kQ n tb s' hn ht (by rw [bI];exact r) h4 (ai h3) h5
noncomputable def bu(acc:List (Int×Int))(d:Int×Int):List (Int×Int):=match acc.getLast? with
 |none=>[d]
 |some c=>if c.2*d.1=d.2*c.1 then acc.dropLast++[(c.1+d.1,c.2+d.2)] else acc++[d]
theorem dj{acc:List (Int×Int)}{c d:Int×Int}:bu (acc++[c]) d=if c.2*d.1=d.2*c.1 then acc++[(c.1+d.1,c.2+d.2)] else(acc++[c])++[d]:=by
 unfold bu
 rw [List.getLast?_concat,List.dropLast_concat]
def cB(items:Array Value)(fz:List (Nat×Obj))(acc:List (Int×Int)):Prop:=∀i:Nat,match acc[i]? with
 |some c=>∃a th tx ty et e,items[i]? =some (.ref (A a))/\(A a,a9 [.float (bf e.1 e.2) th,.int c.1 tx,.int c.2 ty] et)∈fz/\cW e/\e.2*c.1=c.2*e.1
 |none=>items[i]? =none
theorem cB.size{items:Array Value}{fz}{ds:List (Int×Int)}(h:cB items fz ds):items.size=ds.length:=by
 have h1:items[ds.length]? =Option.none:=by
  have:=h ds.length
  rw [List.getElem?_eq_none (Nat.le_refl _)] at this;exact this
 have h2:items.size<=ds.length:=by
  rcases lt_or_ge ds.length items.size with q|q
  ·rw [Array.getElem?_eq_getElem q] at h1;cases h1
  ·exact q
 rcases lt_or_ge items.size ds.length with q|q
 ·have z:=h items.size
  rw [List.getElem?_eq_getElem q] at z
  obtain⟨a,th,tx,ty,et,e,q1,_⟩:=z
  rw [Array.getElem?_eq_none (Nat.le_refl _)] at q1;cases q1
 ·lia
theorem cB.at{items:Array Value}{fz}{acc:List (Int×Int)}(h:cB items fz acc){i:Nat}{c:Int×Int}(hi:acc[i]? =some c):∃a th tx ty et e,items[i]? =some (.ref (A a))/\(A a,a9 [.float (bf e.1 e.2) th,.int c.1 tx,.int c.2 ty] et)∈fz/\cW e/\e.2*c.1=c.2*e.1:=by
 have z:=h i
 rw [hi] at z;exact z
theorem cB.push{items:Array Value}{fz:List dh}{acc:List cA}{a th tx ty et}{d:Int×Int}(h:cB items fz acc)(h10:cW d):cB (items.push (Yp a)) (fz++[(A a,a9 [.float (bf d.1 d.2) th,.int d.1 tx,.int d.2 ty] et)]) (acc++[d]):=by
 intro i
 have hs:=h.size
 by_cases q:i<acc.length
 ·rw [getElem?_append_left q]
  obtain⟨a',th',tx',ty',et',e',hi,hm,r⟩:=h.at (List.getElem?_eq_getElem q)
  rw [List.getElem?_eq_getElem q]
  exact⟨a',th',tx',ty',et',e',by rw [getElem?_push,if_neg (by lia)];exact hi,mem_append_left _ hm,r⟩
 ·by_cases q2:i=acc.length
  ·subst q2
   rw [getElem?_append_right (Nat.le_refl _),Nat.sub_self]
   exact⟨a,th,tx,ty,et,d,by rw [getElem?_push,if_pos hs.symm],mem_append_right _ (List.mem_singleton.mpr rfl),h10,rfl⟩
  ·rw [getElem?_append_right (by lia),List.getElem?_eq_none (by simp;lia)]
   show _=Option.none
   rw [getElem?_push,if_neg (by lia),Array.getElem?_eq_none (by lia)]
theorem cB.setLast{items:Array Value}{fz:List dh}{acc:List cA}{a th tx ty et}{c c' d:Int×Int}(h:cB items fz (acc++[c]))(h10:cW d)(hd:d.2*c'.1=c'.2*d.1):cB (items.setIfInBounds acc.length (Yp a)) (fz++[(A a,a9 [.float (bf d.1 d.2) th,.int c'.1 tx,.int c'.2 ty] et)]) (acc++[c']):=by
 intro i
 have hs:=h.size
 rw [List.length_append,List.length_singleton] at hs
 by_cases q:i<acc.length
 ·rw [getElem?_append_left q]
  obtain⟨a',th',tx',ty',et',e',hi,hm,r⟩:=h.at (i:=i) (c:=acc[i]) (by rw [getElem?_append_left q];exact List.getElem?_eq_getElem q)
  rw [List.getElem?_eq_getElem q]
  exact⟨a',th',tx',ty',et',e',by rw [getElem?_setIfInBounds,if_neg (by lia)];exact hi,mem_append_left _ hm,r⟩
 ·by_cases q2:i=acc.length
  ·subst q2
   rw [getElem?_append_right (Nat.le_refl _),Nat.sub_self]
   exact⟨a,th,tx,ty,et,d,by rw [getElem?_setIfInBounds,if_pos rfl,if_pos (by lia)],mem_append_right _ (List.mem_singleton.mpr rfl),h10,hd⟩
  ·rw [getElem?_append_right (by lia),List.getElem?_eq_none (by simp;lia)]
   show _=Option.none
   rw [getElem?_setIfInBounds,if_neg (by lia),Array.getElem?_eq_none (by lia)]
theorem ji{c d e:Int×Int}(hc:0<c.1)(hd:0<d.1)(he:0<e.1)(h:e.2*c.1=c.2*e.1):(e.2*d.1=d.2*e.1)↔(c.2*d.1=d.2*c.1):=by
 have h1:aY e c:=by unfold aY;omega
 have h2:aY c e:=by unfold aY;omega
 refine⟨fun q=>?_,fun q=>?_⟩
 ·have q1:aY e d:=by unfold aY;omega
  have q2:aY d e:=by unfold aY;omega
  have a:=ct (b:=e) he hc hd h2 q1
  have b:=ct (b:=e) he hd hc q2 h1
  unfold aY at a b;omega
 ·have q1:aY c d:=by unfold aY;omega
  have q2:aY d c:=by unfold aY;omega
  have a:=ct (b:=c) hc he hd h1 q1
  have b:=ct (b:=c) hc hd he q2 h2
  unfold aY at a b;omega
theorem bq.some{items:Array Value}{fz}{ds:List (Int×Int)}(h:bq items fz ds){k:Nat}{d:Int×Int}(e:ds[k]? =some d):∃a th tx ty et,items[(Int.ofNat k).toNat]? =some (.ref (A a))/\(A a,a9 [.float (bf d.1 d.2) th,.int d.1 tx,.int d.2 ty] et)∈fz:=by
 have z:=h k
 rw [e] at z;exact z
theorem bq.none{items:Array Value}{fz}{ds:List (Int×Int)}(h:bq items fz ds){k:Nat}(e:ds.drop k=[]):items[(Int.ofNat k).toNat]? =none:=by
 have z:=h k
 rw [List.getElem?_eq_none (List.drop_eq_nil_iff.mp e)] at z
 exact z
theorem Bu{ms:Array Value}{n:Nat}{v:Value}(h:ms.size=n+1)(hv:ms[n]? =some v):seqIndex? (-1) ms.size=some n/\(seqIndex? (-1) ms.size).bind (fun j=>ms[j]?)=some v:=by
 have e:seqIndex? (-1) ms.size=some n:=by
  rw [h,seqIndex_neg (by lia) (by lia),show((-1:Int)+(n+1:Nat)).toNat=n by lia]
 exact⟨e,by rw [e];exact hv⟩
section
variable(W:WW)(vE:FE)(aF c1 c2 aI aG aM:Nat)(u1 u2 u3 u4 u5 u6 u7 u8 u9 u10 u11 u12:Tok)(v1 v2 v3 v4 v5 v6 v7 v8 v9 v10 v11:Value)(gs:Array Value)(epG:Nat)
include W vE aF c1 c2 aI aG aM u1 u2 u3 u4 u5 u6 u7 u8 u9 u10 u11 u12 v1 v2 v3 v4 v5 v6 v7 v8 v9 v10 v11 gs epG
theorem yw(fz:List dh)(ds:List cA)(hgs:bq gs fz ds)(h10:cb ds):∀(rest:List cA) (k:Nat) (u13 u14 u15:Tok) (v13 v14 v15:Value) (acc:List cA) (ms:Array Value) (ep:Nat) (fzM:List dh) (n0:Nat) (p0:Pos) (s:Shared),ds.drop k=rest->acc≠[]->(∀c∈acc,0<c.1)->cB ms fzM acc->ms.size+rest.length<=1000->az (pW W) [(A aF,ah "frame" [aa (pW W) wH u1 v1,aa (pW W) [103,105,118,101,110] u2 v2,aa (pW W) [100,114,97,119,110] u3 v3,aa (pW W) [98,97,115,101] u4 v4,aa (pW W) wC u5 v5,aa (pW W) [105] u6 v6,aa (pW W) [113] u7 v7,aa (pW W) [98,111,116,104] u8 v8,aa (pW W) [101,100,103,101,115] u9 v9,aa (pW W) [112,111,108,121] u10 v10,aa (pW W) wI u11 v11,aa (pW W) [109,101,114,103,101,100] u12 (.ref (A aM)),aa (pW W) [104,117,101] u13 v13,aa (pW W) wz u14 v14,aa (pW W) [117,112] u15 v15] 15),(Y5 aI aG k),(Yk aG gs epG),(Yk aM ms ep)] s->cH fz [(A aF,ah "frame" [aa (pW W) wH u1 v1,aa (pW W) [103,105,118,101,110] u2 v2,aa (pW W) [100,114,97,119,110] u3 v3,aa (pW W) [98,97,115,101] u4 v4,aa (pW W) wC u5 v5,aa (pW W) [105] u6 v6,aa (pW W) [113] u7 v7,aa (pW W) [98,111,116,104] u8 v8,aa (pW W) [101,100,103,101,115] u9 v9,aa (pW W) [112,111,108,121] u10 v10,aa (pW W) wI u11 v11,aa (pW W) [109,101,114,103,101,100] u12 (.ref (A aM)),aa (pW W) [104,117,101] u13 v13,aa (pW W) wz u14 v14,aa (pW W) [117,112] u15 v15] 15),(Y5 aI aG k),(Yk aG gs epG),(Yk aM ms ep)] s->dc fzM [(A aF,ah "frame" [aa (pW W) wH u1 v1,aa (pW W) [103,105,118,101,110] u2 v2,aa (pW W) [100,114,97,119,110] u3 v3,aa (pW W) [98,97,115,101] u4 v4,aa (pW W) wC u5 v5,aa (pW W) [105] u6 v6,aa (pW W) [113] u7 v7,aa (pW W) [98,111,116,104] u8 v8,aa (pW W) [101,100,103,101,115] u9 v9,aa (pW W) [112,111,108,121] u10 v10,aa (pW W) wI u11 v11,aa (pW W) [109,101,114,103,101,100] u12 (.ref (A aM)),aa (pW W) [104,117,101] u13 v13,aa (pW W) wz u14 v14,aa (pW W) [117,112] u15 v15] 15),(Y5 aI aG k),(Yk aG gs epG),(Yk aM ms ep)] n0 s->n0<=s.heap.objs.size->(∀x∈fz,x.1<n0)->
  ∀Q:Prop,(∀s' a13 a14 a15 w13 w14 w15 k' ms' ep' fzM',Runs (Yt W) ⟨fA (pW W) aF c1 c2 aI,none,none,(c6 vE),none⟩ p0 ((Yt W).den (fA (pW W) aF c1 c2 aI)) [] s fu s'->cN (pW W) s'->cI [(A aF,ah "frame" [aa (pW W) wH u1 v1,aa (pW W) [103,105,118,101,110] u2 v2,aa (pW W) [100,114,97,119,110] u3 v3,aa (pW W) [98,97,115,101] u4 v4,aa (pW W) wC u5 v5,aa (pW W) [105] u6 v6,aa (pW W) [113] u7 v7,aa (pW W) [98,111,116,104] u8 v8,aa (pW W) [101,100,103,101,115] u9 v9,aa (pW W) [112,111,108,121] u10 v10,aa (pW W) wI u11 v11,aa (pW W) [109,101,114,103,101,100] u12 (.ref (A aM)),aa (pW W) [104,117,101] a13 w13,aa (pW W) wz a14 w14,aa (pW W) [117,112] a15 w15] 15),(kc aI k'),(Yk aG gs epG),(Yk aM ms' ep')] s'.heap->af [(A aF,ah "frame" [aa (pW W) wH u1 v1,aa (pW W) [103,105,118,101,110] u2 v2,aa (pW W) [100,114,97,119,110] u3 v3,aa (pW W) [98,97,115,101] u4 v4,aa (pW W) wC u5 v5,aa (pW W) [105] u6 v6,aa (pW W) [113] u7 v7,aa (pW W) [98,111,116,104] u8 v8,aa (pW W) [101,100,103,101,115] u9 v9,aa (pW W) [112,111,108,121] u10 v10,aa (pW W) wI u11 v11,aa (pW W) [109,101,114,103,101,100] u12 (.ref (A aM)),aa (pW W) [104,117,101] u13 v13,aa (pW W) wz u14 v14,aa (pW W) [117,112] u15 v15] 15),(Y5 aI aG k),(Yk aG gs epG),(Yk aM ms ep)] s s'->cB ms' fzM' (rest.foldl bu acc)->(∀c∈rest.foldl bu acc,0<c.1)->dc fzM' [(A aF,ah "frame" [aa (pW W) wH u1 v1,aa (pW W) [103,105,118,101,110] u2 v2,aa (pW W) [100,114,97,119,110] u3 v3,aa (pW W) [98,97,115,101] u4 v4,aa (pW W) wC u5 v5,aa (pW W) [105] u6 v6,aa (pW W) [113] u7 v7,aa (pW W) [98,111,116,104] u8 v8,aa (pW W) [101,100,103,101,115] u9 v9,aa (pW W) [112,111,108,121] u10 v10,aa (pW W) wI u11 v11,aa (pW W) [109,101,114,103,101,100] u12 (.ref (A aM)),aa (pW W) [104,117,101] a13 w13,aa (pW W) wz a14 w14,aa (pW W) [117,112] a15 w15] 15),(kc aI k'),(Yk aG gs epG),(Yk aM ms' ep')] n0 s'->Q)->Q:=by
 intro rest0
 induction rest0 with
 |nil=>
  intro k u13 u14 u15 v13 v14 v15 acc ms ep fzM n0 p0 s hd hne hpos hmt hsz hP hf hst hn0 hlt Q kQ
  have hP2:=hP.sub (E':=[(Y5 aI aG k),(Yk aG gs epG)]) (.cons _ (.cons_cons _ (.cons_cons _ (.cons _ .slnil))))
  apply Gs (W:=W) (hit:=hgs.none hd) (hE:=rfl) (hP:=hP2) (p0:=p0) (kQ:=?k93) ..
  case' k93=>intro n tb s' _ _ r h1 h2 h3
  have K:af [(A aF,ah "frame" [aa (pW W) wH u1 v1,aa (pW W) [103,105,118,101,110] u2 v2,aa (pW W) [100,114,97,119,110] u3 v3,aa (pW W) [98,97,115,101] u4 v4,aa (pW W) wC u5 v5,aa (pW W) [105] u6 v6,aa (pW W) [113] u7 v7,aa (pW W) [98,111,116,104] u8 v8,aa (pW W) [101,100,103,101,115] u9 v9,aa (pW W) [112,111,108,121] u10 v10,aa (pW W) wI u11 v11,aa (pW W) [109,101,114,103,101,100] u12 (.ref (A aM)),aa (pW W) [104,117,101] u13 v13,aa (pW W) wz u14 v14,aa (pW W) [117,112] u15 v15] 15),(Y5 aI aG k),(Yk aG gs epG),(Yk aM ms ep)] s s':=h3.mono (by simp)
  have nd:=hP.nd
  simp only [map_cons,map_nil,List.nodup_cons,List.mem_cons,List.not_mem_nil,or_false,not_or] at nd
  have hF:s'.heap.get? (A aF)=_:=h3.keep _ _ hP.has.1 (by simp only [map_cons,map_nil,List.mem_cons,List.not_mem_nil,or_false,not_or];exact⟨nd.1.1,nd.1.2.1⟩)
  have hM:s'.heap.get? (A aM)=_:=h3.keep _ _ hP.has.2.2.2.1 (by simp only [map_cons,map_nil,List.mem_cons,List.not_mem_nil,or_false,not_or];exact⟨fun q=>nd.2.1.2 q.symm,fun q=>nd.2.2.1 q.symm⟩)
  exact kQ s' u13 u14 u15 v13 v14 v15 k ms ep fzM r h1 ⟨hF,h2.1,h2.2.1,hM,trivial⟩ K hmt hpos (hst.keep K rfl)
 |cons d rest ih=>
  intro k u13 u14 u15 v13 v14 v15 acc ms ep fzM n0 p0 s hd hne hpos hmt hsz hP hf hst hn0 hlt Q kQ
  obtain⟨hk,hd'⟩:=bw hd
  obtain⟨aT,th,tx,ty,et,hit,hx⟩:=hgs.some hk
  obtain⟨acc0,c,rfl⟩:∃acc0 c,acc=acc0++[c]:=⟨_,_,(List.dropLast_concat_getLast hne).symm⟩
  have hsize:=hmt.size
  rw [List.length_append,List.length_singleton] at hsize
  obtain⟨aB,tl,tcx,tcy,eb,e,hib,hxB,he10,hes⟩:=hmt.at (i:=acc0.length) (c:=c) (by rw [getElem?_append_right (Nat.le_refl _),Nat.sub_self];rfl)
  have hl:=Bu hsize hib
  have hc0:0<c.1:=hpos c (mem_append_right _ (List.mem_singleton.mpr rfl))
  have hd10:cW d:=h10 d (mem_of_getElem? hk)
  have hd0:0<d.1:=hd10.1
  have he0:0<e.1:=he10.1
  have hne:(ms.size !=(G9).size)=true:=by simp;intro q;rw [q] at hsize;simp at hsize
  have hTB:(A aT)≠A aB:=ne_of_lt (lt_of_lt_of_le (hlt _ hx) (hst _ hxB).2.2)
  have hP6:=hP.addL (fz:=[(A aT,a9 [.float (bf d.1 d.2) th,.int d.1 tx,.int d.2 ty] et),(A aB,a9 [.float (bf e.1 e.2) tl,.int c.1 tcx,.int c.2 tcy] eb)]) (T:=[(A aT,a9 [.float (bf d.1 d.2) th,.int d.1 tx,.int d.2 ty] et),(A aB,a9 [.float (bf e.1 e.2) tl,.int c.1 tcx,.int c.2 tcy] eb)]) (fun x hx'=>by
   rcases List.mem_cons.mp hx' with rfl|hx'
   ·exact hf _ hx
   ·rw [List.mem_singleton.mp hx'];exact⟨(hst _ hxB).1,(hst _ hxB).2.1⟩) (fun x h=>h) (fun x hx'=>by
   rcases List.mem_cons.mp hx' with rfl|hx'
   ·show 245<=aT+245;lia
   ·rw [List.mem_singleton.mp hx'];show 245<=aB+245;lia) (by simpa using hTB)
  have hcmp:=iQ he10 hd10
  by_cases hs2:c.2*d.1=d.2*c.1
  ·have hq:(Float64.cmp (bf e.1 e.2) (bf d.1 d.2)==some .eq)=true:=by rw [hcmp];exact decide_eq_true ((ji hc0 hd0 he0 hes).mpr hs2)
   apply Fp (W:=W) (hit:=hit) (hne:=hne) (hlast:=hl.2) (heq:=hq) (hm:=hl.1) (hE:=rfl) (hP:=hP6) (p0:=p0) (kQ:=?k95) ..
   case' k95=>intro n tb s1 y13 y14 y15 nt ep1 tX tY _ _ zp94 h4 hF K hnew
   obtain⟨p',H⟩:=zp94
   have K4:af [(A aF,ah "frame" [aa (pW W) wH u1 v1,aa (pW W) [103,105,118,101,110] u2 v2,aa (pW W) [100,114,97,119,110] u3 v3,aa (pW W) [98,97,115,101] u4 v4,aa (pW W) wC u5 v5,aa (pW W) [105] u6 v6,aa (pW W) [113] u7 v7,aa (pW W) [98,111,116,104] u8 v8,aa (pW W) [101,100,103,101,115] u9 v9,aa (pW W) [112,111,108,121] u10 v10,aa (pW W) wI u11 v11,aa (pW W) [109,101,114,103,101,100] u12 (.ref (A aM)),aa (pW W) [104,117,101] u13 v13,aa (pW W) wz u14 v14,aa (pW W) [117,112] u15 v15] 15),(Y5 aI aG k),(Yk aG gs epG),(Yk aM ms ep)] s s1:=af.cutL (T:=[(A aT,a9 [.float (bf d.1 d.2) th,.int d.1 tx,.int d.2 ty] et),(A aB,a9 [.float (bf e.1 e.2) tl,.int c.1 tcx,.int c.2 tcy] eb)]) K ⟨(hf _ hx).1,(hst _ hxB).1,trivial⟩ ⟨hF.2.2.2.2.1,hF.2.2.2.2.2.1,trivial⟩
   have hP1:az (pW W) [(A aF,ah "frame" [aa (pW W) Yy u1 v1,aa (pW W) g0 u2 v2,aa (pW W) g5 u3 v3,aa (pW W) eM u4 v4,aa (pW W) Yr u5 v5,aa (pW W) [105] u6 v6,aa (pW W) [113] u7 v7,aa (pW W) qD u8 v8,aa (pW W) lW u9 v9,aa (pW W) gF u10 v10,aa (pW W) Yq u11 v11,aa (pW W) nT u12 (Yp aM),aa (pW W) mQ y13 (.float (bf d.1 d.2) th),aa (pW W) mf y14 (.int d.1 tx),aa (pW W) wZ y15 (.int d.2 ty)] 15),(vp aI aG k),(Yk aG gs epG),(A aM,ab (ms.setIfInBounds acc0.length (Yp nt)) ep1)] s1:=⟨h4,⟨hF.1,hF.2.1,hF.2.2.1,hF.2.2.2.1,trivial⟩,hP.nd,hP.lo⟩
   have hn1:s.heap.objs.size<=A nt:=hnew
   have ho:s1.heap.get? (A nt)=some (a9 [.float (bf d.1 d.2) th,.int (c.1+d.1) tX,.int (c.2+d.2) tY] 0):=hF.2.2.2.2.2.2.1
   refine ih (k+1) y13 y14 y15 _ _ _ (acc0++[(c.1+d.1,c.2+d.2)]) (ms.setIfInBounds acc0.length (Yp nt)) ep1 (fzM++[(A nt,a9 [.float (bf d.1 d.2) th,.int (c.1+d.1) tX,.int (c.2+d.2) tY] 0)]) n0 p' s1 hd' (by simp) (fun x hx=>by rcases List.mem_append.mp hx with hx|hx;exact hpos x (mem_append_left _ hx);rw [List.mem_singleton.mp hx];show 0<c.1+d.1;lia) (hmt.setLast (c':=(c.1+d.1,c.2+d.2)) hd10 (by show d.2*(c.1+d.1)=(c.2+d.2)*d.1;rw [Int.mul_add,add_mul,hs2])) (by simp at hsz⊢;lia) hP1 (hf.keep K4 rfl) ((hst.keep K4 rfl).add hP rfl ho hn1 hn0) (Nat.le_trans hn0 K4.size) hlt _ fun s2 a13 a14 a15 w13 w14 w15 k2 ms2 ep2 fz2 r h5 h6 h7 h8 h9 h10'=>?_
   exact kQ s2 a13 a14 a15 w13 w14 w15 k2 ms2 ep2 fz2 (H _ _ r) h5 h6 (K4.trans (h7.cast rfl)) (by rw [foldl_cons,dj,if_pos hs2];exact h8) (by rw [foldl_cons,dj,if_pos hs2];exact h9) h10'
  ·have hq:(Float64.cmp (bf e.1 e.2) (bf d.1 d.2)==some .eq)=false:=by rw [hcmp];exact decide_eq_false fun q=>hs2 ((ji hc0 hd0 he0 hes).mp q)
   apply Ge (W:=W) (hit:=hit) (hne:=hne) (hlast:=hl.2) (heq:=hq) (hsz:=by simp at hsz;lia) (hE:=rfl) (hP:=hP6) (p0:=p0) (kQ:=?k97) ..
   case' k97=>intro n tb s1 y13 y14 y15 nt ep1 tX tY _ _ zp96 h4 hF K hnew
   obtain⟨p',H⟩:=zp96
   have K4:af [(A aF,ah "frame" [aa (pW W) wH u1 v1,aa (pW W) [103,105,118,101,110] u2 v2,aa (pW W) [100,114,97,119,110] u3 v3,aa (pW W) [98,97,115,101] u4 v4,aa (pW W) wC u5 v5,aa (pW W) [105] u6 v6,aa (pW W) [113] u7 v7,aa (pW W) [98,111,116,104] u8 v8,aa (pW W) [101,100,103,101,115] u9 v9,aa (pW W) [112,111,108,121] u10 v10,aa (pW W) wI u11 v11,aa (pW W) [109,101,114,103,101,100] u12 (.ref (A aM)),aa (pW W) [104,117,101] u13 v13,aa (pW W) wz u14 v14,aa (pW W) [117,112] u15 v15] 15),(Y5 aI aG k),(Yk aG gs epG),(Yk aM ms ep)] s s1:=af.cutL (T:=[(A aT,a9 [.float (bf d.1 d.2) th,.int d.1 tx,.int d.2 ty] et),(A aB,a9 [.float (bf e.1 e.2) tl,.int c.1 tcx,.int c.2 tcy] eb)]) K ⟨(hf _ hx).1,(hst _ hxB).1,trivial⟩ ⟨hF.2.2.2.2.1,hF.2.2.2.2.2.1,trivial⟩
   have hP1:az (pW W) [(A aF,ah "frame" [aa (pW W) Yy u1 v1,aa (pW W) g0 u2 v2,aa (pW W) g5 u3 v3,aa (pW W) eM u4 v4,aa (pW W) Yr u5 v5,aa (pW W) [105] u6 v6,aa (pW W) [113] u7 v7,aa (pW W) qD u8 v8,aa (pW W) lW u9 v9,aa (pW W) gF u10 v10,aa (pW W) Yq u11 v11,aa (pW W) nT u12 (Yp aM),aa (pW W) mQ y13 (.float (bf d.1 d.2) th),aa (pW W) mf y14 (.int d.1 tx),aa (pW W) wZ y15 (.int d.2 ty)] 15),(vp aI aG k),(Yk aG gs epG),(A aM,ab (ms.push (Yp nt)) ep1)] s1:=⟨h4,⟨hF.1,hF.2.1,hF.2.2.1,hF.2.2.2.1,trivial⟩,hP.nd,hP.lo⟩
   have hn1:s.heap.objs.size<=A nt:=hnew
   have ho:s1.heap.get? (A nt)=some (a9 [.float (bf d.1 d.2) th,.int d.1 tX,.int d.2 tY] 0):=hF.2.2.2.2.2.2.1
   refine ih (k+1) y13 y14 y15 _ _ _ ((acc0++[c])++[d]) (ms.push (Yp nt)) ep1 (fzM++[(A nt,a9 [.float (bf d.1 d.2) th,.int d.1 tX,.int d.2 tY] 0)]) n0 p' s1 hd' (by simp) (fun x hx=>by rcases List.mem_append.mp hx with hx|hx;exact hpos x hx;rw [List.mem_singleton.mp hx];exact hd0) (hmt.push hd10) (by simp at hsz⊢;lia) hP1 (hf.keep K4 rfl) ((hst.keep K4 rfl).add hP rfl ho hn1 hn0) (Nat.le_trans hn0 K4.size) hlt _ fun s2 a13 a14 a15 w13 w14 w15 k2 ms2 ep2 fz2 r h5 h6 h7 h8 h9 h10'=>?_
   exact kQ s2 a13 a14 a15 w13 w14 w15 k2 ms2 ep2 fz2 (H _ _ r) h5 h6 (K4.trans (h7.cast rfl)) (by rw [foldl_cons,dj,if_neg hs2];exact h8) (by rw [foldl_cons,dj,if_neg hs2];exact h9) h10'
structure xz where
 y13:Tok
 y14:Tok
 y15:Tok
 w13:Value
 w14:Value
 w15:Value
 k:Nat
 ep:Nat
 ls:Array Value
 fz:List (Nat×Obj)
noncomputable def nw(P:Params)(aF aI aG aM:Nat)(u1 u2 u3 u4 u5 u6 u7 u8 u9 u10 u11 u12:Tok)(v1 v2 v3 v4 v5 v6 v7 v8 v9 v10 v11:Value)(gs:Array Value)(epG:Nat)(x:xz):Result×List Obj×ae:=(m8,([(A aF,ah "frame" [aa P Yy u1 v1,aa P g0 u2 v2,aa P g5 u3 v3,aa P eM u4 v4,aa P Yr u5 v5,aa P [105] u6 v6,aa P [113] u7 v7,aa P qD u8 v8,aa P lW u9 v9,aa P gF u10 v10,aa P Yq u11 v11,aa P nT u12 (Yp aM),aa P mQ x.y13 x.w13,aa P mf x.y14 x.w14,aa P wB x.y15 x.w15] 15),(A aI,aK "list_iterator" [.none,.int (Int.ofNat x.k) 0]),(Yk aG gs epG),(A aM,ab x.ls x.ep)]:ae).map (·.2),[])
noncomputable def yF(P:Params)(aF aI aG aM:Nat)(u1 u2 u3 u4 u5 u6 u7 u8 u9 u10 u11 u12:Tok)(v1 v2 v3 v4 v5 v6 v7 v8 v9 v10 v11:Value)(gs:Array Value)(epG epM:Nat):ae:=[(A aF,ah "frame" [aa P Yy u1 v1,aa P g0 u2 v2,aa P g5 u3 v3,aa P eM u4 v4,aa P Yr u5 v5,aa P [105] u6 v6,aa P [113] u7 v7,aa P qD u8 v8,aa P lW u9 v9,aa P gF u10 v10,aa P Yq u11 v11,aa P nT u12 (Yp aM)] 12),(A aI,Yf aG),(Yk aG gs epG),(wy aM epM)]
theorem rm(epM:Nat)(fz:List dh)(ds:List cA)(hgs:bq gs fz ds)(h10:cb ds)(hne:ds≠[])(hlen:ds.length<=900):
  cw (Vw W) ⟨fA (pW W) aF c1 c2 aI,none,none,(c6 vE),none⟩ (yF (pW W) aF aI aG aM u1 u2 u3 u4 u5 u6 u7 u8 u9 u10 u11 u12 v1 v2 v3 v4 v5 v6 v7 v8 v9 v10 v11 gs epG epM) fz (nw (pW W) aF aI aG aM u1 u2 u3 u4 u5 u6 u7 u8 u9 u10 u11 u12 v1 v2 v3 v4 v5 v6 v7 v8 v9 v10 v11 gs epG) (fun x=>x.fz) (fun x=>cB x.ls x.fz (ds.foldl bu [])):=by
 intro p0 s hP hf
 refine gQ fun Q zQ=>?_
 obtain⟨d,rest,rfl⟩:∃d rest,ds=d::rest:=by cases ds with|nil=>exact(hne rfl).elim|cons q r=>exact⟨q,r,rfl⟩
 have hP:az (pW W) [(A aF,ah "frame" [aa (pW W) Yy u1 v1,aa (pW W) g0 u2 v2,aa (pW W) g5 u3 v3,aa (pW W) eM u4 v4,aa (pW W) Yr u5 v5,aa (pW W) [105] u6 v6,aa (pW W) [113] u7 v7,aa (pW W) GR u8 v8,aa (pW W) lW u9 v9,aa (pW W) gF u10 v10,aa (pW W) Yq u11 v11,aa (pW W) nT u12 (Yp aM)] 12),(A aI,Yf aG),(Yk aG gs epG),(wy aM epM)] s:=hP
 have hf:cH fz [(A aF,ah "frame" [aa (pW W) Yy u1 v1,aa (pW W) g0 u2 v2,aa (pW W) g5 u3 v3,aa (pW W) eM u4 v4,aa (pW W) Yr u5 v5,aa (pW W) [105] u6 v6,aa (pW W) [113] u7 v7,aa (pW W) GR u8 v8,aa (pW W) lW u9 v9,aa (pW W) gF u10 v10,aa (pW W) Yq u11 v11,aa (pW W) nT u12 (Yp aM)] 12),(A aI,Yf aG),(Yk aG gs epG),(wy aM epM)] s:=hf
 obtain⟨aT,th,tx,ty,et,hit,hx⟩:=hgs.some (k:=0) rfl
 refine zQ ?_
 have hd10:cW d:=h10 d (mem_cons_self ..)
 have hP5:=hP.add hf hx (by show 245<=aT+245;lia)
 apply Eo (W:=W) (hit:=hit) (hE:=rfl) (hP:=hP5) (p0:=p0) (aB:=0) (u13:=0) (u14:=0) (u15:=0) (v13:=.none) (v14:=.none) (v15:=.none) (ms:=⟨[]⟩) (eb:=0) (hl:=0) (tl:=0) (tcx:=0) (tcy:=0) (cx:=0) (cy:=0) (kQ:=?k99) ..
 case' k99=>intro n tb s1 y13 y14 y15 nt ep1 tX tY _ _ zp98 h4 hF K hnew
 obtain⟨p',H⟩:=zp98
 have K4:af [(A aF,ah "frame" [aa (pW W) Yy u1 v1,aa (pW W) g0 u2 v2,aa (pW W) g5 u3 v3,aa (pW W) eM u4 v4,aa (pW W) Yr u5 v5,aa (pW W) [105] u6 v6,aa (pW W) [113] u7 v7,aa (pW W) GR u8 v8,aa (pW W) lW u9 v9,aa (pW W) gF u10 v10,aa (pW W) Yq u11 v11,aa (pW W) nT u12 (Yp aM)] 12),(A aI,Yf aG),(Yk aG gs epG),(wy aM epM)] s s1:=af.cut (x:=(A aT,a9 [.float (bf d.1 d.2) th,.int d.1 tx,.int d.2 ty] et)) K (hf _ hx).1 hF.2.2.2.2.1
 have hP1:az (pW W) [(A aF,ah "frame" [aa (pW W) Yy u1 v1,aa (pW W) g0 u2 v2,aa (pW W) g5 u3 v3,aa (pW W) eM u4 v4,aa (pW W) Yr u5 v5,aa (pW W) [105] u6 v6,aa (pW W) [113] u7 v7,aa (pW W) qD u8 v8,aa (pW W) lW u9 v9,aa (pW W) gF u10 v10,aa (pW W) Yq u11 v11,aa (pW W) nT u12 (Yp aM),aa (pW W) mQ y13 (.float (bf d.1 d.2) th),aa (pW W) mf y14 (.int d.1 tx),aa (pW W) wZ y15 (.int d.2 ty)] 15),(A aI,Lf aG),(Yk aG gs epG),(A aM,ab (GO nt) ep1)] s1:=⟨h4,⟨hF.1,hF.2.1,hF.2.2.1,hF.2.2.2.1,trivial⟩,hP.nd,hP.lo⟩
 have hn1:s.heap.objs.size<=A nt:=hnew
 have ho:s1.heap.get? (A nt)=some (a9 [.float (bf d.1 d.2) th,.int d.1 tX,.int d.2 tY] 0):=hF.2.2.2.2.2.1
 have hst0:dc [] [(A aF,ah "frame" [aa (pW W) Yy u1 v1,aa (pW W) g0 u2 v2,aa (pW W) g5 u3 v3,aa (pW W) eM u4 v4,aa (pW W) Yr u5 v5,aa (pW W) [105] u6 v6,aa (pW W) [113] u7 v7,aa (pW W) GR u8 v8,aa (pW W) lW u9 v9,aa (pW W) gF u10 v10,aa (pW W) Yq u11 v11,aa (pW W) nT u12 (Yp aM)] 12),(A aI,Yf aG),(Yk aG gs epG),(wy aM epM)] s.heap.objs.size s:=fun y hy=>nomatch hy
 have hm0:cB (⟨[]⟩:Array Value) [] []:=fun i=>by simp
 refine yw W vE aF c1 c2 aI aG aM u1 u2 u3 u4 u5 u6 u7 u8 u9 u10 u11 u12 v1 v2 v3 v4 v5 v6 v7 v8 v9 v10 v11 gs epG fz (d::rest) hgs h10 rest 1 y13 y14 y15 _ _ _ ([]++[d]) (GO nt) ep1 ([]++[(A nt,a9 [.float (bf d.1 d.2) th,.int d.1 tX,.int d.2 tY] 0)]) s.heap.objs.size p' s1 rfl (by simp) (fun x hx=>by rw [List.mem_singleton.mp hx];exact hd10.1) (hm0.push hd10) (by simp at hlen⊢;lia) hP1 (hf.keep K4 rfl) ((hst0.keep K4 rfl).add hP rfl ho hn1 (Nat.le_refl _)) K4.size (fun x hx=>Heap.lt_size (hf x hx).1) _ fun s2 a13 a14 a15 w13 w14 w15 k2 ms2 ep2 fz2 r h5 h6 h7 h8 h9 h10'=>?_
 exact⟨⟨a13,a14,a15,w13,w14,w15,k2,ep2,ms2,fz2⟩,s2,H _ _ r,h5,K4.trans (h7.cast rfl),⟨h6.1,h6.2.1,h6.2.2.1,h6.2.2.2.1,trivial⟩,trivial,(fun y hy=>nomatch hy),nodup_nil,h8,fun y hy=>⟨(h10' y hy).1,(h10' y hy).2.2,by simp [nw]⟩⟩
end
noncomputable def wN(W:WW)(vE:FE)(aF c1 c2 iF iI iG iM mm ro:Nat):bM:=jV (X:=xz) (Y:=List cA×List dh) (Vw W) (fun st y=>bq (fx st iG) y.2 y.1/\cb y.1/\y.1≠[]/\y.1.length<=900/\∀x∈y.2,x∈st.fz) (fun st=>⟨fA (pW W) aF c1 c2 (ce st iI),none,none,(c6 vE),none⟩) (fun st=>yF (pW W) aF (ce st iI) (ce st iG) (ce st iM) (bW st iF 0).1 (bW st iF 1).1 (bW st iF 2).1 (bW st iF 3).1 (bW st iF 4).1 (bW st iF 5).1 (bW st iF 6).1 (bW st iF 7).1 (bW st iF 8).1 (bW st iF 9).1 (bW st iF 10).1 (bW st iF 11).1 (bW st iF 0).2 (bW st iF 1).2 (bW st iF 2).2 (bW st iF 3).2 (bW st iF 4).2 (bW st iF 5).2 (bW st iF 6).2 (bW st iF 7).2 (bW st iF 8).2 (bW st iF 9).2 (bW st iF 10).2 (fx st iG) (fl st iG) (fl st iM)) [iF,iI,iG,iM] mm ro (fun st=>nw (pW W) aF (ce st iI) (ce st iG) (ce st iM) (bW st iF 0).1 (bW st iF 1).1 (bW st iF 2).1 (bW st iF 3).1 (bW st iF 4).1 (bW st iF 5).1 (bW st iF 6).1 (bW st iF 7).1 (bW st iF 8).1 (bW st iF 9).1 (bW st iF 10).1 (bW st iF 11).1 (bW st iF 0).2 (bW st iF 1).2 (bW st iF 2).2 (bW st iF 3).2 (bW st iF 4).2 (bW st iF 5).2 (bW st iF 6).2 (bW st iF 7).2 (bW st iF 8).2 (bW st iF 9).2 (bW st iF 10).2 (fx st iG) (fl st iG)) (fun x=>x.fz) (fun st y x=>cB x.ls x.fz (y.1.foldl bu []))
theorem uv(W:WW)(vE:FE)(aF c1 c2:Nat){iF iI iG iM:Nat}{V:XV}(hk:V.kt=eG (pW W)):bX V (model pw (Vw W)) (wN W vE aF c1 c2 iF iI iG iM V.mm V.ro):=
 fO hk fun st y h=>⟨y.2,h.2.2.2.2,rm W vE aF c1 c2 _ _ _ _ _ _ _ _ _ _ _ _ _ _ _ _ _ _ _ _ _ _ _ _ _ _ _ _ _ y.2 y.1 h.1 h.2.1 h.2.2.1 h.2.2.2.1⟩
theorem zd(W:WW)(b7:Bool)(p0:Pos)(vE:FE)(aF c1 c2 aL aI aC aG aT:Nat)(uF uG uH th tx ty:Tok)(vF vG vH:Value)(hh:UInt64)(dx dy:Int)(k et:Nat)(gs as:Array Value)(epG epA:Nat)(s:Shared)(hit:gs[(Yh k).toNat]? =some (Yp aT))(hsz:as.size<=1000)(E:WW->ae)(hE:E=fun W=>[(A aL,ah "dict" (cond b7 [] [aa (pW W) mQ uF vF,aa (pW W) mf uG vG,aa (pW W) wB uH vH]) (cond b7 0 3)),(Y5 aI aG k),(Yk aG gs epG),(Yk aC as epA),(wD aT hh th dx tx dy ty et)])(hP:az (pW W) (E W) s){Q:Prop}(kQ:∀(n tb:Nat) (s':Shared) (y1 y2 y3:Tok) (nt ep:Nat),Hn s n->Ht s tb->br (Yt W) (⟨ao (gr (pW W)) (bo (pW W) aF c1 c2) aL aI aC,none,none,(c6 vE),none⟩) p0 s s'->cN (pW W) s'->cI ([(A aL,ah "dict" [aa (pW W) mQ y1 (.float hh th),aa (pW W) mf y2 (b8 dx tx),aa (pW W) wB y3 (b8 dy ty)] 3),(vp aI aG k),(Yk aG gs epG),(A aC,ab (as.push (Yp nt)) ep),(wD aT hh th dx tx dy ty et),(A nt,a9 [.int dx tx,.int dy ty] 0)]) s'.heap->af (E W) s s'->s.heap.objs.size<=A nt->Q):Q:=by
 obtain⟨n,tb,gb,hn,ht,hg⟩:=hP.nt
 refine qB (fz:=[]) hE hP hn ht hg (fun E W Z hs=>cm (ei (Vw W) 5 [(bG 1 2 (Yp aT)),(cf 3)] [] [] []) 138 (⟨ao (gr (pW W)) (bo (pW W) aF c1 c2) aL aI aC,none,none,(c6 vE),none⟩) (p0) (aQ (ao (gr (pW W)) (bo (pW W) aF c1 c2) aL aI aC)) [] hs (cO E n tb gb) (sI [0,1,2,3,4,8] Z)) (fun E W Z hs=>ad (lE E) (A n) gb (sl hs 0 2) ((DP aI aG gs k aT)/\ad (lE E) (A n) gb (sl hs 3 46) (((Hg aC n 3)/\(rE as))/\ad (lE E) (A n) gb (sl hs 50 1) (Z (.again (ao (gr (pW W)) (bo (pW W) aF c1 c2) aL aI aC)) (Y2 n 4) (Y8 tb 3) true (ax ([((A aL),⟨(.type "dict"),none,(.dict ⟨[⟨(PyData.keyHash (pW W) De),(.str De (cond b7 (TK tb) uF)),(oE hh th)⟩,⟨(PyData.keyHash (pW W) Da),(.str Da (cond b7 (Y8 tb 1) uG)),(iU dx tx)⟩,⟨(PyData.keyHash (pW W) DJ),(.str DJ (cond b7 (Y8 tb 2) uH)),(iU dy ty)⟩]⟩ 3),⟨[]⟩⟩),(Is aI aG k),(rQ aG gs epG),(A aC,Obj.mapSeq (·.push (dY n 3)) (ab as epA)),(GQ aT hh th dx tx dy ty et),((Y2 n 3),⟨(.type "tuple"),none,(.seq ⟨[(iU dx tx),(iU dy ty)]⟩ 0),⟨[]⟩⟩)])) ([]))))) (fun _=>(gE [2,2,4000,2,2,2,40005,50006,5,60006,5,60006,5,60006,5,6,6,8,80001,4,4001,4,3000])) (by apply iW b7<;>exact iY (by kernel_rfl)) rfl ⟨fun _=>bi,fun _=>bx,trivial⟩ trivial rfl rfl (fun x hx=>nomatch hx) fun hs=>?_
 refine rI ⟨rfl,rfl,hit⟩ ?_
 refine rI ⟨rfl,⟨rfl,rfl,rfl⟩,hsz⟩ ?_
 exact rF fun s' r _ h3 h4 h5 h6 h7=>kQ n tb s' _ _ _ (bK n 3) _ hn ht (am rfl r) h4 (ai h3) h5 (h7 _ (mem_cons_self ..))
theorem GE(W:WW)(p0:Pos)(vE:FE)(aF c1 c2 aL aI aC aG:Nat)(loc:List DictEntry)(k el:Nat)(gs as:Array Value)(epG epA:Nat)(s:Shared)(hit:gs[(Yh k).toNat]? =none)(E:WW->ae)(hE:E=fun W=>[(mh aL loc el),(Y5 aI aG k),(Yk aG gs epG),(Yk aC as epA)])(hP:az (pW W) (E W) s){Q:Prop}(kQ:∀(n tb:Nat) (s':Shared),Hn s n->Ht s tb->Runs (Yt W) (⟨ao (gr (pW W)) (bo (pW W) aF c1 c2) aL aI aC,none,none,(c6 vE),none⟩) p0 ((Yt W).den (ao (gr (pW W)) (bo (pW W) aF c1 c2) aL aI aC)) [] s fu s'->cN (pW W) s'->cI (Dr aL loc el aI k aG gs epG aC as epA) s'.heap->af (E W) s s'->Q):Q:=by
 obtain⟨n,tb,gb,hn,ht,hg⟩:=hP.nt
 refine bT hE hP hn ht hg (fun E W Z hs=>cm (vd W 4 1 2) 53 (⟨ao (gr (pW W)) (bo (pW W) aF c1 c2) aL aI aC,none,none,(c6 vE),none⟩) (p0) (aQ (ao (gr (pW W)) (bo (pW W) aF c1 c2) aL aI aC)) [] hs (cO E n tb gb) (m4 Z)) (fun E W Z hs=>ad (lE E) (A n) gb (sl hs 0 2) ((vR aI aG gs k)/\ad (lE E) (A n) gb (sl hs 3 3) (Z (.fin fu) (Y2 n 2) (Y8 tb 0) true (ax ((GY aL loc el aI k aG gs epG aC as epA)))))) (fun _=>[2,2,4000,2,2,6]) (oW (by kernel_rfl)) rfl ⟨fun _=>cg,trivial⟩ trivial rfl fun hs=>?_
 refine rI ⟨rfl,rfl,hit⟩ ?_
 exact rF fun s' r _ h3 h4 h5=>kQ n tb s' hn ht (by rw [bI];exact r) h4 (ai h3) h5
theorem Fy(W:WW)(p0:Pos)(vE:FE)(aF c1 c2 aL aI aC aG:Nat)(gs:Array Value)(epG:Nat)(s:Shared)(E:WW->ae)(hE:E=fun W=>(Y9 aL aI aG gs epG aC))(hP:az (pW W) (E W) s){Q:Prop}(kQ:∀(n tb:Nat) (s':Shared),Hn s n->Ht s tb->cu (Yt W) (⟨ay (ao (gr (pW W)) (bo (pW W) aF c1 c2) aL aI aC),none,none,(c6 vE),none⟩) (ao (gr (pW W)) (bo (pW W) aF c1 c2) aL aI aC) p0 s s'->az (pW W) ((Y9 aL aI aG gs epG aC)) s'->af (E W) s s'->Q):Q:=by
 obtain⟨n,tb,gb,hn,ht,hg⟩:=hP.nt
 refine bT hE hP hn ht hg (fun E W Z hs=>cm (oZ W 4) 52 (⟨ay (ao (gr (pW W)) (bo (pW W) aF c1 c2) aL aI aC),none,none,(c6 vE),none⟩) (p0) (aQ (ay (ao (gr (pW W)) (bo (pW W) aF c1 c2) aL aI aC))) [] hs (cO E n tb gb) (m4 Z)) (fun E W Z hs=>ad (lE E) (A n) gb (zt hs W) (Z (.again (ao (gr (pW W)) (bo (pW W) aF c1 c2) aL aI aC)) (Y2 n 0) (Y8 tb 0) true (ax ((Y9 aL aI aG gs epG aC))))) zE (pD (by kernel_rfl)) rfl trivial (by exact trivial) rfl fun hs=>?_
 exact rF fun s' r _ h3 h4 h5=>kQ n tb s' hn ht (ch r) ⟨h4,ai h3,(nx hE hP).nd,(nx hE hP).lo⟩ h5
theorem aw.push2{items:Array Value}{fz:List dh}{ds:List cA}{a tx ty et}{d:Int×Int}(h:aw items fz ds):aw (items.push (Yp a)) (fz++[(A a,a9 [.int d.1 tx,.int d.2 ty] et)]) (ds++[d]):=by
 intro i
 have hs:=h.size
 by_cases q:i<ds.length
 ·rw [getElem?_append_left q]
  have z:=h i
  revert z
  rw [List.getElem?_eq_getElem q]
  intro z
  obtain⟨a',tx',ty',et',e',hm⟩:=z
  exact⟨a',tx',ty',et',by rw [getElem?_push,if_neg (by lia)];exact e',mem_append_left _ hm⟩
 ·by_cases q2:i=ds.length
  ·subst q2
   rw [getElem?_append_right (Nat.le_refl _),Nat.sub_self]
   exact⟨a,tx,ty,et,by rw [getElem?_push,if_pos hs.symm],mem_append_right _ (List.mem_singleton.mpr rfl)⟩
  ·rw [getElem?_append_right (by lia),List.getElem?_eq_none (by simp;lia)]
   show _=Option.none
   rw [getElem?_push,if_neg (by lia),Array.getElem?_eq_none (by lia)]
theorem cB.none{items:Array Value}{fz}{ds:List (Int×Int)}(h:cB items fz ds){k:Nat}(e:ds.drop k=[]):items[(Int.ofNat k).toNat]? =none:=by
 have z:=h k
 rw [List.getElem?_eq_none (List.drop_eq_nil_iff.mp e)] at z
 exact z
section
variable(W:WW)(vE:FE)(aF c1 c2 aL aI aC aG:Nat)(gs:Array Value)(epG:Nat)(fz:List dh)(ds:List cA)(hgs:cB gs fz ds)
include W vE aF c1 c2 aL aI aC aG gs epG fz ds hgs
theorem By:∀(rest:List cA) (k:Nat) (uF uG uH:Tok) (vF vG vH:Value) (pre:List cA) (as:Array Value) (ep:Nat) (fzT:List dh) (n0:Nat) (p0:Pos) (s:Shared),ds.drop k=rest->aw as fzT pre->as.size+rest.length<=1000->az (pW W) [(A aL,ah "dict" [aa (pW W) mQ uF vF,aa (pW W) mf uG vG,aa (pW W) wZ uH vH] 3),(Y5 aI aG k),(Yk aG gs epG),(Yk aC as ep)] s->cH fz [(A aL,ah "dict" [aa (pW W) mQ uF vF,aa (pW W) mf uG vG,aa (pW W) wZ uH vH] 3),(Y5 aI aG k),(Yk aG gs epG),(Yk aC as ep)] s->dc fzT [(A aL,ah "dict" [aa (pW W) mQ uF vF,aa (pW W) mf uG vG,aa (pW W) wZ uH vH] 3),(Y5 aI aG k),(Yk aG gs epG),(Yk aC as ep)] n0 s->n0<=s.heap.objs.size->
  ∀Q:Prop,(∀s' a1 a2 a3 w1 w2 w3 k' ep' as' fzT',Runs (Yt W) ⟨ao (gr (pW W)) (bo (pW W) aF c1 c2) aL aI aC,none,none,(c6 vE),none⟩ p0 ((Yt W).den (ao (gr (pW W)) (bo (pW W) aF c1 c2) aL aI aC)) [] s fu s'->cN (pW W) s'->cI [(A aL,ah "dict" [aa (pW W) mQ a1 w1,aa (pW W) mf a2 w2,aa (pW W) wZ a3 w3] 3),(kc aI k'),(Yk aG gs epG),(Yk aC as' ep')] s'.heap->af [(A aL,ah "dict" [aa (pW W) mQ uF vF,aa (pW W) mf uG vG,aa (pW W) wZ uH vH] 3),(Y5 aI aG k),(Yk aG gs epG),(Yk aC as ep)] s s'->aw as' fzT' (pre++rest)->dc fzT' [(A aL,ah "dict" [aa (pW W) mQ a1 w1,aa (pW W) mf a2 w2,aa (pW W) wZ a3 w3] 3),(kc aI k'),(Yk aG gs epG),(Yk aC as' ep')] n0 s'->Q)->Q:=by
 intro rest0
 induction rest0 with
 |nil=>
  intro k uF uG uH vF vG vH pre as ep fzT n0 p0 s hd hls hsz hP hf hst hn0 Q kQ
  apply GE (W:=W) (hit:=hgs.none hd) (hE:=rfl) (hP:=hP) (p0:=p0) (kQ:=?k100) ..
  case' k100=>intro n tb s' _ _ r h1 h2 h3
  exact kQ s' uF uG uH vF vG vH k ep as fzT r h1 h2 h3 (by simpa using hls) (hst.keep h3 rfl)
 |cons q rest ih=>
  intro k uF uG uH vF vG vH pre as ep fzT n0 p0 s hd hls hsz hP hf hst hn0 Q kQ
  obtain⟨hk,hd'⟩:=bw hd
  obtain⟨aT,th,tx,ty,et,e0,hit,hx,_,_⟩:=hgs.at hk
  have hP5:=hP.add hf hx (by show 245<=aT+245;lia)
  apply zd (b7:=false) (W:=W) (hit:=hit) (hsz:=by simp at hsz;lia) (hE:=rfl) (hP:=hP5) (p0:=p0) (kQ:=?k102) ..
  case' k102=>intro n tb s1 y1 y2 y3 nt ep1 _ htb zp101 h4 hF K hnew
  obtain⟨p',H⟩:=zp101
  have K4:=af.cut (E:=[(A aL,ah "dict" [aa (pW W) mQ uF vF,aa (pW W) mf uG vG,aa (pW W) wZ uH vH] 3),(Y5 aI aG k),(Yk aG gs epG),(Yk aC as ep)]) (x:=(A aT,a9 [.float (bf e0.1 e0.2) th,.int q.1 tx,.int q.2 ty] et)) K (hf _ hx).1 hF.2.2.2.2.1
  have hP1:az (pW W) [(A aL,ah "dict" [aa (pW W) mQ y1 (.float (bf e0.1 e0.2) th),aa (pW W) mf y2 (.int q.1 tx),aa (pW W) wB y3 (.int q.2 ty)] 3),(vp aI aG k),(Yk aG gs epG),(A aC,ab (as.push (Yp nt)) ep1)] s1:=⟨h4,⟨hF.1,hF.2.1,hF.2.2.1,hF.2.2.2.1,trivial⟩,hP.nd,hP.lo⟩
  have hn1:s.heap.objs.size<=A nt:=hnew
  have ho:s1.heap.get? (A nt)=some (a9 [.int q.1 tx,.int q.2 ty] 0):=hF.2.2.2.2.2.1
  refine ih (k+1) y1 y2 y3 _ _ _ (pre++[q]) _ ep1 (fzT++[(A nt,a9 [.int q.1 tx,.int q.2 ty] 0)]) n0 p' s1 hd' hls.push2 (by simp at hsz⊢;lia) hP1 (hf.keep K4 rfl) ((hst.keep K4 rfl).add hP rfl ho hn1 hn0) (Nat.le_trans hn0 K4.size) _ fun s2 a1 a2 a3 w1 w2 w3 k2 ep2 as2 fz2 r h5 h6 h7 h8 h9=>?_
  exact kQ s2 a1 a2 a3 w1 w2 w3 k2 ep2 as2 fz2 (H _ _ r) h5 h6 (K4.trans (h7.cast rfl)) (by simpa using h8) h9
structure FW where
 y1:Tok
 y2:Tok
 y3:Tok
 w1:Value
 w2:Value
 w3:Value
 k:Nat
 ep:Nat
 ls:Array Value
 fz:List (Nat×Obj)
noncomputable def rq(W:WW)(vE:FE)(aF c1 c2 aL aI aC aG:Nat)(gs:Array Value)(epG:Nat)(x:FW):Result×List Obj×ae:=(m8,([(A aL,ah "dict" [aa (pW W) mQ x.y1 x.w1,aa (pW W) mf x.y2 x.w2,aa (pW W) wB x.y3 x.w3] 3),(A aI,aK "list_iterator" [.none,.int (Int.ofNat x.k) 0]),(Yk aG gs epG),(A aC,ab x.ls x.ep)]:ae).map (·.2),[])
theorem vS(hne:ds≠[])(hlen:ds.length<=900):
  cw (Vw W) ⟨ay (ao (gr (pW W)) (bo (pW W) aF c1 c2) aL aI aC),none,none,(c6 vE),none⟩ (Y9 aL aI aG gs epG aC) fz (rq W vE aF c1 c2 aL aI aC aG gs epG) (fun x=>x.fz) (fun x=>aw x.ls x.fz ds):=
 cw.to (C:=ao (gr (pW W)) (bo (pW W) aF c1 c2) aL aI aC) (fun p0 s hP hf=>by
  obtain⟨q,rest,rfl⟩:∃q rest,ds=q::rest:=by cases ds with|nil=>exact(hne rfl).elim|cons q r=>exact⟨q,r,rfl⟩
  obtain⟨aT,th,tx,ty,et,e0,hit,hx,_,_⟩:=hgs.at (i:=0) rfl
  have hP5:=hP.add hf hx (by show 245<=aT+245;lia)
  apply zd (b7:=true) (W:=W) (hit:=hit) (hsz:=zero_le _) (hE:=rfl) (hP:=hP5) (p0:=p0) (uF:=0) (uG:=0) (uH:=0) (vF:=.none) (vG:=.none) (vH:=.none) (kQ:=?k104) ..
  case' k104=>intro n tb s1 y1 y2 y3 nt ep1 _ htb zp103 h4 hF K hnew
  obtain⟨p',H⟩:=zp103
  have K4:=af.cut (E:=(Y9 aL aI aG gs epG aC)) (x:=(A aT,a9 [.float (bf e0.1 e0.2) th,.int q.1 tx,.int q.2 ty] et)) K (hf _ hx).1 hF.2.2.2.2.1
  have hP1:az (pW W) [(A aL,ah "dict" [aa (pW W) mQ y1 (.float (bf e0.1 e0.2) th),aa (pW W) mf y2 (.int q.1 tx),aa (pW W) wB y3 (.int q.2 ty)] 3),(A aI,Lf aG),(Yk aG gs epG),(A aC,ab (GO nt) ep1)] s1:=⟨h4,⟨hF.1,hF.2.1,hF.2.2.1,hF.2.2.2.1,trivial⟩,hP.nd,hP.lo⟩
  have hn1:s.heap.objs.size<=A nt:=hnew
  have ho:s1.heap.get? (A nt)=some (a9 [.int q.1 tx,.int q.2 ty] 0):=hF.2.2.2.2.2.1
  have hst0:dc [] (Y9 aL aI aG gs epG aC) s.heap.objs.size s:=fun y hy=>nomatch hy
  have hls0:aw (⟨[]⟩:Array Value) [] []:=fun i=>by simp
  refine By W vE aF c1 c2 aL aI aC aG gs epG fz (q::rest) hgs rest 1 y1 y2 y3 _ _ _ ([]++[q]) _ ep1 ([]++[(A nt,a9 [.int q.1 tx,.int q.2 ty] 0)]) s.heap.objs.size p' s1 rfl hls0.push2 (by simp at hlen⊢;lia) hP1 (hf.keep K4 rfl) ((hst0.keep K4 rfl).add hP rfl ho hn1 (Nat.le_refl _)) K4.size _ fun s2 a1 a2 a3 w1 w2 w3 k2 ep2 as2 fz2 r h5 h6 h7 h8 h9=>?_
  exact⟨⟨a1,a2,a3,w1,w2,w3,k2,ep2,as2,fz2⟩,s2,H _ _ r,h5,K4.trans (h7.cast rfl),⟨h6.1,h6.2.1,h6.2.2.1,h6.2.2.2.1,trivial⟩,trivial,(fun y hy=>nomatch hy),nodup_nil,by simpa using h8,fun y hy=>⟨(h9 y hy).1,(h9 y hy).2.2,by simp [rq]⟩⟩) fun p s hP=>by
  apply Fy (W:=W) (p0:=p) (hE:=rfl) (hP:=hP) (kQ:=?k105) ..
  case' k105=>intro n tb s' _ _ H hP' K
  exact⟨s',H,hP',K⟩
end
noncomputable def Di(W:WW)(vE:FE)(aF c1 c2 iL iI iC iG mm ro:Nat):bM:=jV (X:=FW) (Y:=List cA×List dh) (Vw W) (fun st y=>cB (fx st iG) y.2 y.1/\y.1≠[]/\y.1.length<=900/\∀x∈y.2,x∈st.fz) (fun st=>⟨ay (ao (gr (pW W)) (bo (pW W) aF c1 c2) (ce st iL) (ce st iI) (ce st iC)),none,none,(c6 vE),none⟩) (I7 iL iI iG iC) [iL,iI,iG,iC] mm ro (fun st=>rq W vE aF c1 c2 (ce st iL) (ce st iI) (ce st iC) (ce st iG) (fx st iG) (fl st iG)) (fun x=>x.fz) (fun st y x=>aw x.ls x.fz y.1)
theorem zn(W:WW)(vE:FE)(aF c1 c2:Nat){iL iI iC iG:Nat}{V:XV}(hk:V.kt=eG (pW W)):bX V (model pw (Vw W)) (Di W vE aF c1 c2 iL iI iC iG V.mm V.ro):=
 fO hk fun st y h=>⟨y.2,h.2.2.2,vS W vE aF c1 c2 _ _ _ _ _ _ y.2 y.1 h.1 h.2.1 h.2.2.1⟩
theorem ur{A':Around}{s:Shared}{x y:Addr}{a b:Int}{t u t' u':Tok}{e e':Nat}(hu:A'.units<cLine)(hx:s.heap.get? x=some (a9 [.int a t,.int b u] e))(hy:s.heap.get? y=some (a9 [.int a t',.int b u'] e')):SeqAt.EqAt A' s (.ref x) (.ref y) true:=by
 by_cases q:x=y
 ·subst q
  intro prog w E Q hq
  unfold eqBool
  refine wpAny_holding ?_
  show wpAny _ _ (if(Value.ref x==Value.ref x)=true then _ else _) Q E s
  rw [if_pos (beq_self_eq_true _)]
  exact wpAny_bind (wpAny_rule (wpAny_pure hq))
 ·refine SeqAt.EqAt.of_refs q ?_
  have z:=SeqAt.RcAt.tuples (A:=A') (s:=s) (l:=x) (b:=y) (items:=⟨[.int a t,.int b u]⟩) (items2:=⟨[.int a t',.int b u']⟩) (e:=fun _=>true) ⟨_,hx,rfl,e,rfl⟩ ⟨_,hy,rfl,e',rfl⟩ hu (fun j h1 h2=>?_)
  ·exact z
  ·have h1:j<2:=h1
   have cs:j=0\/j=1:=by lia
   rcases cs with rfl|rfl
   ·have:=SeqAt.EqAt.int_int (A:=A'.in1) (s:=s) a t a t'
    rw [show(a==a)=true from beq_self_eq_true a] at this
    exact this
   ·have:=SeqAt.EqAt.int_int (A:=A'.in1) (s:=s) b u b u'
    rw [show(b==b)=true from beq_self_eq_true b] at this
    exact this
theorem uk(W:WW)(bl:List nW)(hbl:unitsOf bl<9000)(aL aM:Nat)(items items2:Array Value)(ep ep2:Nat)(fz1 fz2:List dh)(ps:List cA)(h1:aw items fz1 ps)(h2:aw items2 fz2 ps):
  bY (Vw W) ⟨.builtin "list.__eq__" ⟨[fC aL,fC aM],[]⟩,none,none,bl,none⟩ [(Yk aL items ep),(Yk aM items2 ep2)] (fz1++fz2) (fun _:Unit=>(.ok (.ret (.bool true)),[ab items ep,ab items2 ep2],[])) (fun _=>True):=by
 intro p0 s hP hf
 have hsz:items.size=items2.size:=by rw [h1.size,h2.size]
 refine⟨(),s,?_,hP.rdy,⟨fun b o q _=>q,rfl,rfl,Nat.le_refl _⟩,⟨hP.has.1,hP.has.2.1,trivial⟩,trivial,(fun y hy=>nomatch hy),nodup_nil,trivial⟩
 show Runs _ _ _ ((Yt W).den (.builtin "list.__eq__" ⟨[fC aL,fC aM],[]⟩)) _ _ _ _
 rw [bg PySem.F.entry_list_eq]
 refine bv (SeqAt.list_eqAt (A aL) (A aM) items items2 ep ep2 none none #[] #[] hsz (fun _=>true)) rfl ⟨hP.has.1,hP.has.2.1,fun j q1 q2=>?_,by simp,rfl⟩
 have hj:j<ps.length:=by rw [<-h1.size];exact q1
 refine gQ fun Q zQ=>?_
 obtain⟨a,t,u,e,e1,m1⟩:=h1.some (List.getElem?_eq_getElem hj)
 obtain⟨a',t',u',e',e2,m2⟩:=h2.some (List.getElem?_eq_getElem hj)
 refine zQ ?_
 have e1:items[j]? =some (Yp a):=e1
 have e2:items2[j]? =some (Yp a'):=e2
 rw [Array.getElem?_eq_getElem q1] at e1
 rw [Array.getElem?_eq_getElem q2] at e2
 rw [Option.some.inj e1,Option.some.inj e2]
 exact ur (by show unitsOf bl+1<9900;lia) (hf _ (mem_append_left _ m1)).1 (hf _ (mem_append_right _ m2)).1
noncomputable def C9(W:WW)(bl:List nW)(i j mm ro:Nat):bM:=jV (X:=Unit) (Y:=List cA×List dh×List dh) (Vw W) (fun st y=>aw (fx st i) y.2.1 y.1/\aw (fx st j) y.2.2 y.1/\∀x∈y.2.1++y.2.2,x∈st.fz) (fun st=>⟨.builtin "list.__eq__" ⟨[BY st i,BY st j],[]⟩,none,none,bl,none⟩) (fun st=>[(sW st i),(sW st j)]) [i,j] mm ro (fun st _=>(.ok (.ret (.bool true)),[IQ st i,IQ st j],[])) (fun _=>[]) (fun st y x=>True)
theorem ym(W:WW)(bl:List (Code×Pos))(hbl:unitsOf bl<9000){i j:Nat}{V:XV}(hk:V.kt=eG (pW W)):bX V (model pw (Vw W)) (C9 W bl i j V.mm V.ro):=
 fO hk fun st y h=>⟨y.2.1++y.2.2,h.2.2,(uk W bl hbl _ _ _ _ _ _ y.2.1 y.2.2 y.1 h.1 h.2.1).toD⟩
theorem vY{v:Int}{t u:Tok}{l}:av (.builtin "int.__mod__" ⟨[.int v t,.int (Int.ofNat 2) u],[]⟩) l (.int (Int.ofNat (v % 2).toNat)):=by
 refine av.mk PySem.F.entry_int_mod ?_ trivial
 have e:v.fmod (Int.ofNat 2)=Int.ofNat (v % 2).toNat:=by
  rw [Int.fmod_eq_emod_of_nonneg _ (by decide)]
  show v % 2=((v % 2).toNat:Int)
  lia
 rw [<-e];exact PySem.AutoIntG6.int___mod___int_int_1 v t (Int.ofNat 2) u (by decide)
noncomputable def BL(c:Code):Int:=match c with
 |.builtin _ ⟨[.int v _,_],_⟩=>v
 |_=>0
noncomputable def tS:bF:=fun Γ c st=>f7 [] (.int (Int.ofNat (BL c % 2).toNat)) Γ c st
theorem rJ{V:XV}{pr:Program}{w:World}:bE V (model pr w) tS:=by
 intro h0 d os Γ c st
 exact au h0 d os Γ c st
structure ng(B:Nat)(p q:List Int):Prop where
 first:dL B p
 second:dL B q
 both:dL B (cP p q 0 6)
 bits:∀a∈p,Builtin.Int.intBits a<=64
 fit:∀k,dI 0 (bA p q k 0 4)
 steps:∀(es1 es2:List (Int×Int)),cM (a8 B 0 p) es1->cM (a8 B 0 q) es2->cb (es1++es2)/\2<=(es1++es2).length/\(es1++es2).length<=5
 dumas:∀(es1 es2 es3 ds:List (Int×Int)),cM (a8 B 0 p) es1->cM (a8 B 0 q) es2->cM (a8 B 0 (cP p q 0 6)) es3->ds.Perm (es1++es2)->ds.Pairwise aY->ds.foldl bu []=es3
theorem aw.append{a b:Array Value}{fz1 fz2 fz:List dh}{l1 l2:List cA}(h1:aw a fz1 l1)(h2:aw b fz2 l2)(s1:∀x∈fz1,x∈fz)(s2:∀x∈fz2,x∈fz):aw (Array.mk (a.toList++b.toList)) fz (l1++l2):=by
 intro i
 have z1:=h1.size
 have z2:=h2.size
 have e1:a.toList.length=l1.length:=by simpa using z1
 have get:(Array.mk (a.toList++b.toList))[i]? =(a.toList++b.toList)[i]?:=by simp
 rw [get]
 by_cases q:i<l1.length
 ·rw [getElem?_append_left q,getElem?_append_left (by lia)]
  have z:=h1 i
  rw [List.getElem?_eq_getElem q] at z⊢
  obtain⟨x,tx,ty,et,e,m⟩:=z
  exact⟨x,tx,ty,et,by rw [<-e];simp,s1 _ m⟩
 ·rw [getElem?_append_right (by lia),getElem?_append_right (by lia),e1]
  have z:=h2 (i-l1.length)
  cases q2:l2[i-l1.length]? with
  |none=>rw [q2] at z;rw [<-z];simp
  |some d=>
   rw [q2] at z
   obtain⟨x,tx,ty,et,e,m⟩:=z
   exact⟨x,tx,ty,et,by rw [<-e];simp,s2 _ m⟩
theorem cz{items:Array Value}{l:List Int}(h:aj items l):cV items=l:=by
 obtain⟨its⟩:=items
 have hs:its.length=l.length:=by have:=h.1;simpa using this
 show its.map ru=l
 apply List.ext_getElem
 ·simpa using hs
 ·intro i h1 h2
  obtain⟨t,e⟩:=h.2 i l[i] (List.getElem?_eq_getElem h2)
  have h3:i<its.length:=by rw [hs];exact h2
  have e:its[i]? =some (.int l[i] t):=by rw [<-e];simp
  rw [List.getElem?_eq_getElem h3] at e
  rw [getElem_map,Option.some.inj e]
  rfl
theorem kX{a b:Array Value}{l m:List Int}(h1:aj a l)(h2:aj b m):aj (Array.mk (a.toList++b.toList)) (l++m):=by
 have z1:a.toList.length=l.length:=by have:=h1.1;simpa using this
 refine⟨by have:=h2.1;simp [z1];simpa using this,fun i v e=>?_⟩
 have get:(Array.mk (a.toList++b.toList))[i]? =(a.toList++b.toList)[i]?:=by simp
 rw [get]
 by_cases q:i<l.length
 ·rw [getElem?_append_left q] at e
  rw [getElem?_append_left (by lia)]
  obtain⟨t,e'⟩:=h1.2 i v e
  exact⟨t,by rw [<-e'];simp⟩
 ·rw [getElem?_append_right (by lia)] at e
  rw [getElem?_append_right (by lia),z1]
  obtain⟨t,e'⟩:=h2.2 _ v e
  exact⟨t,by rw [<-e'];simp⟩
theorem oT{its:List Value}{ns:List Int}(h:PyProof.Rows.IntsAre its ns):aj ⟨its⟩ ns:=by
 induction h with
 |nil=>exact⟨rfl,fun i v e=>by simp at e⟩
 |cons n t _ ih=>
  refine⟨by have:=ih.1;simp at this⊢;exact this,fun i v e=>?_⟩
  cases i with
  |zero=>exact⟨t,by simp at e;subst e;rfl⟩
  |succ i=>
   obtain⟨t',e'⟩:=ih.2 i v (by simpa using e)
   exact⟨t',by simpa using e'⟩
theorem uN{its:List Value}{l:List Int}(h:aj ⟨its⟩ l)(k:Nat):aj ⟨its.take k⟩ (l.take k):=by
 have hs:its.length=l.length:=by have:=h.1;simpa using this
 refine⟨by simp [hs],fun i v e=>?_⟩
 rw [List.getElem?_take] at e
 split at e
 ·rename_i q
  obtain⟨t,e'⟩:=h.2 i v e
  refine⟨t,?_⟩
  have e':its[i]? =some (.int v t):=by rw [<-e'];simp
  show(Array.mk (its.take k))[i]? =_
  rw [getElem?_toArray,List.getElem?_take,if_pos q];exact e'
 ·cases e
theorem vL{its:List Value}{l:List Int}(h:aj ⟨its⟩ l)(k:Nat):aj ⟨its.drop k⟩ (l.drop k):=by
 have hs:its.length=l.length:=by have:=h.1;simpa using this
 refine⟨by simp [hs],fun i v e=>?_⟩
 rw [getElem?_drop] at e
 obtain⟨t,e'⟩:=h.2 _ v e
 refine⟨t,?_⟩
 have e':its[k+i]? =some (.int v t):=by rw [<-e'];simp
 show(Array.mk (its.drop k))[i]? =_
 rw [getElem?_toArray,getElem?_drop];exact e'
theorem yr{itv:Array Value}{ns:List Int}{n:Nat}{t u:Tok}{g:List Value}{gl:List Int}(h:aj itv ns)(hn:n=itv.size)(hg:aj ⟨g⟩ gl)(h7:gl.length=7):
  ∃xs,aj (Array.mk ((Array.mk (cutL itv C0 (bV (Value.int (Int.ofNat 7) t)))).toList++(Array.mk (cutL (Array.mk g) (bV (Value.int (Yh n) u)) C0)).toList)) xs/\List.length xs=7:=by
 refine⟨ns.take 7++gl.drop n,kX ?_ ?_,?_⟩
 ·have e:cutL itv C0 (bV (Value.int (Int.ofNat 7) t))=itv.toList.take 7:=by
   show(slicePick itv none (some ((7:Nat):Int)) none).toList=_
   rw [slicePick_upto']
  rw [e]
  exact uN (its:=itv.toList) (by exact h) 7
 ·have e:cutL (Array.mk g) (bV (Value.int (Yh n) u)) C0=g.drop n:=by
   show(slicePick (Array.mk g) (some ((n:Nat):Int)) none none).toList=_
   rw [slicePick_from']
  rw [e]
  exact vL hg n
 ·have:=h.1
  simp only [List.length_append,List.length_take,List.length_drop,h7]
  omega
theorem qO{itv:Array Value}{n:Nat}{t u:Tok}{g:List Value}(h63:itv.size<=63)(hg:g.length<=7):(Array.mk (cutL itv (bV Value.none) (bV (Value.int (Int.ofNat 7) t)))).size+(Array.mk (cutL (Array.mk g) (bV (Value.int (Int.ofNat n) u)) (bV Value.none))).size<=1000:=by
 have e:cutL itv (bV Value.none) (bV (Value.int (Int.ofNat 7) t))=itv.toList.take 7:=by
  show(slicePick itv none (some ((7:Nat):Int)) none).toList=_
  rw [slicePick_upto']
 have e2:cutL (Array.mk g) (bV (Value.int (Int.ofNat n) u)) (bV Value.none)=g.drop n:=by
  show(slicePick (Array.mk g) (some ((n:Nat):Int)) none none).toList=_
  rw [slicePick_from']
 rw [e,e2]
 simp
 omega
theorem gD{a b c:Int}{t u v:Tok}:aj ⟨[.int a t,.int b u,.int c v]⟩ [a,b,c]:=
 ⟨rfl,fun i x e=>by
  rcases i with _|_|_|i<;>simp at e<;>subst e
  ·exact⟨t,rfl⟩
  ·exact⟨u,rfl⟩
  ·exact⟨v,rfl⟩⟩
theorem zr{a b c d:Int}{t u v w:Tok}:aj ⟨[.int a t,.int b u,.int c v,.int d w]⟩ [a,b,c,d]:=
 kX (a:=⟨[.int a t]⟩) (b:=⟨[.int b u,.int c v,.int d w]⟩) (l:=[a]) (m:=[b,c,d]) ⟨rfl,fun i x e=>by
  rcases i with _|i<;>simp at e<;>subst e
  exact⟨t,rfl⟩⟩ gD
theorem yP{a b c d e f g:Int}{t1 t2 t3 t4 t5 t6 t7:Tok}:aj ⟨[.int a t1,.int b t2,.int c t3,.int d t4,.int e t5,.int f t6,.int g t7]⟩ [a,b,c,d,e,f,g]:=
 kX (a:=⟨[.int a t1,.int b t2,.int c t3,.int d t4]⟩) (b:=⟨[.int e t5,.int f t6,.int g t7]⟩) (l:=[a,b,c,d]) (m:=[e,f,g]) zr gD
theorem AG{its:Array Value}{ds:List Nat}(h:aj its (ds.map Int.ofNat)):aZ its ds:=
 ⟨by have:=h.1;simpa using this,fun i j e=>h.2 i (Int.ofNat j) (by rw [getElem?_map,e];rfl)⟩
theorem Hu{a b c d e f g:Nat}{t1 t2 t3 t4 t5 t6 t7:Tok}:aZ ⟨[.int (Int.ofNat a) t1,.int (Int.ofNat b) t2,.int (Int.ofNat c) t3,.int (Int.ofNat d) t4,.int (Int.ofNat e) t5,.int (Int.ofNat f) t6,.int (Int.ofNat g) t7]⟩ [a,b,c,d,e,f,g]:=
 AG yP
theorem OU{x:ka}(h:cond154 x):dI 0 [Int.ofNat x.d0,Int.ofNat x.d1,Int.ofNat x.d2,Int.ofNat x.d3,Int.ofNat x.d4,Int.ofNat x.d5,Int.ofNat x.d6]:=by
 have g:∀(l:List Nat) (a:Nat),(∀d∈l,d<1000000)->a+l.length*1000000<100000000->dI (Yh a) (l.map Int.ofNat):=by
  intro l
  induction l with
  |nil=>intro _ _ _;trivial
  |cons d l ih=>
   intro a hl hs
   have h1:=hl d (mem_cons_self ..)
   rw [length_cons] at hs
   refine⟨?_,?_,ih (a+d) (fun x hx=>hl x (mem_cons_of_mem _ hx)) (by clear ih hl;lia)⟩<;>(unfold MR;clear ih hl;simp only [Int.ofNat_eq_natCast];lia)
 refine gQ fun Q zQ=>?_
 obtain⟨h0,h1,h2,h3,h4,h5,h6⟩:=h
 refine zQ ?_
 exact g [_,_,_,_,_,_,_] 0 (List.forall_mem_cons.mpr ⟨h0,List.forall_mem_cons.mpr ⟨h1,List.forall_mem_cons.mpr ⟨h2,List.forall_mem_cons.mpr ⟨h3,List.forall_mem_cons.mpr ⟨h4,List.forall_mem_cons.mpr ⟨h5,List.forall_mem_cons.mpr ⟨h6,fun _ h=>absurd h (List.not_mem_nil)⟩⟩⟩⟩⟩⟩⟩) (by show 0+7*1000000<100000000;exact of_decide_eq_true rfl)
theorem cU{v:Int}:Int.toNat (2+Int.ofNat (v % 2).toNat)=2\/Int.toNat (2+Int.ofNat (v % 2).toNat)=3:=by
 have:Int.ofNat (v % 2).toNat=v % 2:=toNat_of_nonneg (by lia)
 rw [this];lia
theorem uz{its:Array Value}{l:List Int}(h:aj its l):aj its (cV its):=by rw [cz h];exact h
theorem b9(hlaw:∀(B:Nat) (ds:List Nat),(B=2\/B=3)->ds.length=7->ng B ((e8 B 0 ds).take 4) ((e8 B 0 ds).drop 4)){B:Nat}{ds:List Nat}{x:pU}(hB:B=2\/B=3)(h7:ds.length=7)(h:od B ds x):ng B [x.a0,x.a1,x.a2,x.a3] [x.a4,x.a5,x.a6]:=by
 have:=hlaw B ds hB h7
 rw [<-h] at this;exact this
theorem na:∀(ds acc:List (Int×Int)),(ds.foldl bu acc).length<=acc.length+ds.length
 |[],acc=>Nat.le_refl _
 |d::ds,acc=>by
  have h:=na ds (bu acc d)
  have h1:(bu acc d).length<=acc.length+1:=by
   unfold bu
   cases q:acc.getLast? with
   |none=>simp
   |some c=>
    simp only
    split
    ·simp
    ·simp
  rw [foldl_cons,length_cons];lia
structure cY(B:Nat)(p q r:List Int)(x:oI):Prop where
 L:ng B p q
 hr:r=cP p q 0 6
 ok:oU B p q r x
theorem cY.st{B p q r x}(H:cY B p q r x):cb (x.es1++x.es2)/\2<=(x.es1++x.es2).length/\(x.es1++x.es2).length<=5:=H.L.steps _ _ H.ok.1.2 H.ok.2.1.2
theorem cY.add{B p q r x}(H:cY B p q r x):x.eds1.size+x.eds2.size<=1000:=by
 have h1:=H.ok.1.1.size
 have h2:=H.ok.2.1.1.size
 have:=H.st.2.2
 rw [List.length_append] at this
 lia
theorem cY.pts{B p q r x}(H:cY B p q r x){fz:List (Nat×Obj)}(h:∀y∈x.fz1++(x.fz2++x.fz3),y∈fz):aw (Array.mk (x.eds1.toList++x.eds2.toList)) fz (x.es1++x.es2)/\ranged (x.es1++x.es2)/\x.es1++x.es2≠[]/\(x.es1++x.es2).length<=900:=
 ⟨aw.append H.ok.1.1 H.ok.2.1.1 (fun y hy=>h y (mem_append_left _ hy)) (fun y hy=>h y (mem_append_right _ (mem_append_left _ hy))),H.st.1.ranged,(fun e=>by have:=H.st.2.1;rw [e] at this;simp at this),Nat.le_trans H.st.2.2 (by decide)⟩
theorem cY.merged{B p q r x}(H:cY B p q r x){ds:List (Int×Int)}(h:ds.Perm (x.es1++x.es2))(h2:ds.Pairwise aY):ds.foldl bu []=x.es3:=
 H.L.dumas _ _ _ ds H.ok.1.2 H.ok.2.1.2 (by rw [<-H.hr];exact H.ok.2.2.2) h h2
theorem cY.es3{B p q r x}(H:cY B p q r x):x.es3≠[]:=by
 refine gQ fun Q zQ=>?_
 obtain⟨_,_,_,_,_,_,_,_,h⟩:=H.L.both.below x.es3 (by rw [<-H.hr];exact H.ok.2.2.2)
 refine zQ ?_
 exact h
theorem cY.perm{B p q r x}(H:cY B p q r x){ds:List (Int×Int)}(h:ds.Perm (x.es1++x.es2)):cb ds/\ds≠[]/\ds.length<=900:=
 ⟨fun d hd=>H.st.1 d (h.mem_iff.mp hd),(fun e=>by have:=H.st.2.1;rw [<-h.length_eq,e] at this;simp at this),by have:=H.st.2.2;rw [h.length_eq];lia⟩
theorem cY.mlen{B p q r x}(H:cY B p q r x){ds:List (Int×Int)}(h:ds.Perm (x.es1++x.es2))(h2:ds.Pairwise aY):ds.foldl bu []≠[]/\(ds.foldl bu []).length<=900:=by
 refine⟨by rw [H.merged h h2];exact H.es3,?_⟩
 have:=na ds []
 have:=H.st.2.2
 rw [<-h.length_eq] at this
 simp at*
 lia
abbrev Pg(a:ka):=mC (Array.mk [Value.int (Int.ofNat a.d0) a.t0,Value.int (Int.ofNat a.d1) a.t1,Value.int (Int.ofNat a.d2) a.t2,Value.int (Int.ofNat a.d3) a.t3,Value.int (Int.ofNat a.d4) a.t4,Value.int (Int.ofNat a.d5) a.t5,Value.int (Int.ofNat a.d6) a.t6])
abbrev Y0(a:ka)(b:cC)(c:Nat):=Code.builtin (toString SL.s7066276694103001551x3++toString "."++toString (Fast.tw16320311567567194475 (Fast.tw9488563226318888690 SL.s2823223500020032725x3))) (Args.mk ([Value.int (Pg a) (cC.mk b.t).t]++[Value.int 2 (TK c)]) [])
noncomputable abbrev Yw(a:ka):Array Value:=⟨[(.int (Int.ofNat a.d0) a.t0),(.int (Int.ofNat a.d1) a.t1),(.int (Int.ofNat a.d2) a.t2),(.int (Int.ofNat a.d3) a.t3),(.int (Int.ofNat a.d4) a.t4),(.int (Int.ofNat a.d5) a.t5),(.int (Int.ofNat a.d6) a.t6)]⟩
noncomputable abbrev u0(a:pU):Array Value:=⟨[(.int (a.a0) a.t0),(.int (a.a1) a.t1),(.int (a.a2) a.t2),(.int (a.a3) a.t3)]⟩
noncomputable abbrev wx(a:pU):Array Value:=⟨[(.int (a.a4) a.t4),(.int (a.a5) a.t5),(.int (a.a6) a.t6)]⟩
abbrev PY a:=Array.mk [Value.int (Int.ofNat 322) (Y8 a 1),Value.int (Int.ofNat 140) (Y8 a 2),Value.int (Int.ofNat 497) (Y8 a 3),Value.int (Int.ofNat 70) (Y8 a 4),Value.int (Int.ofNat 201) (Y8 a 5),Value.int (Int.ofNat 261) (Y8 a 6),Value.int (Int.ofNat 384) (Y8 a 7)]
abbrev Db a b c:=Int.ofNat (2+Int.ofNat (BL (Y0 a b c) % 2).toNat).toNat
noncomputable abbrev KH(a:pU):=(Array.mk [Value.int a.a0 a.t0,Value.int a.a1 a.t1,Value.int a.a2 a.t2,Value.int a.a3 a.t3,Value.int a.a4 a.t4,Value.int a.a5 a.t5,Value.int a.a6 a.t6])
abbrev PQ(a b c d:Nat)(e:oI)(f:Nat)(g:sL)(h i:Nat):=[140,147,244,(Y2 a 0),(Y2 a 1),(Y2 a 2),(Y2 a 3),(Y2 a 4),(Y2 a 5),(Y2 a 6),(Y2 a 7),(Y2 a 8),(Y2 a 9),(Y2 a 10),(Y2 a 11),(Y2 b 0),(Y2 b 1),(Y2 b 2),(Y2 c 0),(Y2 c 1),(Y2 c 2),(Y2 c 3),(Y2 c 4),(Y2 c 5),(Y2 c 6),(Y2 c 7),(Y2 c 8),(Y2 c 9),(Y2 c 10),(Y2 c 11),(Y2 c 12),(Y2 d 0),(Y2 d 1),(Y2 d 2),(A e.a1),(A e.a2),(A e.a3),(Y2 f 0),(Y2 f 1),(Y2 f 2),(Y2 f 3),(Y2 f 4),(A g.a),(Y2 h 0),(Y2 i 0),(Y2 i 1),(Y2 i 2)]
abbrev Ps(a b c d:Nat)(e:oI):=[140,147,244,(Y2 a 0),(Y2 a 1),(Y2 a 2),(Y2 a 3),(Y2 a 4),(Y2 a 5),(Y2 a 6),(Y2 a 7),(Y2 a 8),(Y2 a 9),(Y2 a 10),(Y2 a 11),(Y2 b 0),(Y2 b 1),(Y2 b 2),(Y2 c 0),(Y2 c 1),(Y2 c 2),(Y2 c 3),(Y2 c 4),(Y2 c 5),(Y2 c 6),(Y2 c 7),(Y2 c 8),(Y2 c 9),(Y2 c 10),(Y2 c 11),(Y2 c 12),(Y2 d 0),(Y2 d 1),(Y2 d 2),(A e.a1),(A e.a2),(A e.a3)]
abbrev Lo a b:=[140,147,244,(Y2 a 0),(Y2 a 1),(Y2 a 2),(Y2 a 3),(Y2 a 4),(Y2 a 5),(Y2 a 6),(Y2 a 7),(Y2 a 8),(Y2 a 9),(Y2 a 10),(Y2 a 11),(Y2 b 0),(Y2 b 1),(Y2 b 2)]
abbrev JK(a:Nat)(b:Array Value):=cutL (PY a) (bV (Value.int (Int.ofNat b.size) (Y8 a 11))) (bV Value.none)
noncomputable abbrev HH(a:oI):=[]++(a.fz1++(a.fz2++a.fz3))
abbrev N8 a:=[140,147,244,(Y2 a 0),(Y2 a 1),(Y2 a 2),(Y2 a 3),(Y2 a 4),(Y2 a 5),(Y2 a 6),(Y2 a 7),(Y2 a 8),(Y2 a 9),(Y2 a 10),(Y2 a 11)]
abbrev Jj:=Hd/\((Rf (.type "slice":Value))/\(Rf (.none:Value)))
abbrev Jv a b c:=Int.toNat (2+Int.ofNat (BL (Y0 a b c) % 2).toNat)
abbrev JB a b:=cutL a C0 (bV (Value.int (Int.ofNat 7) (Y8 b 9)))
noncomputable abbrev GW(a:oI)(b:Cs):=((HH a)++b.fz)++([]:ae)
noncomputable abbrev ip a b:=Nat.add a b
theorem LF(W:WW)(p0 p6:Pos)(itv:Array Value)(s:Shared)(ns:List Int)(hv:aj itv ns)(h63:itv.size<=63)(hlaw:∀(B:Nat) (ds:List Nat),(B=2\/B=3)->ds.length=7->ng B ((e8 B 0 ds).take 4) ((e8 B 0 ds).drop 4))(E:WW->ae)(hE:E=fun W=>[(140,bD []),(147,bD []),(244,ab itv 0)])(hP:az (pW W) (E W) s){Q:Prop}(kQ:∀(n tb:Nat) (s':Shared) (r1 r2:Addr),Hn s n->Ht s tb->Runs (Yt W) (⟨.call (.ref 243) ⟨[.ref 244],[]⟩,none,none,[(Y7,p6)],none⟩) p0 ((Yt W).den (.call (.ref 243) ⟨[.ref 244],[]⟩)) [] s G5 s'->cN (pW W) s'->cI ([(140,bD (cE r1)),(147,bD (cD r2)),(244,ab itv 0)]) s'.heap->af (E W) s s'->Q):Q:=by
 obtain⟨n,tb,gb,hn,ht,hg⟩:=hP.nt
 refine bT hE hP hn ht hg (fun E W Z hs=>cm (ei (Vw W) 3 [(fX 2 7),(oh 2),(fX 6 9),(ko 8 10),tS,(fX 15 18),(fX 15 20),(ko 34 35)] [] [Dc W ⟨⟨154,12,154,67⟩,p6,(bo (pW W) (cT n) (dE n) (bK n 2)),(be (dB (pW W)))⟩ (cT n) (dE n) (bK n 2) 14 12 13 11 3 3,op 13 3 3,DQ W ⟨⟨157,13,157,21⟩,p6,(bo (pW W) (cT n) (dE n) (bK n 2)),(be (dB (pW W)))⟩ (cT n) (dE n) (bK n 2) 3 17 13 15 3 3,DU W ⟨⟨164,11,164,98⟩,p6,(bo (pW W) (cT n) (dE n) (bK n 2)),(be (dB (pW W)))⟩ (cT n) (dE n) (bK n 2) 29 27 28 4 5 30 19 21 3 3,DK W ⟨⟨166,16,166,37⟩,p6,(bo (pW W) (cT n) (dE n) (bK n 2)),(be (dB (pW W)))⟩ (cT n) (dE n) (bK n 2) 3 33 32 19 21 28 31 3 3,Ds W ⟨⟨174,82,174,101⟩,p6,(bo (pW W) (cT n) (dE n) (bK n 2)),(be (dB (pW W)))⟩ (cT n) (dE n) (bK n 2) 41 39 40 38 3 3,xr W [(.func (be (dB (pW W))) (bo (pW W) (ip n 0) (ip n 1) (ip n 2)),⟨174,27,174,103⟩),(Y7,p6)] 40 3 3,wN W ⟨⟨174,27,174,103⟩,p6,(bo (pW W) (cT n) (dE n) (bK n 2)),(be (dB (pW W)))⟩ (cT n) (dE n) (bK n 2) 3 43 42 37 3 3,Di W ⟨⟨179,48,179,54⟩,p6,(bo (pW W) (cT n) (dE n) (bK n 2)),(be (dB (pW W)))⟩ (cT n) (dE n) (bK n 2) 46 44 45 37 3 3,C9 W [(.func (be (dB (pW W))) (bo (pW W) (ip n 0) (ip n 1) (ip n 2)),⟨179,11,179,67⟩),(Y7,p6)] 45 36 3 3] []) 529 (⟨.call (.ref 243) ⟨[.ref 244],[]⟩,none,none,[(Y7,p6)],none⟩) (p0) (aQ (.call (.ref 243) ⟨[.ref 244],[]⟩)) [] hs (cO E n tb gb) (mb Z)) (fun E W Z hs=>ad (lE E) (A n) gb (sl hs 0 12) (((Rf (.builtin "list.__getitem__" ⟨[(.ref 244),(dY n 4)],[]⟩:Code))/\(Jj/\(Yc/\((itv.size.le 1000)/\(Rf (Array.mk (JB itv tb):Array Value))))))/\ad (lE E) (A n) gb (sl hs 13 4) (((Rf (.builtin "len" ⟨[(.ref 244)],[]⟩:Code))/\(Hd/\(itv.size.le 1000)))/\ad (lE E) (A n) gb (sl hs 18 4) (((Rf (.builtin "list.__getitem__" ⟨[(dY n 3),(dY n 6)],[]⟩:Code))/\(Jj/\(Yc/\(((PY tb).size.le 1000)/\(Rf (Array.mk (JK tb itv):Array Value))))))/\ad (lE E) (A n) gb (sl hs 23 4) (((Rf (.builtin "list.__add__" ⟨[(dY n 5),(dY n 7)],[]⟩:Code))/\(Yi/\(Yi/\(((Array.mk (JB itv tb)).size+(Array.mk (JK tb itv)).size).le 1000))))/\ad (lE E) (A n) gb (sl hs 28 4) ((∃xs,aj (Array.mk ((Array.mk (JB itv tb)).toList++(Array.mk (JK tb itv)).toList)) xs/\List.length xs=7)/\(Rf (⟨ay (ao (fM (pW W)) (bo (pW W) (cT n) (dE n) (bK n 2)) (bK n 11) (bK n 9) (bK n 10)),none,none,[(.func (be (dB (pW W))) (bo (pW W) (ip n 0) (ip n 1) (ip n 2)),⟨154,12,154,67⟩),(Y7,p6)],none⟩:Ctx))/\(Rf (ax ([(df n 11,eI),(df n 9,aK "list_iterator" [.ref (qS n 8),Ym]),(df n 8,ab (Array.mk ((Array.mk (JB itv tb)).toList++(Array.mk (JK tb itv)).toList)) 0),(mS n 10)])))/\Yc/\Yc/\∀(x0:ka) (n0 tb0 gb0:Nat),cond154 x0->Yc/\ad (N8 n) (A n0) gb0 (sl hs 33 8) (((Pv n 10)/\Yc/\(Rf (ab (Yw x0) x0.ep:Obj))/\(∃xs,aj (Yw x0) xs/\dI 0 xs))/\(Rf (ax ([((Y2 n 10),(ab (Yw x0) x0.ep:Obj))])))/\Yc/\Yc/\∀(x1:cC) (n1 tb1 gb1:Nat),True->Yc/\ad (N8 n) (A n1) gb1 (sl hs 41 0) ((av (.builtin "int.__mod__" ⟨[(.int (Pg x0) x1.t),(.int (Int.ofNat 2) (TK tb1))],[]⟩) [] (Made.int (Int.ofNat (BL (Y0 x0 x1 tb1) % 2).toNat))/\Yc)/\ad (N8 n) (A n1) gb1 (sl hs 43 17) ((aZ (Yw x0) (no (Yw x0))/\List.length (no (Yw x0))=7/\((Jv x0 x1 tb1)=2\/(Jv x0 x1 tb1)=3))/\(Rf (⟨fm (pW W) (cT n) (dE n) (bK n 2) (bK n1 2),none,none,[(.func (be (dB (pW W))) (bo (pW W) (ip n 0) (ip n 1) (ip n 2)),⟨157,13,157,21⟩),(Y7,p6)],none⟩:Ctx))/\(Rf (ax (kI (pW W) (cT n) (bK n1 2) (bK n 10) (cT n1) (Jv x0 x1 tb1) (TK tb) (Y8 tb 8) (TK tb0) (Y8 tb1 3) (Y8 tb1 4) (Y8 tb1 2) (.ref 244) (dY n 3) (Yw x0) x0.ep [] 5 0 7 ⟨[]⟩ 0)))/\Yc/\Yc/\∀(x2:pU) (n2 tb2 gb2:Nat),od (Jv x0 x1 tb1) (no (Yw x0)) x2->Yc/\ad (Lo n n1) (A n2) gb2 (sl hs 61 5) (((Rf (.builtin "list.__getitem__" ⟨[(dY n1 0),(dY n2 0)],[]⟩:Code))/\(Jj/\(Yc/\(((KH x2).size.le 1000)/\(Rf (Array.mk (cutL (KH x2) C0 (bV (Value.int (Int.ofNat 4) (TK tb2)))):Array Value))))))/\ad (Lo n n1) (A n2) gb2 (sl hs 67 5) (((Rf (.builtin "list.__getitem__" ⟨[(dY n1 0),(dY n2 2)],[]⟩:Code))/\(Jj/\(Yc/\(((KH x2).size.le 1000)/\(Rf (Array.mk (cutL (KH x2) (bV (Value.int (Int.ofNat 4) (Y8 tb2 1))) C0):Array Value))))))/\ad (Lo n n1) (A n2) gb2 (sl hs 73 44) ((aj (u0 x2) (cV (u0 x2))/\aj (wx x2) (cV (wx x2))/\List.length (cV (u0 x2))=4/\List.length (cV (wx x2))=3/\(∀a∈(cV (u0 x2)),Builtin.Int.intBits a<=64)/\(∀k,dI 0 (bA (cV (u0 x2)) (cV (wx x2)) k 0 4)))/\(Rf (⟨ay (gx (pW W) (cT n) (dE n) (bK n 2) (bK n2 12) (bK n2 11) (bK n2 9) (bK n2 10)),none,none,[(.func (be (dB (pW W))) (bo (pW W) (ip n 0) (ip n 1) (ip n 2)),⟨164,11,164,98⟩),(Y7,p6)],none⟩:Ctx))/\(Rf (ax ([(df n2 11,eI),(df n2 9,Dh 6),(mS n2 10),(df n 1,⟨Yu,none,.cell (some (.ref (A (dE n2)))),⟨[]⟩⟩),(df n 2,⟨Yu,none,.cell (some (.ref (qS n2 3))),⟨[]⟩⟩),(df n2 12,⟨Yu,none,.cell none,⟨[]⟩⟩),(df n2 1,ab (u0 x2) 0),(df n2 3,ab (wx x2) 0)])))/\Yc/\Yc/\∀(x3:GM) (n3 tb3 gb3:Nat),aj x3.ls (cP (cV (u0 x2)) (cV (wx x2)) 0 6)->Yc/\ad [140,147,244,(Y2 n 0),(Y2 n 1),(Y2 n 2),(Y2 n 3),(Y2 n 4),(Y2 n 5),(Y2 n 6),(Y2 n 7),(Y2 n 8),(Y2 n 9),(Y2 n 10),(Y2 n 11),(Y2 n1 0),(Y2 n1 1),(Y2 n1 2),(Y2 n2 0),(Y2 n2 1),(Y2 n2 2),(Y2 n2 3),(Y2 n2 4),(Y2 n2 5),(Y2 n2 6),(Y2 n2 7),(Y2 n2 8),(Y2 n2 9),(Y2 n2 10),(Y2 n2 11),(Y2 n2 12)] (A n3) gb3 (sl hs 118 11) ((aj (u0 x2) (cV (u0 x2))/\aj (wx x2) (cV (wx x2))/\aj (x3.ls) (cV (x3.ls))/\List.length (cV (u0 x2))=4/\List.length (cV (wx x2))=3/\List.length (cV (x3.ls))=6/\((Int.toNat (Db x0 x1 tb1))=2\/(Int.toNat (Db x0 x1 tb1))=3)/\dL (Int.toNat (Db x0 x1 tb1)) (cV (u0 x2))/\dL (Int.toNat (Db x0 x1 tb1)) (cV (wx x2))/\dL (Int.toNat (Db x0 x1 tb1)) (cV (x3.ls)))/\(Rf (⟨kh (pW W) (cT n) (dE n) (bK n 2) (bK n3 2),none,none,[(.func (be (dB (pW W))) (bo (pW W) (ip n 0) (ip n 1) (ip n 2)),⟨166,16,166,37⟩),(Y7,p6)],none⟩:Ctx))/\(Rf (ax ([(140,bD []),(147,bD []),(df n 0,ah "frame" ([aa (pW W) Yy (TK tb) (.ref 244),aa (pW W) g0 (Y8 tb 8) (dY n 3),aa (pW W) g5 (TK tb0) (dY n 10),aa (pW W) eM (Y8 tb1 3) (.int (Int.ofNat (Int.toNat (Db x0 x1 tb1))) (Y8 tb1 2)),aa (pW W) Yr (Y8 tb1 4) (dY n1 0),aa (pW W) [105] x2.y6 (x2.x6),aa (pW W) [113] x2.y7 (x2.x7),aa (pW W) qD (TK tb3) (dY n2 10),aa (pW W) lW (Y8 tb3 1) (.ref (A (cT n3)))]++[]) 9),(df n3 2,aK "list_iterator" [.ref (A (dE n3)),Ym]),(df n3 1,ab ⟨[.ref (A (dE n2)),.ref (qS n2 3),.ref (qS n2 10)]⟩ 0),(df n2 1,ab (u0 x2) 0),(df n2 3,ab (wx x2) 0),(df n2 10,ab (x3.ls) x3.ep),(mS n3 0)])))/\Yc/\Yc/\∀(x4:oI) (n4 tb4 gb4:Nat),(oU (Int.toNat (Db x0 x1 tb1)) (cV (u0 x2)) (cV (wx x2)) (cV (x3.ls)) x4)/\eR [] (x4.fz1++(x4.fz2++x4.fz3))->Yc/\ad (Ps n n1 n2 n3 x4) (A n4) gb4 (sl hs 130 20) (((Rf (.builtin "list.__add__" ⟨[(.ref (A x4.a1)),(.ref (A x4.a2))],[]⟩:Code))/\(Yi/\(Yi/\((x4.eds1.size+x4.eds2.size).le 1000))))/\ad (Ps n n1 n2 n3 x4) (A n4) gb4 (sl hs 151 4) (∃ds5:List cA,(aw (Array.mk (x4.eds1.toList++x4.eds2.toList)) (HH x4) ds5/\ranged ds5/\ds5≠[]/\List.length ds5<=900)/\(Rf (⟨ay (ao (eB (pW W)) (bo (pW W) (cT n) (dE n) (bK n 2)) (bK n4 4) (bK n4 2) (bK n4 3)),none,none,[(.func (be (dB (pW W))) (bo (pW W) (ip n 0) (ip n 1) (ip n 2)),⟨174,82,174,101⟩),(Y7,p6)],none⟩:Ctx))/\(Rf (ax ([(df n4 4,eI),(df n4 2,aK "list_iterator" [.ref (A (dE n4)),Ym]),(df n4 1,ab (Array.mk (x4.eds1.toList++x4.eds2.toList)) 0),(mS n4 3)])))/\Yc/\Yc/\∀(x5:Cs) (n5 tb5 gb5:Nat),(bq x5.ls x5.fz ds5/\∃hi,dm x5.fz hi)/\eR (HH x4) x5.fz->Yc/\ad [140,147,244,(Y2 n 0),(Y2 n 1),(Y2 n 2),(Y2 n 3),(Y2 n 4),(Y2 n 5),(Y2 n 6),(Y2 n 7),(Y2 n 8),(Y2 n 9),(Y2 n 10),(Y2 n 11),(Y2 n1 0),(Y2 n1 1),(Y2 n1 2),(Y2 n2 0),(Y2 n2 1),(Y2 n2 2),(Y2 n2 3),(Y2 n2 4),(Y2 n2 5),(Y2 n2 6),(Y2 n2 7),(Y2 n2 8),(Y2 n2 9),(Y2 n2 10),(Y2 n2 11),(Y2 n2 12),(Y2 n3 0),(Y2 n3 1),(Y2 n3 2),(A x4.a1),(A x4.a2),(A x4.a3),(Y2 n4 0),(Y2 n4 1),(Y2 n4 2),(Y2 n4 3),(Y2 n4 4)] (A n5) gb5 (sl hs 156 3) (∃y6:List cA×List dh,(bq (x5.ls) y6.2 y6.1/\(∃hi,dm y6.2 hi)/\cb y6.1/\2<=List.length y6.1/\List.length y6.1<=5/\∀x∈y6.2,x∈((HH x4)++x5.fz))/\(Rf (⟨.builtin "sorted" ⟨[.ref (qS n4 3)],[]⟩,none,none,[(.func (be (dB (pW W))) (bo (pW W) (ip n 0) (ip n 1) (ip n 2)),⟨174,27,174,103⟩),(Y7,p6)],none⟩:Ctx))/\(Rf (ax ([(df n4 3,ab (x5.ls) x5.ep)])))/\Yc/\Yc/\∀(x6:sL) (n6 tb6 gb6:Nat),(bq x6.ls y6.2 x6.ds/\List.Perm x6.ds y6.1/\List.Pairwise aY x6.ds)/\eR ((HH x4)++x5.fz) ([]:ae)->Yc/\ad [140,147,244,(Y2 n 0),(Y2 n 1),(Y2 n 2),(Y2 n 3),(Y2 n 4),(Y2 n 5),(Y2 n 6),(Y2 n 7),(Y2 n 8),(Y2 n 9),(Y2 n 10),(Y2 n 11),(Y2 n1 0),(Y2 n1 1),(Y2 n1 2),(Y2 n2 0),(Y2 n2 1),(Y2 n2 2),(Y2 n2 3),(Y2 n2 4),(Y2 n2 5),(Y2 n2 6),(Y2 n2 7),(Y2 n2 8),(Y2 n2 9),(Y2 n2 10),(Y2 n2 11),(Y2 n2 12),(Y2 n3 0),(Y2 n3 1),(Y2 n3 2),(A x4.a1),(A x4.a2),(A x4.a3),(Y2 n4 0),(Y2 n4 1),(Y2 n4 2),(Y2 n4 3),(Y2 n4 4),(A x6.a)] (A n6) gb6 (sl hs 160 4) (∃y7:List cA×List dh,(bq (x6.ls) y7.2 y7.1/\cb y7.1/\y7.1≠[]/\List.length y7.1<=900/\∀x∈y7.2,x∈(GW x4 x5))/\(Rf (⟨fA (pW W) (cT n) (dE n) (bK n 2) (cT n6),none,none,[(.func (be (dB (pW W))) (bo (pW W) (ip n 0) (ip n 1) (ip n 2)),⟨174,27,174,103⟩),(Y7,p6)],none⟩:Ctx))/\(Rf (ax (yF (pW W) (cT n) (cT n6) x6.a (cT n4) (TK tb) (Y8 tb 8) (TK tb0) (Y8 tb1 3) (Y8 tb1 4) x2.y6 x2.y7 (TK tb3) (Y8 tb3 1) x4.y10 x4.y11 (TK tb4) (.ref 244) (dY n 3) (dY n 10) (.int (Int.ofNat ((Db x0 x1 tb1).toNat)) (Y8 tb1 2)) (dY n1 0) (x2.x6) (x2.x7) (dY n2 10) (dY n3 0) (x4.w10) (x4.w11) (x6.ls) x6.ep 0)))/\Yc/\Yc/\∀(x7:xz) (n7 tb7 gb7:Nat),(cB x7.ls x7.fz (List.foldl bu [] y7.1))/\eR (GW x4 x5) x7.fz->Yc/\ad [140,147,244,(Y2 n 0),(Y2 n 1),(Y2 n 2),(Y2 n 3),(Y2 n 4),(Y2 n 5),(Y2 n 6),(Y2 n 7),(Y2 n 8),(Y2 n 9),(Y2 n 10),(Y2 n 11),(Y2 n1 0),(Y2 n1 1),(Y2 n1 2),(Y2 n2 0),(Y2 n2 1),(Y2 n2 2),(Y2 n2 3),(Y2 n2 4),(Y2 n2 5),(Y2 n2 6),(Y2 n2 7),(Y2 n2 8),(Y2 n2 9),(Y2 n2 10),(Y2 n2 11),(Y2 n2 12),(Y2 n3 0),(Y2 n3 1),(Y2 n3 2),(A x4.a1),(A x4.a2),(A x4.a3),(Y2 n4 0),(Y2 n4 1),(Y2 n4 2),(Y2 n4 3),(Y2 n4 4),(A x6.a),(Y2 n6 0)] (A n7) gb7 (sl hs 165 5) (∃y8:List cA×List dh,(cB (x7.ls) y8.2 y8.1/\y8.1≠[]/\List.length y8.1<=900/\∀x∈y8.2,x∈((GW x4 x5)++x7.fz))/\(Rf (⟨ay (ao (gr (pW W)) (bo (pW W) (cT n) (dE n) (bK n 2)) (bK n7 2) (cT n7) (dE n7)),none,none,[(.func (be (dB (pW W))) (bo (pW W) (ip n 0) (ip n 1) (ip n 2)),⟨179,48,179,54⟩),(Y7,p6)],none⟩:Ctx))/\(Rf (ax ([(df n7 2,eI),(Ih n7 n4 0),(df n4 0,ab (x7.ls) x7.ep),(mS n7 1)])))/\Yc/\Yc/\∀(x8:FW) (n8 tb8 gb8:Nat),(aw x8.ls x8.fz y8.1)/\eR ((GW x4 x5)++x7.fz) x8.fz->Yc/\ad (PQ n n1 n2 n3 x4 n4 x6 n6 n7) (A n8) gb8 (sl hs 171 19) (∃y9:List cA×List dh×List dh,(aw (x8.ls) y9.2.1 y9.1/\aw (x4.eds3) y9.2.2 y9.1/\∀x∈y9.2.1++y9.2.2,x∈(((GW x4 x5)++x7.fz)++x8.fz))/\(Rf (⟨.builtin "list.__eq__" ⟨[.ref (A (dE n7)),.ref (A x4.a3)],[]⟩,none,none,[(.func (be (dB (pW W))) (bo (pW W) (ip n 0) (ip n 1) (ip n 2)),⟨179,11,179,67⟩),(Y7,p6)],none⟩:Ctx))/\(Rf (ax ([(df n7 1,ab (x8.ls) x8.ep),(A x4.a3,ab (x4.eds3) x4.ep3)])))/\Yc/\Yc/\∀(x9:Unit) (n9 tb9 gb9:Nat),(True)/\eR (((GW x4 x5)++x7.fz)++x8.fz) ([]:ae)->Yc/\ad (PQ n n1 n2 n3 x4 n4 x6 n6 n7) (A n9) gb9 (sl hs 190 0) (Z (.fin G5) (Y2 n9 0) (Y8 tb9 0) true (ax ([(140,bD (cE x4.r1)),(147,bD (cD x4.r2)),(244,ab itv 0)])))))))))))))))))))))) (fun W=>(gE [0,0,4,4,0,4,4,4,40003,4000,4,0,0,4,4001,40007,4002,9,11,9,9,4003,30012,13,1000,4,4,30015,0,0,4,7001,4004,40004,0,0,100017,18,1002,4,40016,4005,4,40016,4006,40023,50024,23,60024,23,60024,23,24,24,26,5,5,6,6,0,0,100027,28,1003,40004,5,6,4,30033,34,1004,4,4,0,0,4,50032,4,50032,35,36,35,35,4007,30039,40,1005,30042,7006,30043,44,1007,4,30038,45,1008,90047,4,50032,46,37,46,46,7009])) (pD (by kernel_rfl)) rfl ⟨fun _=>eL,fun _=>rY,fun _=>eL,fun _=>lc,fun _=>rJ,fun _=>eL,fun _=>eL,fun _=>lc,trivial⟩ ⟨xy _ _ _ _ _ rfl,nl rfl,xa _ _ _ _ _ rfl,xA _ _ _ _ _ rfl,zk _ _ _ _ _ rfl,yB _ _ _ _ _ rfl,vf _ _ rfl,uv _ _ _ _ _ rfl,zn _ _ _ _ _ rfl,ym _ _ (le_of_ble_eq_true rfl) rfl,trivial⟩ rfl fun hs=>?_
 refine rI ⟨rfl,⟨rfl,rfl,rfl⟩,rfl,Nat.le_trans h63 (by decide),rfl⟩ ?_
 refine rI ⟨rfl,rfl,Nat.le_trans h63 (by decide)⟩ ?_
 refine rI ⟨rfl,⟨rfl,rfl,rfl⟩,rfl,le_of_ble_eq_true rfl,rfl⟩ ?_
 refine rI ⟨rfl,⟨rfl,rfl,rfl⟩,⟨rfl,rfl,rfl⟩,qO h63 (Nat.le_refl 7)⟩ ?_
 refine ag ⟨yr hv rfl yP rfl,rfl,rfl,rfl,rfl,fun x0 n0 tb0 gb0 hx0=>⟨rfl,?_⟩⟩ _
 refine ag ⟨⟨⟨rfl,rfl,rfl,rfl⟩,rfl,rfl,_,yP,OU hx0⟩,rfl,rfl,rfl,fun x1 n1 tb1 gb1 hx1=>⟨rfl,?_⟩⟩ _
 refine rI ⟨vY,rfl⟩ ?_
 refine ag ⟨⟨Hu,rfl,cU⟩,rfl,rfl,rfl,rfl,fun x2 n2 tb2 gb2 hx2=>⟨rfl,?_⟩⟩ _
 refine rI ⟨rfl,⟨rfl,rfl,rfl⟩,rfl,le_of_ble_eq_true rfl,rfl⟩ ?_
 refine rI ⟨rfl,⟨rfl,rfl,rfl⟩,rfl,le_of_ble_eq_true rfl,rfl⟩ ?_
 refine ag ⟨⟨zr,gD,rfl,rfl,(b9 hlaw cU rfl hx2).bits,(b9 hlaw cU rfl hx2).fit⟩,rfl,rfl,rfl,rfl,fun x3 n3 tb3 gb3 hx3=>⟨rfl,?_⟩⟩ _
 refine ag ⟨⟨zr,gD,uz hx3,rfl,rfl,(by rw [cz hx3];rfl),cU,(b9 hlaw cU rfl hx2).first,(b9 hlaw cU rfl hx2).second,(by rw [cz hx3];exact(b9 hlaw cU rfl hx2).both)⟩,rfl,rfl,rfl,rfl,fun x4 n4 tb4 gb4 hx4=>⟨rfl,?_⟩⟩ _
 refine rI ⟨rfl,⟨rfl,rfl,rfl⟩,⟨rfl,rfl,rfl⟩,cY.add (cY.mk (b9 hlaw cU rfl hx2) (cz hx3) hx4.1)⟩ ?_
 refine ag ⟨x4.es1++x4.es2,cY.pts (cY.mk (b9 hlaw cU rfl hx2) (cz hx3) hx4.1) (fun y hy=>mem_append_right _ hy),rfl,rfl,rfl,rfl,fun x5 n5 tb5 gb5 hx5=>⟨rfl,?_⟩⟩ _
 refine ag ⟨(x4.es1++x4.es2,x5.fz),⟨hx5.1.1,hx5.1.2,(cY.st (cY.mk (b9 hlaw cU rfl hx2) (cz hx3) hx4.1)).1,(cY.st (cY.mk (b9 hlaw cU rfl hx2) (cz hx3) hx4.1)).2.1,(cY.st (cY.mk (b9 hlaw cU rfl hx2) (cz hx3) hx4.1)).2.2,fun y hy=>mem_append_right _ hy⟩,rfl,rfl,rfl,rfl,fun x6 n6 tb6 gb6 hx6=>⟨rfl,?_⟩⟩ _
 refine ag ⟨(x6.ds,x5.fz),⟨hx6.1.1,(cY.perm (cY.mk (b9 hlaw cU rfl hx2) (cz hx3) hx4.1) hx6.1.2.1).1,(cY.perm (cY.mk (b9 hlaw cU rfl hx2) (cz hx3) hx4.1) hx6.1.2.1).2.1,(cY.perm (cY.mk (b9 hlaw cU rfl hx2) (cz hx3) hx4.1) hx6.1.2.1).2.2,fun y hy=>mem_append_left _ (mem_append_right _ hy)⟩,rfl,rfl,rfl,rfl,fun x7 n7 tb7 gb7 hx7=>⟨rfl,?_⟩⟩ _
 refine ag ⟨(List.foldl bu [] x6.ds,x7.fz),⟨hx7.1,(cY.mlen (cY.mk (b9 hlaw cU rfl hx2) (cz hx3) hx4.1) hx6.1.2.1 hx6.1.2.2).1,(cY.mlen (cY.mk (b9 hlaw cU rfl hx2) (cz hx3) hx4.1) hx6.1.2.1 hx6.1.2.2).2,fun y hy=>mem_append_right _ hy⟩,rfl,rfl,rfl,rfl,fun x8 n8 tb8 gb8 hx8=>⟨rfl,?_⟩⟩ _
 refine ag ⟨(x4.es3,x8.fz,x4.fz3),⟨(by rw [<-cY.merged (cY.mk (b9 hlaw cU rfl hx2) (cz hx3) hx4.1) hx6.1.2.1 hx6.1.2.2];exact hx8.1),hx4.1.2.2.1,fun y hy=>by rcases List.mem_append.mp hy with hy|hy;exact mem_append_right _ hy;exact mem_append_left _ (mem_append_left _ (mem_append_left _ (mem_append_left _ (mem_append_right _ (mem_append_right _ (mem_append_right _ hy))))))⟩,rfl,rfl,rfl,rfl,fun x9 n9 tb9 gb9 hx9=>⟨rfl,?_⟩⟩ _
 exact rF fun s' r _ h3 h4 h5=>kQ n tb s' _ _ hn ht (by rw [bI];exact r) h4 (ai h3) h5
def ba(d e:Int×Int):Prop:=d.2*e.1<e.2*d.1
noncomputable def ph(e X:Int×Int):Int:=X.2*e.1-X.1*e.2
noncomputable def dq(X q:Int×Int):Int×Int:=(X.1-q.1,X.2-q.2)
structure pG(ps:List (Int×Int))(e P Q:Int×Int):Prop where
 p:P∈ps
 q:Q∈ps
 eq:ph e Q=ph e P
 min:∀X∈ps,ph e P<=ph e X
 lo:∀X∈ps,ph e X=ph e P->P.1<=X.1/\X.1<=Q.1
noncomputable def bt(e:Int×Int):List (Int×Int)->Int×Int
 |[]=>(0,0)
 |f::l=>if f.2*e.1=e.2*f.1 then(f.1+(bt e l).1,f.2+(bt e l).2) else bt e l
theorem jM{a b c:Int×Int}(ha:0<a.1)(hb:0<b.1)(hc:0<c.1)(h1:ba a b)(h2:aY b c):ba a c:=by
 unfold ba aY at*
 have e1:(a.2*b.1)*c.1<(b.2*a.1)*c.1:=Int.mul_lt_mul_of_pos_right h1 hc
 have e2:(b.2*c.1)*a.1<=(c.2*b.1)*a.1:=mul_le_mul_of_nonneg_right h2 (by lia)
 have:(a.2*c.1)*b.1<(c.2*a.1)*b.1:=by grind
 exact Int.lt_of_mul_lt_mul_right this (by lia)
theorem jL{a b c:Int×Int}(ha:0<a.1)(hb:0<b.1)(hc:0<c.1)(h1:aY a b)(h2:ba b c):ba a c:=by
 unfold ba aY at*
 have e1:(a.2*b.1)*c.1<=(b.2*a.1)*c.1:=mul_le_mul_of_nonneg_right h1 (by lia)
 have e2:(b.2*c.1)*a.1<(c.2*b.1)*a.1:=Int.mul_lt_mul_of_pos_right h2 ha
 have:(a.2*c.1)*b.1<(c.2*a.1)*b.1:=by grind
 exact Int.lt_of_mul_lt_mul_right this (by lia)
theorem FZ{a b:Int×Int}(h:ba a b):aY a b:=Int.le_of_lt h
theorem eP{a b c:Int×Int}(ha:0<a.1)(hb:0<b.1)(hc:0<c.1)(h1:ba a b)(h2:ba b c):ba a c:=jM ha hb hc h1 (FZ h2)
theorem cF{e:Int×Int}:∀{es:List (Int×Int)},(∀f∈es,ba e f)->bt e es=(0,0)
 |[],_=>rfl
 |f::l,h=>by
  have:=h f (mem_cons_self ..)
  unfold ba at this
  rw [bt,if_neg (by lia)]
  exact cF fun g hg=>h g (mem_cons_of_mem _ hg)
theorem iT{q q' e:Int×Int}{l l':List cA}{j:Nat}(hb:lC (difs q l) j e)(hd:l.drop j=q'::l'):∃pre,l=pre++q'::l'/\e=dq q' q/\(∀X∈l,aY e (dq X q))/\∀X∈l',ba e (dq X q):=by
 obtain⟨h1,h2⟩:=hb
 have hj:l[j]? =some q':=by
  have:=getElem?_drop (xs:=l) (i:=j) (j:=0)
  rw [hd] at this
  simpa using this.symm
 have he:e=dq q' q:=by
  unfold difs at h1
  rw [getElem?_map,hj] at h1
  exact(Option.some.inj h1).symm
 refine⟨l.take j,by rw [<-hd,List.take_append_drop],he,fun X hX=>?_,fun X hX=>?_⟩
 ·obtain⟨i,hi⟩:=List.mem_iff_getElem?.mp hX
  exact(h2 i (dq X q) (by unfold difs;rw [getElem?_map,hi];rfl)).1
 ·obtain⟨i,hi⟩:=List.mem_iff_getElem?.mp hX
  have hi':l[j+(i+1)]? =some X:=by
   have:=getElem?_drop (xs:=l) (i:=j) (j:=i+1)
   rw [hd] at this
   rw [<-this];simpa using hi
  have z:=h2 _ (dq X q) (by unfold difs;rw [getElem?_map,hi'];rfl)
  unfold ba
  rcases Int.lt_or_le (e.2*(dq X q).1) ((dq X q).2*e.1) with g|g
  ·exact g
  ·have:=z.2 (by unfold aY;exact g);lia
theorem qs{q q' Y f:Int×Int}(hf:f=dq q' q)(h:ba f (dq Y q)):ba f (dq Y q'):=by
 subst hf
 unfold ba dq at*
 simp only at*
 grind
theorem qF{q q' X f e:Int×Int}(hf:f=dq q' q)(hf0:0<f.1)(he:0<e.1)(hX:X.1<q'.1)(h1:aY f (dq X q))(h2:ba f e):ph e q'<ph e X:=by
 have a1: -(q'.1-X.1)*f.2<=(X.2-q'.2)*f.1:=by
  subst hf
  unfold aY dq at*
  simp only at*
  grind
 unfold ba at h2
 have e1:(-(q'.1-X.1)*f.2)*e.1<=((X.2-q'.2)*f.1)*e.1:=mul_le_mul_of_nonneg_right a1 (by lia)
 have e2:(q'.1-X.1)*(f.2*e.1)<(q'.1-X.1)*(e.2*f.1):=Int.mul_lt_mul_of_pos_left h2 (by lia)
 have:(-(q'.1-X.1)*e.2)*f.1<((X.2-q'.2)*e.1)*f.1:=by grind
 have:=Int.lt_of_mul_lt_mul_right this (by lia)
 unfold ph
 grind
theorem iy{q:Int×Int}{l es:List cA}(h:eH q l es):(q::l).Pairwise (fun a b=>a.1<b.1)->
  es.Pairwise ba/\(∀f∈es,0<f.1)/\(∀g:Int×Int,0<g.1->(∀X∈l,ba g (dq X q))->∀f∈es,ba g f)/\
  (∀e:Int×Int,0<e.1->∃P Q,pG (q::l) e P Q/\Q.1-P.1=(bt e es).1/\Q.2-P.2=(bt e es).2):=by
 induction h with
 |nil q=>
  intro _
  refine⟨List.Pairwise.nil,(fun f hf=>nomatch hf),(fun g _ _ f hf=>nomatch hf),fun e he=>⟨q,q,⟨List.mem_singleton.mpr rfl,List.mem_singleton.mpr rfl,rfl,fun X hX=>?_,fun X hX _=>?_⟩,by simp [bt],by simp [bt]⟩⟩
  ·rw [List.mem_singleton.mp hX];exact Int.le_refl _
  ·rw [List.mem_singleton.mp hX];exact⟨Int.le_refl _,Int.le_refl _⟩
 | @cons q l j f q' l' es hl hb hd h ih=>
  intro hs
  obtain⟨pre,hpre,hf,hle,hlt⟩:=iT hb hd
  have hs2:=List.pairwise_cons.mp hs
  have hs':(q'::l').Pairwise (fun a b=>a.1<b.1):=by
   have:=hs2.2
   rw [hpre] at this
   exact(List.pairwise_append.mp this).2.1
  have hprelt:∀X∈pre,X.1<q'.1:=fun X hX=>by
   have:=hs2.2
   rw [hpre] at this
   exact(List.pairwise_append.mp this).2.2 X hX q' (mem_cons_self ..)
  have hq'l:q'∈l:=by rw [hpre];simp
  have hqq':q.1<q'.1:=hs2.1 q' hq'l
  have hf0:0<f.1:=by rw [hf];show 0<q'.1-q.1;lia
  have hpos:∀X∈l,0<(dq X q).1:=fun X hX=>by have:=hs2.1 X hX;show 0<X.1-q.1;lia
  have hl'l:∀X∈l',X∈l:=fun X hX=>by rw [hpre];simp [hX]
  have hpos':∀X∈l',0<(dq X q').1:=fun X hX=>by have:=(List.pairwise_cons.mp hs').1 X hX;show 0<X.1-q'.1;lia
  have hlt':∀X∈l',ba f (dq X q'):=fun X hX=>qs hf (hlt X hX)
  obtain⟨i1,i2,i3,i4⟩:=ih hs'
  have hfs:∀g∈es,ba f g:=i3 f hf0 hlt'
  refine⟨List.pairwise_cons.mpr ⟨hfs,i1⟩,fun g hg=>?_,fun g hg0 hg k hk=>?_,fun e he=>?_⟩
  ·rcases List.mem_cons.mp hg with rfl|hg
   ·exact hf0
   ·exact i2 g hg
  ·have hgf:ba g f:=by rw [hf];exact hg q' hq'l
   rcases List.mem_cons.mp hk with rfl|hk
   ·exact hgf
   ·exact i3 g hg0 (fun X hX=>eP hg0 hf0 (hpos' X hX) hgf (hlt' X hX)) k hk
  ·rcases(by unfold ba;lia:ba e f\/f.2*e.1=e.2*f.1\/ba f e) with c|c|c
   ·have hX:∀X∈l,ph e q<ph e X:=fun X hX=>by
     have:=jM he hf0 (hpos X hX) c (hle X hX)
     unfold ba dq at this
     unfold ph
     simp only at this
     grind
    refine⟨q,q,⟨mem_cons_self ..,mem_cons_self ..,rfl,fun X h=>?_,fun X h h'=>?_⟩,?_,?_⟩
    ·rcases List.mem_cons.mp h with rfl|h
     ·exact Int.le_refl _
     ·exact Int.le_of_lt (hX X h)
    ·rcases List.mem_cons.mp h with rfl|h
     ·exact⟨Int.le_refl _,Int.le_refl _⟩
     ·have:=hX X h;lia
    ·rw [cF fun k hk=>?_];exact Int.sub_self _
     rcases List.mem_cons.mp hk with rfl|hk
     ·exact c
     ·exact eP he hf0 (i2 k hk) c (hfs k hk)
    ·rw [cF fun k hk=>?_];exact Int.sub_self _
     rcases List.mem_cons.mp hk with rfl|hk
     ·exact c
     ·exact eP he hf0 (i2 k hk) c (hfs k hk)
   ·have hd0:bt e es=(0,0):=cF fun k hk=>by
     have a1:=hfs k hk
     exact jL he hf0 (i2 k hk) (by unfold aY;lia) a1
    have hle':∀X∈l,ph e q<=ph e X:=fun X hX=>by
     have:=ct (a:=e) (b:=f) (c:=dq X q) hf0 he (hpos X hX) (by unfold aY;lia) (hle X hX)
     unfold aY dq at this
     unfold ph
     simp only at this
     grind
    have hlt2:∀X∈l',ph e q<ph e X:=fun X hX=>by
     have:=jL (a:=e) (b:=f) (c:=dq X q) he hf0 (hpos X (hl'l X hX)) (by unfold aY;lia) (hlt X hX)
     unfold ba dq at this
     unfold ph
     simp only at this
     grind
    refine⟨q,q',⟨mem_cons_self ..,mem_cons_of_mem _ hq'l,?_,fun X h=>?_,fun X h h'=>?_⟩,?_,?_⟩
    ·rw [hf] at c
     unfold dq at c
     unfold ph
     simp only at c
     grind
    ·rcases List.mem_cons.mp h with rfl|h
     ·exact Int.le_refl _
     ·exact hle' X h
    ·rcases List.mem_cons.mp h with rfl|h
     ·exact⟨Int.le_refl _,Int.le_of_lt hqq'⟩
     ·refine⟨Int.le_of_lt (hs2.1 X h),?_⟩
      rw [hpre] at h
      rcases List.mem_append.mp h with h|h
      ·exact Int.le_of_lt (hprelt X h)
      ·rcases List.mem_cons.mp h with rfl|h
       ·exact Int.le_refl _
       ·have:=hlt2 X h;lia
    ·rw [bt,if_pos c,hd0,hf];show q'.1-q.1=q'.1-q.1+0;lia
    ·rw [bt,if_pos c,hd0,hf];show q'.2-q.2=q'.2-q.2+0;lia
   ·obtain⟨P,Q,F,d1,d2⟩:=i4 e he
    have hdd:bt e (f::es)=bt e es:=by
     unfold ba at c
     rw [bt,if_neg (by lia)]
    have hbelow:∀X∈q::pre,ph e q'<ph e X:=fun X hX=>by
     rcases List.mem_cons.mp hX with rfl|hX
     ·refine qF hf hf0 he hqq' ?_ c
      unfold aY dq
      simp only
      lia
     ·exact qF hf hf0 he (hprelt X hX) (hle X (by rw [hpre];exact mem_append_left _ hX)) c
    have hmem:∀X∈q::l,X∈q::pre\/X∈q'::l':=fun X hX=>by
     rcases List.mem_cons.mp hX with rfl|hX
     ·exact .inl (mem_cons_self ..)
     ·rw [hpre] at hX
      rcases List.mem_append.mp hX with h|h
      ·exact .inl (mem_cons_of_mem _ h)
      ·exact .inr h
    have hup:∀X∈q'::l',X∈q::l:=fun X hX=>mem_cons_of_mem _ (by rw [hpre];exact mem_append_right _ hX)
    have hq'P:=F.min q' (mem_cons_self ..)
    refine⟨P,Q,⟨hup P F.p,hup Q F.q,F.eq,fun X hX=>?_,fun X hX hX'=>?_⟩,by rw [hdd];exact d1,by rw [hdd];exact d2⟩
    ·rcases hmem X hX with h|h
     ·have:=hbelow X h;lia
     ·exact F.min X h
    ·rcases hmem X hX with h|h
     ·have:=hbelow X h;lia
     ·exact F.lo X h hX'
theorem Dk{e X Y:Int×Int}(he:0<e.1)(h1:X.1=Y.1)(h2:ph e X=ph e Y):X.2=Y.2:=by
 unfold ph at h2
 rw [h1] at h2
 exact Int.eq_of_mul_eq_mul_right (by lia:e.1≠0) (by lia)
theorem qa{ps:List (Int×Int)}{e P Q P' Q':Int×Int}(he:0<e.1)(F:pG ps e P Q)(G:pG ps e P' Q'):P=P'/\Q=Q':=by
 have m:ph e P=ph e P':=Int.le_antisymm (F.min P' G.p) (G.min P F.p)
 have a1:=F.lo P' G.p m.symm
 have a2:=G.lo P F.p m
 have b1:=F.lo Q' G.q (by rw [G.eq,m])
 have b2:=G.lo Q F.q (by rw [F.eq,m])
 have hP:P.1=P'.1:=by lia
 have hQ:Q.1=Q'.1:=by lia
 exact⟨Prod.ext hP (Dk he hP m),Prod.ext hQ (Dk he hQ (by rw [F.eq,G.eq,m]))⟩
theorem c9{e f:Int×Int}{l:List (Int×Int)}:(bt e (f::l)).1=(bt e [f]).1+(bt e l).1/\(bt e (f::l)).2=(bt e [f]).2+(bt e l).2:=by
 by_cases h:f.2*e.1=e.2*f.1
 ·rw [bt,if_pos h,bt,if_pos h];exact⟨by simp [bt],by simp [bt]⟩
 ·rw [bt,if_neg h,bt,if_neg h];exact⟨by simp [bt],by simp [bt]⟩
theorem eC{e:Int×Int}:∀(l m:List (Int×Int)),(bt e (l++m)).1=(bt e l).1+(bt e m).1/\(bt e (l++m)).2=(bt e l).2+(bt e m).2
 |[],m=>⟨by simp [bt],by simp [bt]⟩
 |f::l,m=>by
  obtain⟨a,b⟩:=eC (e:=e) l m
  obtain⟨c,d⟩:=c9 (e:=e) (f:=f) (l:=l++m)
  obtain⟨c',d'⟩:=c9 (e:=e) (f:=f) (l:=l)
  rw [List.cons_append,c,d,c',d',a,b]
  exact⟨by lia,by lia⟩
theorem vk{e:Int×Int}{l m:List cA}(h:l.Perm m):bt e l=bt e m:=by
 have key:(bt e l).1=(bt e m).1/\(bt e l).2=(bt e m).2:=by
  induction h with
  |nil=>exact⟨rfl,rfl⟩
  | @cons x l m _ ih=>
   obtain⟨a,b⟩:=c9 (e:=e) (f:=x) (l:=l)
   obtain⟨c,d⟩:=c9 (e:=e) (f:=x) (l:=m)
   rw [a,b,c,d,ih.1,ih.2];exact⟨rfl,rfl⟩
  | @swap x y l=>
   obtain⟨a,b⟩:=eC (e:=e) [y,x] l
   obtain⟨c,d⟩:=eC (e:=e) [x,y] l
   obtain⟨a',b'⟩:=c9 (e:=e) (f:=y) (l:=[x])
   obtain⟨c',d'⟩:=c9 (e:=e) (f:=x) (l:=[y])
   show(bt e ([y,x]++l)).1=(bt e ([x,y]++l)).1/\(bt e ([y,x]++l)).2=(bt e ([x,y]++l)).2
   rw [a,b,c,d,a',b',c',d']
   exact⟨by lia,by lia⟩
  |trans _ _ i1 i2=>exact⟨i1.1.trans i2.1,i1.2.trans i2.2⟩
 exact Prod.ext key.1 key.2
theorem jn:∀(es fs:List cA),es.Pairwise ba->(∀f∈es,0<f.1)->fs.Pairwise ba->(∀f∈fs,0<f.1)->(∀e:Int×Int,0<e.1->bt e es=bt e fs)->es=fs
 |[],[],_,_,_,_,_=>rfl
 |[],f::fs,_,_,h1,h2,h=>by
  have hf:=h2 f (mem_cons_self ..)
  have z:=h f hf
  have z2:bt f (f::fs)=(f.1+(bt f fs).1,f.2+(bt f fs).2):=by rw [bt,if_pos rfl]
  rw [z2,cF (List.pairwise_cons.mp h1).1] at z
  have:=congrArg Prod.fst z
  simp [bt] at this;lia
 |e::es,[],h1,h2,_,_,h=>by
  have hf:=h2 e (mem_cons_self ..)
  have z:=h e hf
  have z2:bt e (e::es)=(e.1+(bt e es).1,e.2+(bt e es).2):=by rw [bt,if_pos rfl]
  rw [z2,cF (List.pairwise_cons.mp h1).1] at z
  have:=congrArg Prod.fst z
  simp [bt] at this;lia
 |e::es,f::fs,h1,h2,h3,h4,h=>by
  have he:=h2 e (mem_cons_self ..)
  have hf:=h4 f (mem_cons_self ..)
  have p1:=List.pairwise_cons.mp h1
  have p3:=List.pairwise_cons.mp h3
  have ze:bt e (e::es)=e:=by
   rw [bt,if_pos rfl,cF p1.1];exact Prod.ext (Int.add_zero _) (Int.add_zero _)
  have zf:bt f (f::fs)=f:=by
   rw [bt,if_pos rfl,cF p3.1];exact Prod.ext (Int.add_zero _) (Int.add_zero _)
  rcases(by unfold ba;lia:ba e f\/e.2*f.1=f.2*e.1\/ba f e) with c|c|c
  ·have z:=h e he
   rw [ze,cF fun k hk=>?_] at z
   ·have:=congrArg Prod.fst z;simp at this;lia
   ·rcases List.mem_cons.mp hk with rfl|hk
    ·exact c
    ·exact eP he hf (h4 k (mem_cons_of_mem _ hk)) c (p3.1 k hk)
  ·have hef:e=f:=by
    have z:=h e he
    rw [ze,bt,if_pos c.symm,cF fun k hk=>jL he hf (h4 k (mem_cons_of_mem _ hk)) (by unfold aY;lia) (p3.1 k hk)] at z
    rw [z];exact Prod.ext (Int.add_zero _) (Int.add_zero _)
   subst hef
   refine congrArg (e::·) (jn es fs p1.2 (fun k hk=>h2 k (mem_cons_of_mem _ hk)) p3.2 (fun k hk=>h4 k (mem_cons_of_mem _ hk)) fun g hg=>?_)
   have z:=h g hg
   obtain⟨a,b⟩:=c9 (e:=g) (f:=e) (l:=es)
   obtain⟨a',b'⟩:=c9 (e:=g) (f:=e) (l:=fs)
   have z1:=congrArg Prod.fst z
   have z2:=congrArg Prod.snd z
   rw [a,a'] at z1
   rw [b,b'] at z2
   exact Prod.ext (by lia) (by lia)
  ·have z:=h f hf
   rw [zf,cF fun k hk=>?_] at z
   ·have:=congrArg Prod.fst z;simp at this;lia
   ·rcases List.mem_cons.mp hk with rfl|hk
    ·exact c
    ·exact eP hf he (h2 k (mem_cons_of_mem _ hk)) c (p1.1 k hk)
theorem lR{e c:Int×Int}(h:c.2*e.1=e.2*c.1):bt e [c]=c:=by
 rw [bt,if_pos h];exact Prod.ext (Int.add_zero _) (Int.add_zero _)
theorem nJ{e c:Int×Int}(h:¬c.2*e.1=e.2*c.1):bt e [c]=(0,0):=by
 rw [bt,if_neg h];rfl
theorem uo{e c d:Int×Int}(hc:0<c.1)(hd:0<d.1)(he:0<e.1)(h:c.2*d.1=d.2*c.1):(bt e [(c.1+d.1,c.2+d.2)]).1=(bt e [c]).1+(bt e [d]).1/\(bt e [(c.1+d.1,c.2+d.2)]).2=(bt e [c]).2+(bt e [d]).2:=by
 have i1:(c.2*e.1=e.2*c.1)↔(d.2*e.1=e.2*d.1):=ji hd he hc (by lia)
 have i2:((c.2+d.2)*e.1=e.2*(c.1+d.1))↔(c.2*e.1=e.2*c.1):=by
  have:=ji (c:=c) (d:=e) (e:=(c.1+d.1,c.2+d.2)) hc he (by show 0<c.1+d.1;lia) (by show(c.2+d.2)*c.1=c.2*(c.1+d.1);grind)
  exact this
 by_cases g:c.2*e.1=e.2*c.1
 ·rw [lR (i2.mpr g),lR g,lR (i1.mp g)]
  exact⟨rfl,rfl⟩
 ·rw [nJ (fun q=>g (i2.mp q)),nJ g,nJ (fun q=>g (i1.mpr q))]
  exact⟨rfl,rfl⟩
theorem gw:∀(ds acc:List cA),(∀f∈ds,0<f.1)->(∀f∈acc,0<f.1)->ds.Pairwise aY->acc.Pairwise ba->(∀c∈acc,∀d∈ds,aY c d)->
  (ds.foldl bu acc).Pairwise ba/\(∀f∈ds.foldl bu acc,0<f.1)/\∀e:Int×Int,0<e.1->bt e (ds.foldl bu acc)=bt e (acc++ds)
 |[],acc,_,h2,_,h4,_=>⟨h4,h2,fun e _=>by rw [List.append_nil];rfl⟩
 |d::ds,acc,h1,h2,h3,h4,h5=>by
  have hd:=h1 d (mem_cons_self ..)
  have p3:=List.pairwise_cons.mp h3
  have hcs:acc=[]\/∃acc0 c,acc=acc0++[c]:=by
   by_cases hne:acc=[]
   ·exact .inl hne
   ·exact .inr ⟨acc.dropLast,acc.getLast hne,(List.dropLast_concat_getLast hne).symm⟩
  rcases hcs with rfl|⟨acc0,c,rfl⟩
  ·have e0:bu [] d=[d]:=rfl
   obtain⟨a1,a2,a3⟩:=gw ds [d] (fun f hf=>h1 f (mem_cons_of_mem _ hf)) (fun f hf=>by rw [List.mem_singleton.mp hf];exact hd) p3.2 (pairwise_singleton ..) (fun c hc f hf=>by rw [List.mem_singleton.mp hc];exact p3.1 f hf)
   rw [foldl_cons,e0]
   exact⟨a1,a2,fun e he=>by rw [a3 e he];rfl⟩
  ·have hc:=h2 c (by simp)
   have hcd:aY c d:=h5 c (by simp) d (mem_cons_self ..)
   have pa:=List.pairwise_append.mp h4
   rw [foldl_cons,dj]
   by_cases g:c.2*d.1=d.2*c.1
   ·rw [if_pos g]
    have hn:0<c.1+d.1:=by lia
    obtain⟨a1,a2,a3⟩:=gw ds (acc0++[(c.1+d.1,c.2+d.2)]) (fun f hf=>h1 f (mem_cons_of_mem _ hf)) (fun f hf=>by
      rcases List.mem_append.mp hf with hf|hf
      ·exact h2 f (by simp [hf])
      ·rw [List.mem_singleton.mp hf];exact hn) p3.2 (List.pairwise_append.mpr ⟨pa.1,pairwise_singleton ..,fun x hx y hy=>by
       rw [List.mem_singleton.mp hy]
       refine jM (h2 x (by simp [hx])) hc hn (pa.2.2 x hx c (by simp)) ?_
       show c.2*(c.1+d.1)<=(c.2+d.2)*c.1
       grind⟩) (fun x hx f hf=>by
       rcases List.mem_append.mp hx with hx|hx
       ·exact h5 x (by simp [hx]) f (mem_cons_of_mem _ hf)
       ·rw [List.mem_singleton.mp hx]
        refine ct hd hn (h1 f (mem_cons_of_mem _ hf)) ?_ (p3.1 f hf)
        show(c.2+d.2)*d.1<=d.2*(c.1+d.1)
        grind)
    refine⟨a1,a2,fun e he=>?_⟩
    rw [a3 e he]
    obtain⟨j1,j2⟩:=uo hc hd he g
    obtain⟨k1,k2⟩:=eC (e:=e) (acc0++[(c.1+d.1,c.2+d.2)]) ds
    obtain⟨k3,k4⟩:=eC (e:=e) acc0 [(c.1+d.1,c.2+d.2)]
    obtain⟨k5,k6⟩:=eC (e:=e) (acc0++[c]) (d::ds)
    obtain⟨k7,k8⟩:=eC (e:=e) acc0 [c]
    obtain⟨k9,k10⟩:=c9 (e:=e) (f:=d) (l:=ds)
    exact Prod.ext (by rw [k1,k3,k5,k7,k9,j1];lia) (by rw [k2,k4,k6,k8,k10,j2];lia)
   ·rw [if_neg g]
    have hlt:ba c d:=by unfold aY at hcd;unfold ba;lia
    obtain⟨a1,a2,a3⟩:=gw ds ((acc0++[c])++[d]) (fun f hf=>h1 f (mem_cons_of_mem _ hf)) (fun f hf=>by
      rcases List.mem_append.mp hf with hf|hf
      ·exact h2 f hf
      ·rw [List.mem_singleton.mp hf];exact hd) p3.2 (List.pairwise_append.mpr ⟨h4,pairwise_singleton ..,fun x hx y hy=>by
       rw [List.mem_singleton.mp hy]
       rcases List.mem_append.mp hx with hx|hx
       ·exact eP (h2 x (by simp [hx])) hc hd (pa.2.2 x hx c (by simp)) hlt
       ·rw [List.mem_singleton.mp hx];exact hlt⟩) (fun x hx f hf=>by
       rcases List.mem_append.mp hx with hx|hx
       ·exact h5 x hx f (mem_cons_of_mem _ hf)
       ·rw [List.mem_singleton.mp hx];exact p3.1 f hf)
    refine⟨a1,a2,fun e he=>?_⟩
    rw [a3 e he,append_assoc];rfl
def fI(B:Nat)(v:Int)(h:Nat):Prop:=∃u:Int,v=u*(B:Int)^h/\u % (B:Int)≠0
theorem oV{B:Nat}(hB:B=2\/B=3){c d:Int}{h g:Nat}(hc:fI B c h)(hd:fI B d g):fI B (c*d) (h+g):=by
 obtain⟨u,e1,h1⟩:=hc
 obtain⟨u',e2,h2⟩:=hd
 refine⟨u*u',by rw [e1,e2,Int.pow_add];grind,?_⟩
 rw [Int.mul_emod]
 rcases hB with rfl|rfl
 ·have a1:u % ((2:Nat):Int)=1:=by have h1:u % 2≠0:=h1;show u % 2=1;lia
  have a2:u' % ((2:Nat):Int)=1:=by have h2:u' % 2≠0:=h2;show u' % 2=1;lia
  rw [a1,a2];decide
 ·have a1:u % ((3:Nat):Int)=1\/u % ((3:Nat):Int)=2:=by have h1:u % 3≠0:=h1;show u % 3=1\/u % 3=2;lia
  have a2:u' % ((3:Nat):Int)=1\/u' % ((3:Nat):Int)=2:=by have h2:u' % 3≠0:=h2;show u' % 3=1\/u' % 3=2;lia
  rcases a1 with a1|a1<;>rcases a2 with a2|a2<;>rw [a1,a2]<;>decide
theorem CG{B:Nat}(hB:B=2\/B=3)(h:Nat):0<(B:Int)^h:=Int.pow_pos (by lia)
theorem nF{B:Nat}(hB:B=2\/B=3){v:Int}{h:Nat}(hv:fI B v h):¬(B:Int)^(h+1)∣v:=by
 rintro⟨t,e⟩
 obtain⟨u,e1,h1⟩:=hv
 have:u*(B:Int)^h=((B:Int)*t)*(B:Int)^h:=by rw [<-e1,e,Int.pow_succ];grind
 have:=Int.eq_of_mul_eq_mul_right (Int.ne_of_gt (CG hB h)) this
 rw [this] at h1
 exact h1 (Int.mul_emod_right _ _)
theorem kv{B:Nat}{v:Int}{h n:Nat}(hv:fI B v h)(hn:n<=h):(B:Int)^n∣v:=by
 obtain⟨u,e1,h1⟩:=hv
 rw [e1]
 exact Int.dvd_trans ⟨(B:Int)^(h-n),by rw [<-Int.pow_add,Nat.add_sub_cancel' hn]⟩ (Int.dvd_mul_left _ _)
theorem AJ{B:Nat}{v r:Int}{h:Nat}(hv:fI B v h)(hr:(B:Int)^(h+1)∣r):fI B (v+r) h:=by
 obtain⟨u,e1,h1⟩:=hv
 obtain⟨t,e2⟩:=hr
 refine⟨u+(B:Int)*t,by rw [e1,e2,Int.pow_succ];grind,?_⟩
 rw [Int.add_mul_emod_self_left];exact h1
theorem AB{B:Nat}(hB:B=2\/B=3){v:Int}{h g:Nat}(h1:fI B v h)(h2:fI B v g):h=g:=by
 rcases(by lia:h<g\/h=g\/g<h) with q|q|q
 ·exact absurd (kv h2 q) (nF hB h1)
 ·exact q
 ·exact absurd (kv h1 q) (nF hB h2)
theorem F4{B:Nat}(hB:B=2\/B=3){v:Int}{h:Nat}(hv:fI B v h):v≠0:=fun e=>by
 subst e;exact nF hB hv (dvd_zero _)
def KB(B:Nat)(vals:List Int):Prop:=∀v∈vals,v≠0->∃h:Nat,ir B v=(h:Int)/\fI B v h
theorem dK{B:Nat}{X:Int×Int}:∀{vals:List Int} {k:Nat},X∈a8 B k vals↔∃(i:Nat) (v:Int),vals[i]? =some v/\v≠0/\X=(((k+i:Nat):Int),ir B v)
 |[],k=>by simp [a8]
 |v::l,k=>by
  have ih:=dK (B:=B) (X:=X) (vals:=l) (k:=k+1)
  have step:X∈a8 B (k+1) l↔∃(i:Nat) (w:Int),(v::l)[i+1]? =some w/\w≠0/\X=(((k+(i+1):Nat):Int),ir B w):=by
   rw [ih]
   exact⟨fun⟨i,w,a,b,c⟩=>⟨i,w,by simpa using a,b,by rw [c];congr 1;lia⟩,fun⟨i,w,a,b,c⟩=>⟨i,w,by simpa using a,b,by rw [c];congr 1;lia⟩⟩
  unfold a8
  by_cases hv:v=0
  ·rw [if_pos hv,step]
   refine⟨fun⟨i,w,a,b,c⟩=>⟨i+1,w,a,b,c⟩,fun⟨i,w,a,b,c⟩=>?_⟩
   cases i with
   |zero=>simp at a;exact absurd (a▸hv) b
   |succ i=>exact⟨i,w,a,b,c⟩
  ·rw [if_neg hv,List.mem_cons,step]
   refine⟨fun h=>?_,fun⟨i,w,a,b,c⟩=>?_⟩
   ·rcases h with h|⟨i,w,a,b,c⟩
    ·exact⟨0,v,rfl,hv,h⟩
    ·exact⟨i+1,w,a,b,c⟩
   ·cases i with
    |zero=>simp at a;subst a;exact .inl c
    |succ i=>exact .inr ⟨i,w,a,b,c⟩
noncomputable def tm(p q:List Int)(k t:Nat):Int:=if t<=k/\k-t<3 then p.getD t 0*q.getD (k-t) 0 else 0
theorem lX:∀(l:List Int) (a:Int),dR a l=a+dR 0 l
 |[],a=>by simp [dR]
 |b::l,a=>by
  show dR (a+b) l=a+dR (0+b) l
  rw [lX l (a+b),lX l (0+b)];lia
theorem cX(p q:List Int)(k i m:Nat):dR 0 (bA p q k i (m+1))=tm p q k i+dR 0 (bA p q k (i+1) m):=by
 show dR 0 (dN p q k i++bA p q k (i+1) m)=_
 unfold dN tm
 split
 ·show dR (0+_) (bA p q k (i+1) m)=_
  rw [lX];lia
 ·show dR 0 (bA p q k (i+1) m)=_
  lia
theorem kE{N:Int}{p q:List Int}{k:Nat}:∀(m i:Nat),(∀t,i<=t->t<i+m->N∣tm p q k t)->N∣dR 0 (bA p q k i m)
 |0,i,_=>dvd_zero _
 |m+1,i,h=>by
  rw [cX]
  exact Int.dvd_add (h i (Nat.le_refl _) (by lia)) (kE m (i+1) fun t h1 h2=>h t (by lia) (by lia))
theorem pz{N:Int}{p q:List Int}{k i0:Nat}:∀(m i:Nat),i<=i0->i0<i+m->(∀t,i<=t->t<i+m->t≠i0->N∣tm p q k t)->∃r,N∣r/\dR 0 (bA p q k i m)=tm p q k i0+r
 |0,i,h1,h2,_=>by lia
 |m+1,i,h1,h2,h=>by
  rw [cX]
  by_cases e:i=i0
  ·subst e
   exact⟨_,kE m (i+1) fun t a b=>h t (by lia) (by lia) (by lia),rfl⟩
  ·obtain⟨r,a,b⟩:=pz m (i+1) (by lia) (by lia) fun t a b c=>h t (by lia) (by lia) c
   exact⟨tm p q k i+r,Int.dvd_add (h i (Nat.le_refl _) (by lia) e) a,by rw [b];lia⟩
theorem fT{p q:List Int}:∀(m k i:Nat),i<m->(cP p q k m)[i]? =some (dR 0 (bA p q (k+i) 0 4))
 |0,k,i,h=>by lia
 |m+1,k,0,h=>rfl
 |m+1,k,i+1,h=>by
  show(cP p q (k+1) m)[i]? =_
  rw [fT m (k+1) i (by lia),show k+1+i=k+(i+1) by lia]
theorem jT{p q:List Int}:∀(m k:Nat),(cP p q k m).length=m
 |0,k=>rfl
 |m+1,k=>by show(cP p q (k+1) m).length+1=m+1;rw [jT]
theorem pH{p q:List Int}{k:Nat}{b:Int}(h:(cP p q 0 6)[k]? =some b):k<6/\b=dR 0 (bA p q k 0 4):=by
 have hk:k<6:=by
  have:=(List.getElem?_eq_some_iff.mp h).1
  rw [jT] at this;exact this
 rw [fT 6 0 k hk,zero_add] at h
 exact⟨hk,(Option.some.inj h).symm⟩
theorem nE{p q:List Int}(hp:p.length=4)(hq:q.length=3){k t:Nat}(h:tm p q k t≠0):∃c d,p[t]? =some c/\q[k-t]? =some d/\c≠0/\d≠0/\t<=k/\t<4/\tm p q k t=c*d:=by
 unfold tm at h⊢
 by_cases g:t<=k/\k-t<3
 ·rw [if_pos g] at h⊢
  have hc:p.getD t 0≠0:=fun e=>h (by rw [e,Int.zero_mul])
  have hd:q.getD (k-t) 0≠0:=fun e=>h (by rw [e,Int.mul_zero])
  have ht:t<p.length:=by
   rcases lt_or_ge t p.length with x|x
   ·exact x
   ·exact absurd (by simp [List.getD,List.getElem?_eq_none x]) hc
  have hk:k-t<q.length:=by lia
  refine⟨p[t],q[k-t],List.getElem?_eq_getElem ht,List.getElem?_eq_getElem hk,?_,?_,g.1,by lia,?_⟩
  ·simpa [List.getD,ht] using hc
  ·simpa [List.getD,hk] using hd
  ·simp [List.getD,ht,hk]
 ·rw [if_neg g] at h;exact absurd rfl h
theorem Ii{p q:List Int}(hq:q.length=3){i j:Nat}{c d:Int}(hc:p[i]? =some c)(hd:q[j]? =some d):tm p q (i+j) i=c*d:=by
 have hj:=(List.getElem?_eq_some_iff.mp hd).1
 unfold tm
 rw [if_pos ⟨by lia,by lia⟩,show i+j-i=j by lia]
 simp [List.getD,hc,hd]
section
section
variable{B:Nat}{p q:List Int}
theorem oS{e X Y:Int×Int}:ph e (X.1+Y.1,X.2+Y.2)=ph e X+ph e Y:=by unfold ph;simp only;grind
theorem ii{e P Q P' Q':Int×Int}(F:pG (a8 B 0 p) e P Q)(G:pG (a8 B 0 q) e P' Q'){X Y:Int×Int}(hX:X∈a8 B 0 p)(hY:Y∈a8 B 0 q):
  ph e P+ph e P'<=ph e X+ph e Y/\(ph e X+ph e Y=ph e P+ph e P'->(P.1<=X.1/\X.1<=Q.1)/\P'.1<=Y.1/\Y.1<=Q'.1):=by
 have a:=F.min X hX
 have b:=G.min Y hY
 exact⟨by lia,fun h=>⟨F.lo X hX (by lia),G.lo Y hY (by lia)⟩⟩
section
variable(hB:B=2\/B=3)(hp:p.length=4)(hq:q.length=3)(Vp:KB B p)(Vq:KB B q)(Vr:KB B (cP p q 0 6))
include hB hp hq Vp Vq Vr
theorem zm{e A A':Int×Int}(he:0<e.1)(hA:A∈a8 B 0 p)(hA':A'∈a8 B 0 q)(hmin:∀X∈a8 B 0 p,∀Y∈a8 B 0 q,ph e A+ph e A'<=ph e X+ph e Y)(hone:∀X∈a8 B 0 p,∀Y∈a8 B 0 q,ph e X+ph e Y=ph e A+ph e A'->X.1+Y.1=A.1+A'.1->X.1=A.1):
  (A.1+A'.1,A.2+A'.2)∈a8 B 0 (cP p q 0 6):=by
 refine gQ fun Q zQ=>?_
 obtain⟨i,c,hc,hc0,rfl⟩:=dK.mp hA
 obtain⟨j,d,hd,hd0,rfl⟩:=dK.mp hA'
 obtain⟨h,eh,vh⟩:=Vp c (mem_of_getElem? hc) hc0
 obtain⟨g,eg,vg⟩:=Vq d (mem_of_getElem? hd) hd0
 have hi:=(List.getElem?_eq_some_iff.mp hc).1
 have hj:=(List.getElem?_eq_some_iff.mp hd).1
 have hk:i+j<6:=by lia
 obtain⟨r,hr,es⟩:=pz (N:=(B:Int)^(h+g+1)) (p:=p) (q:=q) (k:=i+j) (i0:=i) 4 0 (zero_le _) (by lia) fun t _ ht hne=>by
  by_cases hz:tm p q (i+j) t=0
  ·rw [hz];exact dvd_zero _
  ·obtain⟨c',d',hc',hd',hc0',hd0',htk,_,eT⟩:=nE hp hq hz
   obtain⟨h',eh',vh'⟩:=Vp c' (mem_of_getElem? hc') hc0'
   obtain⟨g',eg',vg'⟩:=Vq d' (mem_of_getElem? hd') hd0'
   have mX:((((0+t:Nat):Int),ir B c'):Int×Int)∈a8 B 0 p:=dK.mpr ⟨t,c',hc',hc0',rfl⟩
   have mY:((((0+(i+j-t):Nat):Int),ir B d'):Int×Int)∈a8 B 0 q:=dK.mpr ⟨i+j-t,d',hd',hd0',rfl⟩
   have a:=hmin _ mX _ mY
   have b:=hone _ mX _ mY
   have hlt:h+g<h'+g':=by
    have e1:((0+t:Nat):Int)+((0+(i+j-t):Nat):Int)=((0+i:Nat):Int)+((0+j:Nat):Int):=by lia
    have ne:¬(ph e (((0+t:Nat):Int),ir B c')+ph e (((0+(i+j-t):Nat):Int),ir B d')=ph e (((0+i:Nat):Int),ir B c)+ph e (((0+j:Nat):Int),ir B d)):=fun q=>by
     have z:=b q e1
     simp only at z
     lia
    unfold ph at a ne
    simp only at a ne
    rw [eh,eg,eh',eg'] at a ne
    have k1:((h:Int)+g)*e.1<((h':Int)+g')*e.1:=by
     have e2:((0+t:Nat):Int)*e.2+((0+(i+j-t):Nat):Int)*e.2=((0+i:Nat):Int)*e.2+((0+j:Nat):Int)*e.2:=by rw [<-add_mul,<-add_mul,e1]
     rw [add_mul,add_mul]
     lia
    have:=Int.lt_of_mul_lt_mul_right k1 (by lia)
    lia
   rw [eT]
   exact kv (oV hB vh' vg') hlt
 rw [Ii hq hc hd] at es
 have hv:fI B (dR 0 (bA p q (i+j) 0 4)) (h+g):=by rw [es];exact AJ (oV hB vh vg) hr
 have hb:(cP p q 0 6)[i+j]? =some (dR 0 (bA p q (i+j) 0 4)):=by rw [fT 6 0 _ hk,zero_add]
 have hb0:=F4 hB hv
 obtain⟨h2,e2,v2⟩:=Vr _ (mem_of_getElem? hb) hb0
 refine zQ ?_
 have:=AB hB v2 hv
 refine dK.mpr ⟨i+j,_,hb,hb0,?_⟩
 rw [e2,this]
 refine Prod.ext ?_ ?_
 ·show((0+i:Nat):Int)+((0+j:Nat):Int)=((0+(i+j):Nat):Int);lia
 ·show ir B c+ir B d=((h+g:Nat):Int);rw [eh,eg];lia
theorem ub{e P Q P' Q':Int×Int}(he:0<e.1)(F:pG (a8 B 0 p) e P Q)(G:pG (a8 B 0 q) e P' Q'):
  pG (a8 B 0 (cP p q 0 6)) e (P.1+P'.1,P.2+P'.2) (Q.1+Q'.1,Q.2+Q'.2):=by
 have above:∀Z∈a8 B 0 (cP p q 0 6),∃X∈a8 B 0 p,∃Y∈a8 B 0 q,X.1+Y.1=Z.1/\ph e X+ph e Y<=ph e Z:=by
  intro Z hZ
  obtain⟨k,b,hb,hb0,rfl⟩:=dK.mp hZ
  obtain⟨hk,eb⟩:=pH hb
  obtain⟨h,eh,vh⟩:=Vr b (mem_of_getElem? hb) hb0
  apply Classical.byContradiction
  intro hno
  refine nF hB vh ?_
  rw [eb]
  refine kE 4 0 fun t _ ht=>?_
  by_cases hz:tm p q k t=0
  ·rw [hz];exact dvd_zero _
  ·obtain⟨c',d',hc',hd',hc0',hd0',htk,_,eT⟩:=nE hp hq hz
   obtain⟨h',eh',vh'⟩:=Vp c' (mem_of_getElem? hc') hc0'
   obtain⟨g',eg',vg'⟩:=Vq d' (mem_of_getElem? hd') hd0'
   have mX:((((0+t:Nat):Int),ir B c'):Int×Int)∈a8 B 0 p:=dK.mpr ⟨t,c',hc',hc0',rfl⟩
   have mY:((((0+(k-t):Nat):Int),ir B d'):Int×Int)∈a8 B 0 q:=dK.mpr ⟨k-t,d',hd',hd0',rfl⟩
   have hlt:h<h'+g':=by
    rcases lt_or_ge h (h'+g') with x|x
    ·exact x
    ·refine absurd ⟨_,mX,_,mY,?_,?_⟩ hno
     ·show((0+t:Nat):Int)+((0+(k-t):Nat):Int)=((0+k:Nat):Int);lia
     ·unfold ph
      simp only
      rw [eh,eh',eg']
      have e1:((0+t:Nat):Int)+((0+(k-t):Nat):Int)=((0+k:Nat):Int):=by lia
      have e2:((0+t:Nat):Int)*e.2+((0+(k-t):Nat):Int)*e.2=((0+k:Nat):Int)*e.2:=by rw [<-add_mul,e1]
      have e3:((h':Int)+g')*e.1<=(h:Int)*e.1:=mul_le_mul_of_nonneg_right (by lia) (by lia)
      rw [add_mul] at e3
      lia
   rw [eT]
   exact kv (oV hB vh' vg') hlt
 have hQ:=F.eq
 have hQ':=G.eq
 refine⟨?_,?_,?_,fun Z hZ=>?_,fun Z hZ hZ'=>?_⟩
 ·refine zm hB hp hq Vp Vq Vr he F.p G.p (fun X hX Y hY=>(ii F G hX hY).1) fun X hX Y hY h1 h2=>?_
  have:=(ii F G hX hY).2 h1
  lia
 ·refine zm hB hp hq Vp Vq Vr he F.q G.q (fun X hX Y hY=>by rw [hQ,hQ'];exact(ii F G hX hY).1) fun X hX Y hY h1 h2=>?_
  have:=(ii F G hX hY).2 (by rw [h1,hQ,hQ'])
  lia
 ·rw [oS,oS,hQ,hQ']
 ·rw [oS]
  obtain⟨X,hX,Y,hY,_,h⟩:=above Z hZ
  have:=(ii F G hX hY).1
  lia
 ·rw [oS] at hZ'
  obtain⟨X,hX,Y,hY,h1,h⟩:=above Z hZ
  have a:=ii F G hX hY
  have b:=a.2 (by have:=a.1;lia)
  show P.1+P'.1<=Z.1/\Z.1<=Q.1+Q'.1
  lia
def Oo(ps:List cA):Prop:=ps.Pairwise fun a b=>a.1<b.1
theorem qm(ap:Oo (a8 B 0 p))(aq:Oo (a8 B 0 q))(ar:Oo (a8 B 0 (cP p q 0 6)))(es1 es2 es3 ds:List cA)(h1:cM (a8 B 0 p) es1)(h2:cM (a8 B 0 q) es2)(h3:cM (a8 B 0 (cP p q 0 6)) es3)(hd:ds.Perm (es1++es2))(hs:ds.Pairwise aY):ds.foldl bu []=es3:=by
 refine gQ fun Q zQ=>?_
 obtain⟨p0,pl,ep,S1⟩:=h1
 obtain⟨q0,ql,eq,S2⟩:=h2
 obtain⟨r0,rl,er,S3⟩:=h3
 obtain⟨_,pos1,_,f1⟩:=iy S1 (by rw [<-ep];exact ap)
 obtain⟨_,pos2,_,f2⟩:=iy S2 (by rw [<-eq];exact aq)
 obtain⟨so3,pos3,_,f3⟩:=iy S3 (by rw [<-er];exact ar)
 have posd:∀f∈ds,0<f.1:=fun f hf=>by
  rcases List.mem_append.mp (hd.mem_iff.mp hf) with h|h
  ·exact pos1 f h
  ·exact pos2 f h
 obtain⟨m1,m2,m3⟩:=gw ds [] posd (fun f hf=>nomatch hf) hs List.Pairwise.nil (fun c hc=>nomatch hc)
 refine zQ ?_
 refine jn _ _ m1 m2 so3 pos3 fun e he=>?_
 rw [m3 e he,List.nil_append,vk hd]
 refine gQ fun Q zQ=>?_
 obtain⟨P,Q,F,a1,a2⟩:=f1 e he
 obtain⟨P',Q',G,b1,b2⟩:=f2 e he
 obtain⟨P3,Q3,K,c1,c2⟩:=f3 e he
 rw [<-ep] at F
 rw [<-eq] at G
 rw [<-er] at K
 obtain⟨u1,u2⟩:=qa he K (ub hB hp hq Vp Vq Vr he F G)
 subst u1 u2
 obtain⟨d1,d2⟩:=eC (e:=e) es1 es2
 refine zQ ?_
 refine Prod.ext ?_ ?_
 ·rw [d1];simp only at c1;lia
 ·rw [d2];simp only at c2;lia
end
end
end
section
open Builtin.Str (strSub)
noncomputable def bR(l:List Nat):Nat:=(l.reverse.takeWhile fun a=>(⟨[32]⟩:Array Nat).contains a).length
theorem Fs(l:List Nat):bR l<=l.length:=by
 unfold bR
 have:=(List.takeWhile_prefix (p:=fun a=>(⟨[32]⟩:Array Nat).contains a) (l:=l.reverse)).length_le
 rw [List.length_reverse] at this;exact this
theorem xf(l:List Nat):bR (l++[32])=bR l+1:=by
 unfold bR
 rw [List.reverse_append]
 show(List.takeWhile _ (32::l.reverse)).length=_
 rw [List.takeWhile_cons,if_pos (by simp)];rfl
theorem se(l:List Nat){c:Nat}(h:c≠32):bR (l++[c])=0:=by
 unfold bR
 rw [List.reverse_append]
 show(List.takeWhile _ (c::l.reverse)).length=_
 rw [List.takeWhile_cons,if_neg (by simpa using h)];rfl
theorem Ef(x:Str):x.length=(sx x ⟨⟨[32]⟩⟩).length+bR x.cps.toList:=by
 have hc:=Fs x.cps.toList
 have hl:x.cps.toList.length=x.length:=by show _=x.cps.size;simp
 have hi:stripHi (⟨[32]⟩:Array Nat).contains true x 0=x.length-bR x.cps.toList:=rfl
 have lo:stripLo (⟨[32]⟩:Array Nat).contains false x=0:=rfl
 unfold sx stripSame PySem.stripped
 show x.length=(if(stripLo (⟨[32]⟩:Array Nat).contains false x==0&&stripHi (⟨[32]⟩:Array Nat).contains true x (stripLo (⟨[32]⟩:Array Nat).contains false x)==x.length)=true then x else strSub x (stripLo (⟨[32]⟩:Array Nat).contains false x) (stripHi (⟨[32]⟩:Array Nat).contains true x (stripLo (⟨[32]⟩:Array Nat).contains false x))).length+_
 rw [lo,hi]
 split
 ·rename_i h
  have:=eq_of_beq (Bool.and_eq_true_iff.mp h).2
  lia
 ·show x.length=(strSub x 0 (x.length-bR x.cps.toList)).cps.size+_
  unfold strSub
  rw [Array.size_extract]
  show x.length=min (x.length-bR x.cps.toList) x.length-0+_
  lia
theorem CC(B:Nat)(v:Int):ir B v=(bR (jd (List.map sd (dp B 20 v.natAbs []))).cps.toList:Int):=by
 unfold ir
 have:=Ef (jd (List.map sd (dp B 20 v.natAbs [])))
 simp only [Int.ofNat_eq_natCast]
 lia
theorem tp{B:Nat}(hB:B=2\/B=3):∀(f L:Nat),L<2^f->L≠0->∃u,L=u*B^bR (((dp B f L []).map dk).flatten.drop 1)/\u % B≠0
 |0,L,h,h0=>by simp at h;exact absurd h h0
 |f+1,L,h,h0=>by
  have e:dp B (f+1) L []=dp B f (L/B) []++[L % B]:=by
   rw [dp,if_neg h0,i9]
  have hm:L % B<B:=mod_lt _ (by lia)
  have hlt:L/B<2^f:=by
   have h2:L/B<=L/2:=Nat.div_le_div_left (by lia) (by lia)
   have:2^(f+1)=2*2^f:=by rw [Nat.pow_succ,Nat.mul_comm]
   lia
  rw [e]
  by_cases hz:L/B=0
  ·rw [hz,jD]
   have hLB:L<B:=(Nat.div_eq_zero_iff.mp hz).resolve_left (by lia)
   have hL:L % B=L:=Nat.mod_eq_of_lt hLB
   refine⟨L,?_,by lia⟩
   rw [hL]
   have:L=1\/L=2:=by lia
   rcases this with rfl|rfl
   ·show 1=1*B^bR [49]
    rw [show bR [49]=0 from se [] (by decide)];simp
   ·show 2=2*B^bR [127]
    rw [show bR [127]=0 from se [] (by decide)];simp
  ·obtain⟨u,e1,h1⟩:=tp hB f (L/B) hlt hz
   obtain⟨d,l,hd⟩:∃d l,dp B f (L/B) []=d::l:=by
    cases hh:dp B f (L/B) [] with
    |nil=>exact absurd hh (nP hB f (L/B) hlt hz).1
    |cons d l=>exact⟨d,l,rfl⟩
   have hX:∃y Y,((dp B f (L/B) []).map dk).flatten=y::Y:=by
    rw [hd,map_cons,flatten_cons]
    unfold dk
    split
    ·exact⟨_,_,rfl⟩
    ·split
     ·exact⟨_,_,rfl⟩
     ·exact⟨_,_,rfl⟩
   obtain⟨y,Y,hY⟩:=hX
   have split1:(((dp B f (L/B) []++[L % B]).map dk).flatten.drop 1)=((dp B f (L/B) []).map dk).flatten.drop 1++dk (L % B):=by
    rw [map_append,List.flatten_append,hY]
    simp
   rw [split1]
   by_cases hz2:L % B=0
   ·refine⟨u,?_,h1⟩
    rw [hz2,show dk 0=[32] from rfl,xf,Nat.pow_succ,<-Nat.mul_assoc,<-e1]
    have:=Nat.div_add_mod L B
    rw [hz2,Nat.add_zero,Nat.mul_comm] at this
    exact this.symm
   ·refine⟨L,?_,hz2⟩
    have:∃c,dk (L % B)=[124]++[c]/\c≠32:=by
     have:L % B=1\/L % B=2:=by lia
     rcases this with q|q
     ·exact⟨49,by rw [q];rfl,by decide⟩
     ·exact⟨127,by rw [q];rfl,by decide⟩
    obtain⟨c,e2,hc⟩:=this
    rw [e2,<-append_assoc,se _ hc];simp
theorem yA{B:Nat}(hB:B=2\/B=3){v:Int}(hv:v≠0)(hs:v.natAbs<2^20):∃h:Nat,ir B v=(h:Int)/\fI B v h/\B^h<=v.natAbs:=by
 have hn:v.natAbs≠0:=by lia
 obtain⟨u,e,hu⟩:=tp hB 20 v.natAbs hs hn
 have hD:=Dm hB hs hn
 rw [<-oA hD] at e
 refine⟨_,CC B v,?_,?_⟩
 ·have e':(v.natAbs:Int)=(u:Int)*(B:Int)^bR (qY B v).cps.toList:=by
   conv=>lhs;rw [e]
   rw [Int.natCast_mul,Int.natCast_pow]
  rcases Int.natAbs_eq v with q|q
  ·exact⟨u,by rw [<-e'];exact q,by
    rcases hB with rfl|rfl
    ·show(u:Int) % 2≠0;lia
    ·show(u:Int) % 3≠0;lia⟩
  ·exact⟨-u,by rw [Int.neg_mul,<-e'];exact q,by
    rcases hB with rfl|rfl
    ·show(-u:Int) % 2≠0;lia
    ·show(-u:Int) % 3≠0;lia⟩
 ·have hu0:1<=u:=by
   rcases Nat.eq_zero_or_pos u with q|q
   ·rw [q] at hu;simp at hu
   ·exact q
  conv=>rhs;rw [e]
  exact Nat.le_mul_of_pos_left _ hu0
end
theorem oO{ps:List (Int×Int)}(h:fa ps):ps.Pairwise fun a b=>a.1<b.1:=h.imp fun{a b} x=>by have:=x.1;simp only at this;lia
theorem iR{q:Int×Int}{l es:List cA}(h:eH q l es):fa (q::l)->cb es/\es.length<=l.length/\(l≠[]->es≠[]):=by
 induction h with
 |nil q=>intro _;exact⟨(fun f hf=>nomatch hf),Nat.le_refl _,fun h=>absurd rfl h⟩
 | @cons q l j f q' l' es hl hb hd h ih=>
  intro hs
  obtain⟨pre,hpre,hf,_,_⟩:=iT hb hd
  have hs2:=List.pairwise_cons.mp hs
  have hq'l:q'∈l:=by rw [hpre];simp
  obtain⟨i1,i2,_⟩:=ih (by
   have:=hs2.2
   rw [hpre] at this
   exact(List.pairwise_append.mp this).2.1)
  refine⟨fun g hg=>?_,?_,fun _=>by simp⟩
  ·rcases List.mem_cons.mp hg with rfl|hg
   ·rw [hf];exact hs2.1 q' hq'l
   ·exact i1 g hg
  ·rw [hpre];simp;lia
theorem rL{q:Int×Int}{l es:List cA}(h:eH q l es):(q::l).Pairwise (fun a b=>a.1<b.1)->∀ps:List cA,
  (∀X∈ps,X∈q::l\/(X.1<q.1/\∃f0:Int×Int,0<f0.1/\(∀Y∈l,ba f0 (dq Y q))/\ph f0 q<=ph f0 X))->
  il ps q.1 q.2 es/\∃z,(q::l).getLast? =some z/\gJ q.1 es=z.1/\gU q.2 es=z.2:=by
 induction h with
 |nil q=>intro _ ps _;exact⟨trivial,q,rfl,rfl,rfl⟩
 | @cons q l j f q' l' es hl hb hd h ih=>
  intro hs ps hps
  obtain⟨pre,hpre,hf,hle,hlt⟩:=iT hb hd
  have hs2:=List.pairwise_cons.mp hs
  have hq'l:q'∈l:=by rw [hpre];simp
  have hqq':q.1<q'.1:=hs2.1 q' hq'l
  have hf0:0<f.1:=by rw [hf];show 0<q'.1-q.1;lia
  have hpos:∀X∈l,0<(dq X q).1:=fun X hX=>by have:=hs2.1 X hX;show 0<X.1-q.1;lia
  have hs':(q'::l').Pairwise (fun a b=>a.1<b.1):=by
   have:=hs2.2
   rw [hpre] at this
   exact(List.pairwise_append.mp this).2.1
  have hprelt:∀X∈pre,X.1<q'.1:=fun X hX=>by
   have:=hs2.2
   rw [hpre] at this
   exact(List.pairwise_append.mp this).2.2 X hX q' (mem_cons_self ..)
  have hlt':∀X∈l',ba f (dq X q'):=fun X hX=>qs hf (hlt X hX)
  have phq:ph f q'=ph f q:=by rw [hf];unfold ph dq;simp only;grind
  have hin:∀X∈l,ph f q<=ph f X:=fun X hX=>by
   have:=hle X hX
   unfold aY dq at this
   unfold ph
   simp only at this
   grind
  have hbelow:∀X∈ps,ph f q<=ph f X:=fun X hX=>by
   rcases hps X hX with h|⟨h1,f0,p0,h2,h3⟩
   ·rcases List.mem_cons.mp h with rfl|h
    ·exact Int.le_refl _
    ·exact hin X h
   ·have c:ba f0 f:=by rw [hf];exact h2 q' hq'l
    have a1: -(q.1-X.1)*f0.2<=(X.2-q.2)*f0.1:=by
     unfold ph at h3
     grind
    unfold ba at c
    have e1:(-(q.1-X.1)*f0.2)*f.1<=((X.2-q.2)*f0.1)*f.1:=mul_le_mul_of_nonneg_right a1 (by lia)
    have e2:(q.1-X.1)*(f0.2*f.1)<(q.1-X.1)*(f.2*f0.1):=Int.mul_lt_mul_of_pos_left c (by lia)
    have:(-(q.1-X.1)*f.2)*f0.1<((X.2-q.2)*f.1)*f0.1:=by grind
    have:=Int.lt_of_mul_lt_mul_right this (by lia)
    unfold ph
    grind
  obtain⟨i1,z,i2,i3,i4⟩:=ih hs' ps fun X hX=>by
   rcases hps X hX with h|⟨h1,_⟩
   ·rcases List.mem_cons.mp h with rfl|h
    ·exact .inr ⟨hqq',f,hf0,hlt',by rw [phq];exact Int.le_refl _⟩
    ·rw [hpre] at h
     rcases List.mem_append.mp h with h|h
     ·exact .inr ⟨hprelt X h,f,hf0,hlt',by rw [phq];exact hbelow X hX⟩
     ·exact .inl h
   ·exact .inr ⟨by lia,f,hf0,hlt',by rw [phq];exact hbelow X hX⟩
  have x1:q.1+f.1=q'.1:=by rw [hf];show q.1+(q'.1-q.1)=q'.1;lia
  have x2:q.2+f.2=q'.2:=by rw [hf];show q.2+(q'.2-q.2)=q'.2;lia
  refine⟨⟨fun X hX hlt=>?_,by rw [x1,x2];exact i1⟩,z,?_,?_,?_⟩
  ·have:=hbelow X hX
   unfold ph at this
   grind
  ·rw [<-i2,hpre,<-List.cons_append,List.getLast?_append]
   cases hh:(q'::l').getLast? with
   |none=>simp at hh
   |some y=>simp
  ·show gJ (q.1+f.1) es=z.1;rw [x1];exact i3
  ·show gU (q.2+f.2) es=z.2;rw [x2];exact i4
theorem yn{es:List (Int×Int)}(h:cb es):og es:=fun e he=>by
 obtain⟨h1,h2,h3,h4⟩:=h e he
 exact⟨intBits_le_iff.mpr (by omega),intBits_le_iff.mpr (by omega)⟩
theorem yx{ps es:List (Int×Int)}(hok:fa ps)(h2:2<=ps.length)(h:cM ps es):jB ps es:=by
 refine gQ fun Q zQ=>?_
 obtain⟨q0,ql,rfl,S⟩:=h
 obtain⟨b1,z,b2,b3,b4⟩:=rL S (oO hok) (q0::ql) fun X hX=>.inl hX
 obtain⟨c1,c2,c3⟩:=iR S hok
 refine zQ ?_
 exact⟨q0,z,rfl,b2,b1,b3,b4,yn c1,c3 fun e=>by rw [e] at h2;simp at h2⟩
theorem yt{B:Nat}:∀(vals:List Int) (k:Nat),k+vals.length<=6->(∀v∈vals,v≠0->0<=ir B v/\ir B v<=10)->fa (a8 B k vals)/\(∀X∈a8 B k vals,(k:Int)<=X.1/\X.1<k+vals.length/\0<=X.2/\X.2<=10)/\(a8 B k vals).length<=vals.length
 |[],k,_,_=>⟨List.Pairwise.nil,(fun X hX=>nomatch hX),Nat.le_refl _⟩
 |v::l,k,hk,hv=>by
  rw [length_cons] at hk
  obtain⟨a,b,c⟩:=yt (B:=B) l (k+1) (by lia) fun x hx=>hv x (mem_cons_of_mem _ hx)
  unfold a8
  by_cases h0:v=0
  ·rw [if_pos h0]
   exact⟨a,fun X hX=>by have:=b X hX;rw [length_cons];lia,by rw [length_cons];lia⟩
  ·rw [if_neg h0]
   have hh:=hv v (mem_cons_self ..) h0
   refine⟨List.pairwise_cons.mpr ⟨fun X hX=>?_,a⟩,fun X hX=>?_,by rw [length_cons,length_cons];lia⟩
   ·have:=b X hX
    refine⟨?_,?_,?_,?_⟩<;>simp only [Int.ofNat_eq_natCast]<;>lia
   ·rcases List.mem_cons.mp hX with rfl|hX
    ·rw [length_cons];simp only [Int.ofNat_eq_natCast];lia
    ·have:=b X hX;rw [length_cons];lia
theorem FT{B:Nat}{vals:List Int}{n:Nat}{v w:Int}(h0:vals[0]? =some v)(hv:v≠0)(hn:vals[n]? =some w)(hw:w≠0)(n0:n≠0):2<=(a8 B 0 vals).length:=by
 have m1:(((0+0:Nat):Int),ir B v)∈a8 B 0 vals:=dK.mpr ⟨0,v,h0,hv,rfl⟩
 have m2:(((0+n:Nat):Int),ir B w)∈a8 B 0 vals:=dK.mpr ⟨n,w,hn,hw,rfl⟩
 rcases hh:a8 B 0 vals with _|⟨a,_|⟨b,r⟩⟩
 ·rw [hh] at m1;cases m1
 ·rw [hh] at m1 m2
  have e:=(List.mem_singleton.mp m1).trans (List.mem_singleton.mp m2).symm
  have:=congrArg Prod.fst e
  simp only at this
  lia
 ·simp
theorem jJ{B:Nat}(hB:B=2\/B=3){vals:List Int}{n:Nat}{v w:Int}(hl:vals.length<=6)(hs:∀v∈vals,v.natAbs<2^20/\v.natAbs<B^11)(h0:vals[0]? =some v)(hv:v≠0)(hn:vals[n]? =some w)(hw:w≠0)(n0:n≠0):dL B vals/\KB B vals:=by
 have H:∀v∈vals,v≠0->0<=ir B v/\ir B v<=10:=fun v hv h0=>by
  obtain⟨h,e,_,hb⟩:=yA hB h0 (hs v hv).1
  have:h<=10:=by
   rcases lt_or_ge 10 h with q|q
   ·have h1:B^11<=B^h:=Nat.pow_le_pow_right (by lia) q
    have:=(hs v hv).2
    lia
   ·exact q
  rw [e];lia
 obtain⟨a,b,c⟩:=yt (B:=B) vals 0 (by lia) H
 have h2:=FT (B:=B) h0 hv hn hw n0
 refine⟨⟨fun v hv=>(hs v hv).1,⟨v,h0,hv⟩,h2,by lia,a,fun es h=>yx a h2 h⟩,fun v hv h0=>?_⟩
 obtain⟨h,e,x,_⟩:=yA hB h0 (hs v hv).1
 exact⟨h,e,x⟩
theorem zb{B:Nat}(hB:B=2\/B=3)(q:Nat):qg B q≠0/\(qg B q).natAbs<=(1+B)*B^3:=by
 unfold qg
 have a:q % 4=0\/q % 4=1\/q % 4=2\/q % 4=3:=by lia
 have b:q/4 % 2=0\/q/4 % 2=1:=by lia
 have c:q/8 % 2=0\/q/8 % 2≠0:=by lia
 rcases hB with rfl|rfl<;>rcases a with a|a|a|a<;>rcases b with b|b<;>rcases c with c|c<;>rw [a,b]<;>first|rw [if_pos c]|rw [if_neg c]
 all_goals decide
theorem gf{B:Nat}(hB:B=2\/B=3)(i q:Nat):(cZ B i q).natAbs<=(1+B)*B^3/\(¬(i=1\/i=2\/i=5)->cZ B i q≠0):=by
 unfold cZ
 split
 ·rename_i h
  exact⟨zero_le _,fun g=>absurd h.1 g⟩
 ·exact⟨(zb hB q).2,fun _=>(zb hB q).1⟩
theorem mV{a b:Int}{M:Nat}(ha:a.natAbs<=M)(hb:b.natAbs<=M):(a*b).natAbs<=M*M:=by
 rw [Int.natAbs_mul];exact Nat.mul_le_mul ha hb
theorem mI{N:Nat}:∀(l:List Int) (a:Int),(∀b∈l,b.natAbs<=N)->a.natAbs+N*l.length<=2^62->dI a l
 |[],a,_,_=>trivial
 |b::l,a,h,hN=>by
  have hb:=h b (mem_cons_self ..)
  rw [length_cons,Nat.mul_add,Nat.mul_one] at hN
  have h1:N*l.length+N=N*l.length+N:=rfl
  refine⟨⟨?_,?_⟩,⟨?_,?_⟩,mI (N:=N) l (a+b) (fun x hx=>h x (mem_cons_of_mem _ hx)) ?_⟩<;>omega
theorem lK{p q:List Int}{M k:Nat}(hp:∀c∈p,c.natAbs<=M)(hq:∀d∈q,d.natAbs<=M):∀(m i:Nat),(∀x∈bA p q k i m,x.natAbs<=M*M)/\(bA p q k i m).length<=m
 |0,i=>⟨(fun x hx=>nomatch hx),Nat.le_refl _⟩
 |m+1,i=>by
  obtain⟨a,b⟩:=lK (k:=k) hp hq m (i+1)
  have g:∀(l:List Int) (j:Nat),(∀c∈l,c.natAbs<=M)->(l.getD j 0).natAbs<=M:=fun l j h=>by
   rw [getD_eq_getElem?_getD]
   cases e:l[j]? with
   |none=>exact zero_le _
   |some c=>exact h c (mem_of_getElem? e)
  have h1:(∀x∈dN p q k i,x.natAbs<=M*M)/\(dN p q k i).length<=1:=by
   unfold dN
   split
   ·exact⟨fun x hx=>by rw [List.mem_singleton.mp hx];exact mV (g p i hp) (g q _ hq),Nat.le_refl _⟩
   ·exact⟨(fun x hx=>nomatch hx),zero_le _⟩
  show(∀x∈dN p q k i++bA p q k (i+1) m,x.natAbs<=M*M)/\(dN p q k i++bA p q k (i+1) m).length<=m+1
  refine⟨fun x hx=>?_,by rw [List.length_append];lia⟩
  rcases List.mem_append.mp hx with hx|hx
  ·exact h1.1 x hx
  ·exact a x hx
theorem w9{p q:List Int}{M k t:Nat}(hp:∀c∈p,c.natAbs<=M)(hq:∀d∈q,d.natAbs<=M)(lp:p.length=4)(lq:q.length=3):(tm p q k t).natAbs<=M*M:=by
 by_cases h:tm p q k t=0
 ·rw [h];exact zero_le _
 ·obtain⟨c,d,hc,hd,_,_,_,_,e⟩:=nE lp lq h
  rw [e];exact mV (hp c (mem_of_getElem? hc)) (hq d (mem_of_getElem? hd))
theorem dG{a b:Int}{m n:Nat}(ha:a.natAbs<=m)(hb:b.natAbs<=n):(a+b).natAbs<=m+n:=Nat.le_trans (Int.natAbs_add_le a b) (Nat.add_le_add ha hb)
theorem r8{p q:List Int}{M k:Nat}(hp:∀c∈p,c.natAbs<=M)(hq:∀d∈q,d.natAbs<=M)(lp:p.length=4)(lq:q.length=3):(dR 0 (bA p q k 0 4)).natAbs<=3*(M*M):=by
 rw [cX,cX,cX,cX]
 have a:=fun t=>w9 (k:=k) (t:=t) hp hq lp lq
 have h3:∀N,0+(N+(N+(N+0)))=3*N/\N+(N+(N+(0+0)))=3*N:=fun N=>by omega
 by_cases h:k<3
 ·have z:tm p q k 3=0:=if_neg fun x=>absurd x.1 (Nat.not_le.mpr h)
  exact Nat.le_trans (dG (a 0) (dG (a 1) (dG (a 2) (dG (n:=0) (by rw [z];exact Nat.le_refl _) (Nat.le_refl _))))) (le_of_eq (h3 _).2)
 ·have z:tm p q k 0=0:=if_neg fun x=>absurd x.2 h
  exact Nat.le_trans (dG (m:=0) (by rw [z];exact Nat.le_refl _) (dG (a 1) (dG (a 2) (dG (n:=0) (a 3) (Nat.le_refl _))))) (le_of_eq (h3 _).1)
theorem oJ(B:Nat):∀(vals:List Int) (k:Nat),(a8 B k vals).length<=vals.length
 |[],k=>Nat.le_refl _
 |v::l,k=>by
  have:=oJ B l (k+1)
  unfold a8
  split
  ·rw [length_cons];lia
  ·rw [length_cons,length_cons];lia
theorem Ia{B:Nat}(hB:B=2\/B=3)(ds:List Nat)(h7:ds.length=7):ng B ((e8 B 0 ds).take 4) ((e8 B 0 ds).drop 4):=by
 refine Eh h7 fun d0 d1 d2 d3 d4 d5 d6 ex=>?_
 subst ex
 have n0:=gf hB 0 d0
 have n1:=gf hB 1 d1
 have n2:=gf hB 2 d2
 have n3:=gf hB 3 d3
 have n4:=gf hB 4 d4
 have n5:=gf hB 5 d5
 have n6:=gf hB 6 d6
 have z0:=n0.2 (by lia)
 have z3:=n3.2 (by lia)
 have z4:=n4.2 (by lia)
 have z6:=n6.2 (by lia)
 show ng B [cZ B 0 d0,cZ B 1 d1,cZ B 2 d2,cZ B 3 d3] [cZ B 4 d4,cZ B 5 d5,cZ B 6 d6]
 generalize cZ B 0 d0=c0 at*
 generalize cZ B 1 d1=c1 at*
 generalize cZ B 2 d2=c2 at*
 generalize cZ B 3 d3=c3 at*
 generalize cZ B 4 d4=e0 at*
 generalize cZ B 5 d5=e1 at*
 generalize cZ B 6 d6=e2 at*
 have hp:∀c∈[c0,c1,c2,c3],c.natAbs<=(1+B)*B^3:=fun c hc=>by
  simp only [List.mem_cons,List.not_mem_nil,or_false] at hc
  rcases hc with rfl|rfl|rfl|rfl
  ·exact n0.1
  ·exact n1.1
  ·exact n2.1
  ·exact n3.1
 have hq:∀c∈[e0,e1,e2],c.natAbs<=(1+B)*B^3:=fun c hc=>by
  simp only [List.mem_cons,List.not_mem_nil,or_false] at hc
  rcases hc with rfl|rfl|rfl
  ·exact n4.1
  ·exact n5.1
  ·exact n6.1
 have bd:3*(((1+B)*B^3)*((1+B)*B^3))<2^20/\3*(((1+B)*B^3)*((1+B)*B^3))<B^11/\(1+B)*B^3<2^20/\(1+B)*B^3<B^11:=by
  rcases hB with rfl|rfl<;>decide
 obtain⟨P1,V1⟩:=jJ hB (vals:=[c0,c1,c2,c3]) (n:=3) (by simp) (fun v hv=>by have:=hp v hv;lia) rfl z0 rfl z3 (by decide)
 obtain⟨P2,V2⟩:=jJ hB (vals:=[e0,e1,e2]) (n:=2) (by simp) (fun v hv=>by have:=hq v hv;lia) rfl z4 rfl z6 (by decide)
 have b0:(cP [c0,c1,c2,c3] [e0,e1,e2] 0 6)[0]? =some (c0*e0):=by
  rw [fT 6 0 0 (by decide),cX,cX,cX,cX]
  unfold tm
  simp [bA,dR]
 have b5:(cP [c0,c1,c2,c3] [e0,e1,e2] 0 6)[5]? =some (c3*e2):=by
  rw [fT 6 0 5 (by decide),cX,cX,cX,cX]
  unfold tm
  simp [bA,dR]
 obtain⟨P3,V3⟩:=jJ hB (vals:=cP [c0,c1,c2,c3] [e0,e1,e2] 0 6) (n:=5) (by rw [jT];exact Nat.le_refl _) (fun v hv=>by
  obtain⟨k,hk⟩:=List.mem_iff_getElem?.mp hv
  obtain⟨_,rfl⟩:=pH hk
  have:=r8 (k:=k) hp hq rfl rfl
  lia) b0 (Int.mul_ne_zero z0 z4) b5 (Int.mul_ne_zero z3 z6) (by decide)
 refine⟨P1,P2,P3,fun a ha=>intBits_le_iff.mpr ?_,fun k=>?_,fun es1 es2 h1 h2=>?_,fun es1 es2 es3 ds h1 h2 h3 hd hs=>qm hB rfl rfl V1 V2 V3 (oO P1.ok) (oO P2.ok) (oO P3.ok) es1 es2 es3 ds h1 h2 h3 hd hs⟩
 ·have:=hp a ha;lia
 ·obtain⟨a,b⟩:=lK (k:=k) hp hq 4 0
  refine mI _ _ a ?_
  have:((1+B)*B^3)*((1+B)*B^3)*(bA [c0,c1,c2,c3] [e0,e1,e2] k 0 4).length<=((1+B)*B^3)*((1+B)*B^3)*4:=Nat.mul_le_mul_left _ b
  simp only [Int.natAbs_zero]
  lia
 ·obtain⟨q0,ql,eq,S1⟩:=h1
  obtain⟨r0,rl',er,S2⟩:=h2
  obtain⟨g1,g2,g3⟩:=iR S1 (by rw [<-eq];exact P1.ok)
  obtain⟨k1,k2,k3⟩:=iR S2 (by rw [<-er];exact P2.ok)
  have l1:(a8 B 0 [c0,c1,c2,c3]).length<=4:=(oJ _ _ _)
  have l2:(a8 B 0 [e0,e1,e2]).length<=3:=(oJ _ _ _)
  have t1:=P1.two
  have t2:=P2.two
  rw [eq,length_cons] at l1 t1
  rw [er,length_cons] at l2 t2
  have e1':=List.length_pos_iff.mpr (g3 (fun e=>by rw [e] at t1;simp at t1))
  have e2':=List.length_pos_iff.mpr (k3 (fun e=>by rw [e] at t2;simp at t2))
  refine⟨fun d hd=>?_,by rw [List.length_append];lia,by rw [List.length_append];lia⟩
  rcases List.mem_append.mp hd with hd|hd
  ·exact g1 d hd
  ·exact k1 d hd
section
open PyProof.Rows PySem.Calls
noncomputable abbrev Γ0:Ctx:=⟨Y7,none,none,[],none⟩
theorem mi{c:ClaimW}{tree:List Value->Sem Fin}{w:World}{s:Shared}{free:Addr->Prop}{gens:Prop}{kept:Heap->Prop}(hz:s.asleep)(hgens:s.gens= #[])
  (spec:∀args,c.pre args=true->WData.layableAll args=true->∀ord:List DictEntry->List DictEntry,(∀l,(ord l).Perm l)->
   ∃vs s₁,layAllW c.records (classAt s.heap) w.params ord args s=some (vs,s₁)/\
    ∃r s',Runs (model c.prog w) Γ0 default (tree vs) [] s₁ (.ret r) s'/\c.Ends s args vs s₁ r s'/\s'.os=s.os/\AllBare s'.gens/\kept s'.heap):
  c.CallFrom (fun vs=>⟨tree vs,Y7,default,[]⟩) w free gens kept s:=by
 intro args hpre hlay ord hord
 refine gQ fun Q zQ=>?_
 obtain⟨vs,s₁,hlaid,r,s',hrun,hends,hos,hbare,hkept⟩:=spec args hpre hlay ord hord
 have hal:=layAllW_rest _ _ _ hlaid
 have hwp:=(Sem.wp_iff_runs (model c.prog w) Γ0 (tree vs) (fun r s'=>(c.Ends s args vs s₁ r s'/\s'.os=s.os/\kept s'.heap)/\leftWithCleanup s'.gens=false) default s₁).mpr ⟨r,s',hrun,⟨hends,hos,hkept⟩,leftWithCleanup_false_of_bare hbare⟩
 obtain⟨n,r',s₃,s₂,hs,hn,hfo,hE,hO,hK⟩:=wp_halts_full (M:=model c.prog w) (c:=.builtin "claim.caller" {}) (R:=fun r s'=>c.Ends s args vs s₁ r s'/\s'.os=s.os/\kept s'.heap) (Shared.asleep_of_life hal.2.2.2 hz) hwp
 obtain⟨eh,_,_,eo,_⟩:=Shared.forget_eq hfo
 refine zQ ?_
 have hcase:=hE.congr eh
 have hkp:kept s₂.heap:=by first|exact eh▸hK|(rw [eh];exact hK)|(rw [<-eh] at hK;exact hK)
 rw [<-eo] at hO
 have hlife:s₂.heap.life=s.heap.life:=(runN_life _ _ _ hn).trans hal.2.2.2
 refine⟨vs,s₁,hlaid,n,_,s₂,hs,?_,(fun _ i x hx=>by rw [hgens] at hx;simp at hx),hkp,by rw [hlife],Shared.rest_eq hO⟩
 rcases hcase with⟨v,rfl,d1,d2,d3,d4,d5⟩|⟨e,ob,cls,rfl,d1,d2,d3,d4,d5⟩
 ·exact .inl ⟨v,rfl,d1,d2,d3,fun b o y _=>d4 b o y,d5⟩
 ·exact .inr ⟨e,ob,cls,rfl,d1,d2,d3,d4,fun b o y _=>d5 b o y⟩
abbrev rl:OpenLaw:=PySem.Challenge.rw_tr0049_01
noncomputable abbrev kw(vs:List Value):Sem Fin:=do match<-nsGet mainNs rl.name with
 |some f=>do ret (<-PySem.call f vs)
 |none=>unsupported "claim.caller:no-such-global"
noncomputable abbrev M0:DefRec:={name:="law",params:=Do (mu 17),body:=Iu (mu 17),scope:=Dj (mu 17),pos:=⟨152,0,179,67⟩}
theorem D7:defOf qv "law"=some (M0,[]):=by rfl
theorem K7(call:∀(w:World) (s:Shared) (ns:List Int) (its:List Value),(∀b o,(dD w.params).get? b=some o->s.heap.get? b=some o)->s.heap.objs.size=245->
   s.heap.get? 244=some {cls:=.type "list",data:=.seq its.toArray}->IntsAre its ns->ns.length<=63->s.gens= #[]->677<=s.toks->
   ∃s',Runs (jA w) Γ0 default (kw [.ref 244]) [] s G5 s'/\OldK s.heap s'.heap/\s'.os=s.os/\AllBare s'.gens):rl.Holds:=by
 have hw:rl.row.toRowW.promised:=by w_witness2
 have ok:(chainsOk qv&&opensWell rl.row.prog&&(frees rl.row.toRowW&&rl.row.toRowW.within.isEmpty))=true:=by decide+kernel
 have hb:rl.row.prog.bare:=⟨rfl,rfl,rfl,rfl,rfl,by decide+kernel⟩
 have k0:rl.wellSaid=true:=by decide+kernel
 have k1:rl.row.wellSaid=true:=by decide+kernel
 refine⟨k0,k1,hw,?_⟩
 refine gQ fun Q zQ=>?_
 obtain⟨ok,k5⟩:=Bool.and_eq_true_iff.mp ok
 obtain⟨hch,o1⟩:=Bool.and_eq_true_iff.mp ok
 obtain⟨k5,k6⟩:=Bool.and_eq_true_iff.mp k5
 obtain⟨hsame,hu,ha,hap,hm⟩:=frees_parts k5
 refine zQ ?_
 have lb:=fun w=>LeftO.behind (XP:=fun _ _=>True) left (fun _ _=>trivial) hch w
 refine⟨⟨hb,o1,by first|rfl|(show rl.row.toRowW.makers.map _=[];rw [hm];rfl)⟩,hw.witness,fun w=>⟨(lb w).1,fun s' hs'=>?_⟩⟩
 refine gQ fun Q zQ=>?_
 obtain⟨s₀,hf,hg0,s,hT,hz,hgens,hg,G,y⟩:=(lb w).2 s' hs'
 refine zQ ?_
 refine⟨s₀,hf,hg0,s,hT,fun n hn=>?_,fun x hx=>(nomatch hx),fun x hx=>(nomatch hx),?_⟩
 ·obtain rfl:n=rl.row.name:=by split at hn<;>simp_all
  exact pinned_of_view hg G D7 (by rfl) (by rfl)
 have hgens:s.gens= #[]:=Array.eq_empty_of_size_eq_zero (beq_iff_eq.mp hgens)
 have y1:s.heap=dD w.params:=congrArg Prod.fst y
 have y2:s.toks=677:=congrArg Prod.snd y
 refine mi (c:=rl.row.toRowW.claim) (tree:=kw) hz hgens fun args hpre hlay ord hord=>?_
 obtain⟨⟨vs,s₁⟩,hlaid⟩:=Option.isSome_iff_exists.mp (layAllW_isSome (P:=w.params) (ord:=ord) G.has args rl.row.toRowW.args s (pre_splitW hpre).1)
 have keeps:=layAllW_keeps _ _ _ hlaid
 have hal:=layAllW_rest _ _ _ hlaid
 obtain⟨as,hrd,hin,hold⟩:=reads_layAllW hord _ _ _ hlaid hlay s₁.heap (fun _ _ e=>e)
 have L:Laid rl.row.toRowW.records w s s₁ args vs as:=⟨⟨ord,hord,hlaid⟩,hrd,hin,hold,keeps,hal.1.trans hgens,hal.2.2.1⟩
 have hi:=ident_freeW hu ha hap
 have hwi:rl.row.toRowW.claim.within=[]:=List.isEmpty_iff.mp k6
 refine⟨vs,s₁,hlaid,?_⟩
 have key:∃s',Runs (jA w) Γ0 default (kw vs) [] s₁ G5 s'/\OldK s₁.heap s'.heap/\s'.os=s₁.os/\AllBare s'.gens:=by
  have hwl:=L.well
  have hlo:=L.low G.low
  wrow_args hpre hlay hrd hwl hlo
  all_lens
  rename Heap.IsList _ _ _=>hL
  rename IntsAre _ _=>hI
  rename ¬(_:Int)<_=>hc
  obtain⟨ea,es⟩:=script_at L
  have et:=script_toks L y2
  have eo:=script_obj L hL
  rw [y1] at ea es
  have e244:(dD w.params).objs.size=244:=by rfl
  rw [e244] at ea es
  subst ea
  refine call w s₁ _ _ (fun b o e=>keeps b o (by rw [y1];exact e)) es eo hI (by lia) L.gens et
 obtain⟨s₂,hr,hK,hO,hB⟩:=key
 have g:GoodWG rl.row.toRowW.claim (classAt s.heap) (ExcName.means s.heap) args s₁ (.ok (.ret (.bool true))) s₂:=
  ⟨.inl ⟨_,_,[],rfl,fun _=>rfl,ReadsW.bool true,by wrow_post,fun _=>⟨nodup_nil,fun _ hm=>(nomatch hm)⟩⟩,hK,hO,hB⟩
 have z:=g.laid (c:=rl.row.toRowW.claim) hsame hwi hi L
 exact⟨_,s₂,hr,z.1,z.2.1,z.2.2,fun q=>by cases q⟩
theorem A6(w:World):W2 w (w.params.followText "special-get-raises") (w.params.followText "comprehension-iter-twice")=w:=by
 unfold W2
 rw [World.withFollow_self,World.withFollow_self]
section
variable(P:Params)
include P
theorem xj:(dD P).get? 140=some (bD []):=by rfl
theorem zp:(dD P).get? 147=some (bD []):=by rfl
theorem HW:∃o vs,(dD P).get? 144=some o/\o.cls=.type "code"/\o.data=.fields vs/\vs[11]? =some (.ref 140):=⟨_,_,rfl,rfl,rfl,rfl⟩
theorem Hp:∃o vs,(dD P).get? 151=some o/\o.cls=.type "code"/\o.data=.fields vs/\vs[11]? =some (.ref 147):=⟨_,_,rfl,rfl,rfl,rfl⟩
theorem uf:(eG P).get 140=none/\(eG P).get 147=none/\(eG P).get 244=none:=⟨rfl,rfl,rfl⟩
theorem yG:∃o,(dD P).get? 3=some o/\∀(M:Model) (p:Pos) (s s':Shared) (k:Option Value->Sem Fin) (e:End),s.heap.get? 3=some o->Runs M Γ0 p (k (some (.ref 243))) [] s e s'->Runs M Γ0 p (nsGet mainNs rl.name>>=k) [] s e s':=by
 refine⟨_,rfl,fun M p s s' k e hs h=>?_⟩
 refine Runs.load hs ?_
 exact h
end
theorem EI(w:World)(s:Shared)(ns:List Int)(its:List Value)(hk:∀b o,(dD w.params).get? b=some o->s.heap.get? b=some o)(hsz:s.heap.objs.size=245)
  (hl:s.heap.get? 244=some {cls:=.type "list",data:=.seq its.toArray}) (hI:IntsAre its ns) (h63:ns.length<=63) (hg:s.gens= #[]) (ht:677<=s.toks):
  ∃s',Runs (model pw w) Γ0 default (kw [.ref 244]) [] s (.ret (.ok (.ret (.bool true)))) s'/\OldK s.heap s'.heap/\s'.os=s.os/\AllBare s'.gens:=by
 have hv:aj its.toArray ns:=oT hI
 have hlen:its.toArray.size<=63:=by have:=hv.1;lia
 obtain⟨W,hW⟩:∃W:WW,w=Vw W:=⟨⟨w,_,_⟩,(A6 w).symm⟩
 subst hW
 obtain⟨bn1,bn2,bn3⟩:=uf (pW W)
 have hP:az (pW W) [(140,bD []),(147,bD []),(244,ab its.toArray 0)] s:=by
  refine⟨⟨fun a o e=>hk a o (so e).2.2.2,(fun j x e=>by rw [hg] at e;simp at e),by lia,ht⟩,⟨hk _ _ (xj _),hk _ _ (zp _),hl,trivial⟩,(by show [140,147,244].Nodup;decide),fun a ha=>?_⟩
  simp only [map_cons,map_nil,List.mem_cons,List.not_mem_nil,or_false] at ha
  rcases ha with rfl|rfl|rfl
  ·exact bn1
  ·exact bn2
  ·exact bn3
 refine LF W default default its.toArray s ns hv hlen (fun B ds hB h7=>Ia hB ds h7) _ rfl hP fun n tb s' r1 r2 _ _ R rdy has K=>?_
 obtain⟨o3,e3,main⟩:=yG (pW W)
 refine⟨s',?_,?_,K.os,fun y hy=>?_⟩
 ·refine main (model pw (Vw W)) default s s' _ _ (hk _ _ e3) ?_
  exact Runs.call R Runs.done
 ·have keep:∀b o,s.heap.get? b=some o->b≠140->b≠147->s'.heap.get? b=some o:=fun b o e h1 h2=>by
   by_cases q:b=244
   ·subst q
    rw [show s.heap.get? 244=some (ab its.toArray 0) from hl] at e
    cases e;exact has.2.2.1
   ·exact K.keep b o e (by simp;exact⟨h1,h2,q⟩)
  refine⟨fun b o e=>?_,fun b o e=>?_⟩
  ·by_cases q1:b=140
   ·subst q1
    rw [hk _ _ (xj _)] at e
    cases e
    obtain⟨o,vs,a1,a2,a3,a4⟩:=HW (pW W)
    exact .inr (.inl ⟨⟨144,o,vs,hk _ _ a1,a2,a3,a4⟩,rfl, #[],⟨cE r1⟩,rfl,by rw [Array.empty_append];exact has.1⟩)
   ·by_cases q2:b=147
    ·subst q2
     rw [hk _ _ (zp _)] at e
     cases e
     obtain⟨o,vs,a1,a2,a3,a4⟩:=Hp (pW W)
     exact .inr (.inl ⟨⟨151,o,vs,hk _ _ a1,a2,a3,a4⟩,rfl, #[],⟨cD r2⟩,rfl,by rw [Array.empty_append];exact has.2.1⟩)
    ·exact .inl (keep b o e q1 q2)
  ·by_cases q1:b=140
   ·subst q1;exact⟨_,has.1⟩
   ·by_cases q2:b=147
    ·subst q2;exact⟨_,has.2.1⟩
    ·exact⟨_,keep b o e q1 q2⟩
 ·obtain⟨j,hj⟩:=List.mem_iff_getElem?.mp (Array.mem_toList_iff.mpr hy)
  rw [rdy.gens j y (by simpa using hj)];rfl
theorem done:rl.Holds:=K7 EI
end
end
end Mine
theorem PySem.Challenge.cw_tr0049_01_holds : PySem.Challenge.rw_tr0049_01.Holds := by
  exact Mine.done
