import PyProof.Rows.All
import Wide.All
import OpenK.AllK
import Wide.FinOn
import Lean
import PySem.Challenge.RW_im0060_02
set_option Elab.async false
set_option maxRecDepth 100000
set_option autoImplicit false
set_option genInjectivity false
set_option genSizeOf false
set_option linter.all false
namespace Mine
open PySem PySem.W PySem.Calls PyProof.Rows PySem.SeqAt
noncomputable abbrev Nm:=Fin 184
theorem L {a b:Nat} (h:Nat.ble a b=true):a<=b:=Nat.le_of_ble_eq_true h
noncomputable def EZ:List Nat:=[1068959721505206858819,513980308879299,448083713914820,1157061,58413374657803973,3565269104453,2220488392065177419009714760,19582557649073068274103874004218422578707130952,1059527485209823719632,36729176356849050818767274670163,58413373311187539,245248724,95,76295154878212855130875912999137014111,529404374068053937003840279051596383,119035453484689906267359,81004954270178760750687,697410323391069058655,12627152105421994366367327,98630384216267371869791,771057640337422448223,8775755450101036639,939910164897913665119,8352390834288096863,1068462553476523128415,8423850637597898335,7767468687173908063,1021909468891517056607,7989288598043883615,2327263831481534736005074138530360002851125408609,31379191905,3465715398753,120316714050356114110561,17513836086727747049159137,1058809711066642708961,67732291979527064133583164614693960289,167697032387998334811946475596942563572845884497805210711960140385,167697032387998334811946475600229048849072937422480183133978049121,624720127835863585814634604914614396020648431217377360481,297889770429636446208649489731886080364500854878946,38129890614994153088235365604511881733060265053369058,228325346,99,240677987,4479185100425797988183817959083408389219,4689063693563540207767683839814969782042206180184978531,1068959721505206858851,31110755427,1003756016285699830883,1881187,28955210851,137888533074495772914787,7346961567845282915,27354986083,8421071042368845795,1783779,3809077835747,31371130851,16742964720396267771706083,1915619,205336804,7343549811154301156,1012394501969662521572,236548836,244905188,4494405369511484639996017943148261,7983667717168854757,1652581,3568802805605,32297273626065612125600514652005,3982206220645,3500603406821,957058016376549603813,31366934758,3982736847078,456806792770790,217609830,1914855,211317480,938756632654307293673,232421354,3463318239210,211530987,2241766182530881068631650540,136797652631475044806892,31920550124,4134051024157548057488360404972268,1815276,213628140,30815418348,31096353005,1978605,1815789,110,3978714310254,213610734,65187255259362030,213727214,4013084488559,1012394501969689540719,57371757568079983,1653103,31110885616,3944365207792,245149936,27321202288,252322450205008960056265832048,1849328,62416317172217840,274472984344883046399189252080,15393527543770942380242928,136772197156496051108208,17498570590891805742037360,297893313701199317193263570274423523939716488231280,114,27329802482,1962226,18181748683449490125075417193932736680104423666,18181748683495901034414203150293744153482096882,297889770430398135594238129410841738250188650049778,15400540173645566409830642,142044911589449141602151696827598851395891698,142044911589811726831360962111669222281654770,2327263831487485434329985386022201079425681404402,120316720105952070152690,211317490,7772605219985715954,447630578299634,161537475385401447890179304293206021329662706,31352222450,27075965810,243136498,15218,4016016503283,1310133065531262222666684342146571740467634462436953933332918771,21465220145762482051956255512955703650972451712780284318459147104755,5762026157948405100591976723087917683022078174743023770060318912393709924851,21465220145688970016564399095430667632107945162055665716318485393907,1546732119195417226617804405924743005356756939746561242650031031974316229732522045939,79964176362990533255131543407655976556853681489597507088883,38129890614993465114782161319090251059392270791651827,38129890615090795846123814965044650604201204931932659,1310133065532774048885014226125298159910724742503619341210923507,4880625998740124953646103566133138768065021671122973171,1310133065532774048868299524448938810342514901780219877532676595,4880625998723410251969744216564928927341622207444726259,21465220145670292756457884094259391759555080255992897033394525614579,21465220145725085087133130246274714404332831105266628475105419506163,351686166867561320627329315794837158445433701614674892635464978615022067,18181748683443978110320027382824395785467900403,624720127837650310857727681570205572879324865747683684851,32297273626065612125427642184179,215692019,122623139136478230819571,297889770429798546069812019510449131918786905715443,245199987,232387827,213824755,29219124979,3497149691891,36729176356849050818767274670195,232290419,245102707,27356854899,236550771,236714611,3771463416435,1800947,15400540173618528170668276,2239819544968299487509999860,228225268,36380094513928741673621134209780,245248756,29741479924,940048689554387564532,1068029186710500472820,8271963864807700468,29196367860,232569588,213662964,31352026997,3501677164661,1994999,27340305527]
noncomputable def Xh:Nat->Nat->List Nat
 |0,_=>[]
 |k+1,n=>match Nat.beq n 0 with|true=>[]|false=>(n % 128)::Xh k (n / 128)
noncomputable def EY (n:Nm):List Nat:=Xh 64 (EZ.getD n.1 0)
namespace Nm
noncomputable abbrev lM:Nm:=⟨0,L rfl⟩
noncomputable abbrev rm:Nm:=⟨1,L rfl⟩
noncomputable abbrev rn:Nm:=⟨2,L rfl⟩
noncomputable abbrev cT:Nm:=⟨3,L rfl⟩
noncomputable abbrev o7:Nm:=⟨4,L rfl⟩
noncomputable abbrev u6:Nm:=⟨5,L rfl⟩
noncomputable abbrev d8:Nm:=⟨6,L rfl⟩
noncomputable abbrev dJ:Nm:=⟨7,L rfl⟩
noncomputable abbrev lN:Nm:=⟨8,L rfl⟩
noncomputable abbrev iE:Nm:=⟨9,L rfl⟩
noncomputable abbrev o8:Nm:=⟨10,L rfl⟩
noncomputable abbrev xg:Nm:=⟨11,L rfl⟩
noncomputable abbrev k__:Nm:=⟨12,L rfl⟩
noncomputable abbrev a7:Nm:=⟨13,L rfl⟩
noncomputable abbrev gR:Nm:=⟨14,L rfl⟩
noncomputable abbrev fk:Nm:=⟨15,L rfl⟩
noncomputable abbrev dK:Nm:=⟨16,L rfl⟩
noncomputable abbrev Jr:Nm:=⟨17,L rfl⟩
noncomputable abbrev eO:Nm:=⟨18,L rfl⟩
noncomputable abbrev cR:Nm:=⟨19,L rfl⟩
noncomputable abbrev fU:Nm:=⟨20,L rfl⟩
noncomputable abbrev Lq:Nm:=⟨21,L rfl⟩
noncomputable abbrev fV:Nm:=⟨22,L rfl⟩
noncomputable abbrev Lr:Nm:=⟨23,L rfl⟩
noncomputable abbrev fW:Nm:=⟨24,L rfl⟩
noncomputable abbrev Ls:Nm:=⟨25,L rfl⟩
noncomputable abbrev bz:Nm:=⟨26,L rfl⟩
noncomputable abbrev bx:Nm:=⟨27,L rfl⟩
noncomputable abbrev gu:Nm:=⟨28,L rfl⟩
noncomputable abbrev e8:Nm:=⟨29,L rfl⟩
noncomputable abbrev X6:Nm:=⟨30,L rfl⟩
noncomputable abbrev ak:Nm:=⟨31,L rfl⟩
noncomputable abbrev cm:Nm:=⟨32,L rfl⟩
noncomputable abbrev aW:Nm:=⟨33,L rfl⟩
noncomputable abbrev fX:Nm:=⟨34,L rfl⟩
noncomputable abbrev cU:Nm:=⟨35,L rfl⟩
noncomputable abbrev dy:Nm:=⟨36,L rfl⟩
noncomputable abbrev dz:Nm:=⟨37,L rfl⟩
noncomputable abbrev bP:Nm:=⟨38,L rfl⟩
noncomputable abbrev b0:Nm:=⟨39,L rfl⟩
noncomputable abbrev eH:Nm:=⟨40,L rfl⟩
noncomputable abbrev o9:Nm:=⟨41,L rfl⟩
noncomputable abbrev pd:Nm:=⟨42,L rfl⟩
noncomputable abbrev bK:Nm:=⟨43,L rfl⟩
noncomputable abbrev gb:Nm:=⟨44,L rfl⟩
noncomputable abbrev gH:Nm:=⟨45,L rfl⟩
noncomputable abbrev cI:Nm:=⟨46,L rfl⟩
noncomputable abbrev gX:Nm:=⟨47,L rfl⟩
noncomputable abbrev c8:Nm:=⟨48,L rfl⟩
noncomputable abbrev nB:Nm:=⟨49,L rfl⟩
noncomputable abbrev bC:Nm:=⟨50,L rfl⟩
noncomputable abbrev az:Nm:=⟨51,L rfl⟩
noncomputable abbrev aH:Nm:=⟨52,L rfl⟩
noncomputable abbrev aP:Nm:=⟨53,L rfl⟩
noncomputable abbrev dF:Nm:=⟨54,L rfl⟩
noncomputable abbrev y0:Nm:=⟨55,L rfl⟩
noncomputable abbrev di:Nm:=⟨56,L rfl⟩
noncomputable abbrev n6:Nm:=⟨57,L rfl⟩
noncomputable abbrev aB:Nm:=⟨58,L rfl⟩
noncomputable abbrev fI:Nm:=⟨59,L rfl⟩
noncomputable abbrev af:Nm:=⟨60,L rfl⟩
noncomputable abbrev bU:Nm:=⟨61,L rfl⟩
noncomputable abbrev c9:Nm:=⟨62,L rfl⟩
noncomputable abbrev bL:Nm:=⟨63,L rfl⟩
noncomputable abbrev D6:Nm:=⟨64,L rfl⟩
noncomputable abbrev b4:Nm:=⟨65,L rfl⟩
noncomputable abbrev iF:Nm:=⟨66,L rfl⟩
noncomputable abbrev cV:Nm:=⟨67,L rfl⟩
noncomputable abbrev fY:Nm:=⟨68,L rfl⟩
noncomputable abbrev iG:Nm:=⟨69,L rfl⟩
noncomputable abbrev d9:Nm:=⟨70,L rfl⟩
noncomputable abbrev j0:Nm:=⟨71,L rfl⟩
noncomputable abbrev fZ:Nm:=⟨72,L rfl⟩
noncomputable abbrev dx:Nm:=⟨73,L rfl⟩
noncomputable abbrev eP:Nm:=⟨74,L rfl⟩
noncomputable abbrev Qx:Nm:=⟨75,L rfl⟩
noncomputable abbrev gI:Nm:=⟨76,L rfl⟩
noncomputable abbrev e9:Nm:=⟨77,L rfl⟩
noncomputable abbrev cJ:Nm:=⟨78,L rfl⟩
noncomputable abbrev f5:Nm:=⟨79,L rfl⟩
noncomputable abbrev gJ:Nm:=⟨80,L rfl⟩
noncomputable abbrev a8:Nm:=⟨81,L rfl⟩
noncomputable abbrev xh:Nm:=⟨82,L rfl⟩
noncomputable abbrev ee:Nm:=⟨83,L rfl⟩
noncomputable abbrev gq:Nm:=⟨84,L rfl⟩
noncomputable abbrev lP:Nm:=⟨85,L rfl⟩
noncomputable abbrev cn:Nm:=⟨86,L rfl⟩
noncomputable abbrev ba:Nm:=⟨87,L rfl⟩
noncomputable abbrev dD:Nm:=⟨88,L rfl⟩
noncomputable abbrev eW:Nm:=⟨89,L rfl⟩
noncomputable abbrev a6:Nm:=⟨90,L rfl⟩
noncomputable abbrev rp:Nm:=⟨91,L rfl⟩
noncomputable abbrev pg:Nm:=⟨92,L rfl⟩
noncomputable abbrev xi:Nm:=⟨93,L rfl⟩
noncomputable abbrev pj:Nm:=⟨94,L rfl⟩
noncomputable abbrev aO:Nm:=⟨95,L rfl⟩
noncomputable abbrev eQ:Nm:=⟨96,L rfl⟩
noncomputable abbrev dM:Nm:=⟨97,L rfl⟩
noncomputable abbrev gv:Nm:=⟨98,L rfl⟩
noncomputable abbrev lQ:Nm:=⟨99,L rfl⟩
noncomputable abbrev dj:Nm:=⟨100,L rfl⟩
noncomputable abbrev hW:Nm:=⟨101,L rfl⟩
noncomputable abbrev dS:Nm:=⟨102,L rfl⟩
noncomputable abbrev gw:Nm:=⟨103,L rfl⟩
noncomputable abbrev sI:Nm:=⟨104,L rfl⟩
noncomputable abbrev ah:Nm:=⟨105,L rfl⟩
noncomputable abbrev mR:Nm:=⟨106,L rfl⟩
noncomputable abbrev D7:Nm:=⟨107,L rfl⟩
noncomputable abbrev dk:Nm:=⟨108,L rfl⟩
noncomputable abbrev eX:Nm:=⟨109,L rfl⟩
noncomputable abbrev hY:Nm:=⟨110,L rfl⟩
noncomputable abbrev bS:Nm:=⟨111,L rfl⟩
noncomputable abbrev bM:Nm:=⟨112,L rfl⟩
noncomputable abbrev eR:Nm:=⟨113,L rfl⟩
noncomputable abbrev Qy:Nm:=⟨114,L rfl⟩
noncomputable abbrev X7:Nm:=⟨115,L rfl⟩
noncomputable abbrev y3:Nm:=⟨116,L rfl⟩
noncomputable abbrev iR:Nm:=⟨117,L rfl⟩
noncomputable abbrev iS:Nm:=⟨118,L rfl⟩
noncomputable abbrev ia:Nm:=⟨119,L rfl⟩
noncomputable abbrev pk:Nm:=⟨120,L rfl⟩
noncomputable abbrev jf:Nm:=⟨121,L rfl⟩
noncomputable abbrev jg:Nm:=⟨122,L rfl⟩
noncomputable abbrev iz:Nm:=⟨123,L rfl⟩
noncomputable abbrev qH:Nm:=⟨124,L rfl⟩
noncomputable abbrev D8:Nm:=⟨125,L rfl⟩
noncomputable abbrev gx:Nm:=⟨126,L rfl⟩
noncomputable abbrev jh:Nm:=⟨127,L rfl⟩
noncomputable abbrev a9:Nm:=⟨128,L rfl⟩
noncomputable abbrev y5:Nm:=⟨129,L rfl⟩
noncomputable abbrev n7:Nm:=⟨130,L rfl⟩
noncomputable abbrev bh:Nm:=⟨131,L rfl⟩
noncomputable abbrev fq:Nm:=⟨132,L rfl⟩
noncomputable abbrev cW:Nm:=⟨133,L rfl⟩
noncomputable abbrev dG:Nm:=⟨134,L rfl⟩
noncomputable abbrev dm:Nm:=⟨135,L rfl⟩
noncomputable abbrev cX:Nm:=⟨136,L rfl⟩
noncomputable abbrev dn:Nm:=⟨137,L rfl⟩
noncomputable abbrev bj:Nm:=⟨138,L rfl⟩
noncomputable abbrev aQ:Nm:=⟨139,L rfl⟩
noncomputable abbrev eI:Nm:=⟨140,L rfl⟩
noncomputable abbrev eJ:Nm:=⟨141,L rfl⟩
noncomputable abbrev dH:Nm:=⟨142,L rfl⟩
noncomputable abbrev eh:Nm:=⟨143,L rfl⟩
noncomputable abbrev cK:Nm:=⟨144,L rfl⟩
noncomputable abbrev ej:Nm:=⟨145,L rfl⟩
noncomputable abbrev dq:Nm:=⟨146,L rfl⟩
noncomputable abbrev du:Nm:=⟨147,L rfl⟩
noncomputable abbrev bJ:Nm:=⟨148,L rfl⟩
noncomputable abbrev aV:Nm:=⟨149,L rfl⟩
noncomputable abbrev dY:Nm:=⟨150,L rfl⟩
noncomputable abbrev bF:Nm:=⟨151,L rfl⟩
noncomputable abbrev ae:Nm:=⟨152,L rfl⟩
noncomputable abbrev bT:Nm:=⟨153,L rfl⟩
noncomputable abbrev b5:Nm:=⟨154,L rfl⟩
noncomputable abbrev cL:Nm:=⟨155,L rfl⟩
noncomputable abbrev f6:Nm:=⟨156,L rfl⟩
noncomputable abbrev b8:Nm:=⟨157,L rfl⟩
noncomputable abbrev bc:Nm:=⟨158,L rfl⟩
noncomputable abbrev gy:Nm:=⟨159,L rfl⟩
noncomputable abbrev aI:Nm:=⟨160,L rfl⟩
noncomputable abbrev fE:Nm:=⟨161,L rfl⟩
noncomputable abbrev dv:Nm:=⟨162,L rfl⟩
noncomputable abbrev aC:Nm:=⟨163,L rfl⟩
noncomputable abbrev eB:Nm:=⟨164,L rfl⟩
noncomputable abbrev aZ:Nm:=⟨165,L rfl⟩
noncomputable abbrev aE:Nm:=⟨166,L rfl⟩
noncomputable abbrev u7:Nm:=⟨167,L rfl⟩
noncomputable abbrev j5:Nm:=⟨168,L rfl⟩
noncomputable abbrev gK:Nm:=⟨169,L rfl⟩
noncomputable abbrev ib:Nm:=⟨170,L rfl⟩
noncomputable abbrev aF:Nm:=⟨171,L rfl⟩
noncomputable abbrev aj:Nm:=⟨172,L rfl⟩
noncomputable abbrev aD:Nm:=⟨173,L rfl⟩
noncomputable abbrev ai:Nm:=⟨174,L rfl⟩
noncomputable abbrev ag:Nm:=⟨175,L rfl⟩
noncomputable abbrev aN:Nm:=⟨176,L rfl⟩
noncomputable abbrev dI:Nm:=⟨177,L rfl⟩
noncomputable abbrev dc:Nm:=⟨178,L rfl⟩
noncomputable abbrev aJ:Nm:=⟨179,L rfl⟩
noncomputable abbrev d5:Nm:=⟨180,L rfl⟩
noncomputable abbrev So:Nm:=⟨181,L rfl⟩
noncomputable abbrev aam:Nm:=⟨182,L rfl⟩
noncomputable abbrev iH:Nm:=⟨183,L rfl⟩
end Nm
noncomputable def bY (n:Nm):Str:=⟨(EY n).toArray⟩
theorem A9:(List.range 184).all (λi=>(List.range 184).all λj=>i==j||!(Xh 64 (EZ.getD i 0)==Xh 64 (EZ.getD j 0)))=true:=by decide +kernel
theorem J4 {a b:Nm} (h:EY a=EY b):a=b:=by
 have h1:=List.all_eq_true.mp A9 a.1 (List.mem_range.mpr a.2)
 have h2:=List.all_eq_true.mp h1 b.1 (List.mem_range.mpr b.2)
 unfold EY at h
 simp only [h,beq_self_eq_true,Bool.not_true,Bool.or_false,beq_iff_eq]at h2
 exact Fin.ext h2
theorem jB {a b:Nm} (h:bY a=bY b):a=b:=by
 apply J4
 have:=congrArg (λs=>s.cps.toList) h
 simpa [bY]using this
theorem OG {p:Nm->Bool} (h:(List.finRange 184).all p=true) (a:Nm):p a=true:=List.all_eq_true.mp h a (List.mem_finRange a)
noncomputable def u_ (n:Nat):Str:=⟨(Xh 64 n).toArray⟩
noncomputable def q_ (l:List Nat):Str:=⟨l.toArray⟩
noncomputable def en (P:Params) (x i:Nat) (v:Value):DictEntry:=⟨PyData.keyHash P (u_ x),.str (u_ x) i,v⟩
noncomputable def us (x i:Nat):Value:=.str (u_ x) i
noncomputable def i0 (x:Int):Value:=.int x 0
noncomputable def rf (a:Nat):Value:=.ref a
noncomputable def cO (l:List Value):Obj:=⟨.type "code",none,.fields (.mk l),.mk []⟩
noncomputable def tO (l:List Value):Obj:=⟨.type "tuple",none,.seq (.mk l) 0,.mk []⟩
noncomputable def lO (l:List Value):Obj:=⟨.type "list",none,.seq (.mk l) 0,.mk []⟩
noncomputable def dO (n:Nat) (l:List DictEntry):Obj:=⟨.type "dict",none,.dict (.mk l) n,.mk []⟩
noncomputable def dw:Nat:=2357460733860917196365705647
noncomputable def iA:Nat:=9765811225669184462998389703302629259880
noncomputable def xu:Nat:=152988731634681420106107942258317835175164520
noncomputable def J7:Nat:=53902074141372383
noncomputable def Pj:Nat:=974506813453563593559503084
noncomputable def Tn:Nat:=421105403244511
noncomputable def Tz:Nat:=1058809711066642708961
noncomputable def TN:Nat:=119035453484689906267359
noncomputable def T3:Nat:=19582557649073068274103874004218422578707130952
noncomputable def E0:Nat:=2220488392065177419009714760
noncomputable def E1:Nat:=771057640337422448223
noncomputable def E2:Nat:=1068462553476523128415
noncomputable def E3:Nat:=1021909468891517056607
noncomputable def E4:Nat:=7767468687173908063
noncomputable def E5:Nat:=939910164897913665119
noncomputable def OH:Nat:=30344074158132277796980072755167
noncomputable def OI:Nat:=133454983862861831018029446609853876543483871
noncomputable def OJ:Nat:=113039831549272488013791
noncomputable def OK:Nat:=4479185100425797988183817959083408389219
noncomputable def OL:Nat:=4494405369511484639996017943148261
noncomputable def OM:Nat:=32297273626065612125427642184179
noncomputable def ON:Nat:=624720127837650310857727681570205572879324865747683684851
noncomputable def OO:Nat:=38129890615090795846123814965044650604201204931932659
noncomputable def OP:Nat:=38129890614993465114782161319090251059392270791651827
noncomputable def OQ:Nat:=4880625998740124953646103566133138768065021671122973171
noncomputable def OS:Nat:=1310133065532774048885014226125298159910724742503619341210923507
noncomputable def OT:Nat:=18181748683443978110320027382824395785467900403
noncomputable def OU:Nat:=4880625998723410251969744216564928927341622207444726259
noncomputable def OV:Nat:=1310133065532774048868299524448938810342514901780219877532676595
noncomputable def OW:Nat:=351686166867561320627329315794837158445433701614674892635464978615022067
noncomputable def OX:Nat:=21465220145725085087133130246274714404332831105266628475105419506163
noncomputable def OY:Nat:=21465220145670292756457884094259391759555080255992897033394525614579
noncomputable def OZ:Nat:=21465220145762482051956255512955703650972451712780284318459147104755
noncomputable def O6:Nat:=79964176362990533255131543407655976556853681489597507088883
noncomputable def O9:Nat:=21465220145688970016564399095430667632107945162055665716318485393907
noncomputable def Pa:Nat:=5762026157948405100591976723087917683022078174743023770060318912393709924851
noncomputable def Pb:Nat:=1546732119195417226617804405924743005356756939746561242650031031974316229732522045939
noncomputable def Pc:Nat:=1310133065531262222666684342146571740467634462436953933332918771
noncomputable def Pd:Nat:=297889770429636446208649489731886080364500854878946
noncomputable def Pe:Nat:=67732291979527064133583164614693960289
noncomputable def Pf:Nat:=38129890614994153088235365604511881733060265053369058
noncomputable def Pg:Nat:=624720127835863585814634604914614396020648431217377360481
noncomputable def Ph:Nat:=297889770429798546069812019510449131918786905715443
noncomputable def S2:Nat:=157555939226294922693441803508378965757991995242437954779942709832
noncomputable def S3:Nat:=91642648890345421961232822110756888286340085942111882668616
noncomputable def S4:Nat:=2959232444507010566436536193574636243919572692545175550799042747525704
noncomputable def S5:Nat:=23352716734300499626318286553221788130049827381360887170616268122696
noncomputable def S6:Nat:=182443099486722652222872317299953088628445369532703613214476429896
noncomputable def S7:Nat:=703502545210048393972036583774175826105189397058917984840
noncomputable def S8:Nat:=22719350510671693466523004498481164552843086739321742223162876324424
noncomputable def S9:Nat:=13092672716360977155334636537528902568890304198536818304039975749711420556824857713797704
noncomputable def Ta:Nat:=2933982122564589514960212291754293941526258491024325118826755067701832
noncomputable def Tb:Nat:=91642077580586379487296678781133670495010004320145238092360
noncomputable def Tc:Nat:=17082249159714306179635007329436924862665026120
noncomputable def Td:Nat:=17082227045348140305989629828798862978572315208
noncomputable def Te:Nat:=297893313701199317193263570274423523939716488231280
noncomputable def Tf:Nat:=1424333916082552664587227874636277837882769802935015903604206152
noncomputable def Th:Nat:=2327263831478912632927377872367857267388334697032
noncomputable def Tj:Nat:=4689063693563540207767683839814969782042206180184978531
noncomputable def To:Nat:=10235414574454359069954459462104376978053243038766385492879944
noncomputable def Tp:Nat:=2327263831487485434329985386022201079425681404402
noncomputable def Tq:Nat:=142044911589811726831360962111669222281654770
noncomputable def Tr:Nat:=142044911589449141602151696827598851395891698
noncomputable def Ts:Nat:=297889770430398135594238129410841738250188650049778
noncomputable def Tt:Nat:=18181748683495901034414203150293744153482096882
noncomputable def Tu:Nat:=18181748683449490125075417193932736680104423666
noncomputable def Tv:Nat:=197981711257013405007078963958367104677235701585181744983615950868684285503667407383112
noncomputable def Tw:Nat:=12083844681214144630758323625113453840139380364111429810137809535730080365698837064
noncomputable def Tx:Nat:=12083844681183299290756848679151547795184030213950468845082825238704780342895798856
noncomputable def TA:Nat:=1546732119198105248046540855980569356051549691832147965798154935353841523336466885192
noncomputable def TB:Nat:=415197741725367807040275918730213834389279450305045289536620948711115432186381279267740936776
noncomputable def TC:Nat:=5762026157941644634529984873859179662573050427897217184125500155991434685000
noncomputable def TF:Nat:=1546732119192808147643372675566683760643755893268505195632791514935810463257773435464
noncomputable def TG:Nat:=415197741725367807034978818327045653975393854897251490972978178545752011768350219189047487048
noncomputable def TH:Nat:=111453795130407338002219899117993908002768690244558895787702813439689285537050623788186317905697401416
noncomputable def TJ:Nat:=6802599800439871473152294341790464047328194637001501380481179093785329909035674866808539000826440
noncomputable def TK:Nat:=6802599800422507090435199489143830087097061823257616980304026255249953677239482376150541143337544
noncomputable def TL:Nat:=6802599800451723044378481523061136839817647216397869976428539985663593989843107278661189366934088
noncomputable def TM:Nat:=25341659040825235846922401191969891792245921651811684301303903748746571575220226888002120
noncomputable def TO:Nat:=6802599800428426150431360115403699270218197976495193524601769653349848528850902936398220949154376
noncomputable def TP:Nat:=1826058979413513569061348098833803792510207022014771289335574078357143373347974445363818469368918673943112
noncomputable def TQ:Nat:=490178974822587977603023300722895953919103182902409982758186225578235713641709896428052317766495157130081435085384
noncomputable def TR:Nat:=415197741724888690186999255826078987786188146152382466227647671854935039928094646583113771592
noncomputable def TS:Nat:=94405036571744525708852123358852306616090335538882948858905526858165381393246792
noncomputable def TU:Nat:=21465220145670292756415647854476516536145236938872471901163217971784
noncomputable def TV:Nat:=2327263831481534736005074138530360002851125408609
noncomputable def TX:Nat:=12083844681183517318247072554178240747850397486916454158574699201585868913853557320
noncomputable def TY:Nat:=167697032387998334811946475596942563572845884497805210711960140385
noncomputable def TZ:Nat:=167697032387998334811946475600229048849072937422480183133978049121
noncomputable def T5:Nat:=197981711256447169238749027041984491470238237100709212454860613282305544828731461429832
noncomputable def T6:Nat:=297889770429641821001838793785249076039536783209313
noncomputable def T7:Nat:=94405036571795897205427021740254592190154882020432965736806296750662767890098760
noncomputable abbrev wo:Program:=PySem.Challenge.pw_im0060_02
structure FP where
 a:Arguments
 b:List Stmt
 s:Scope
deriving Inhabited
noncomputable def R5:Stmt->FP
 |.FunctionDef _ a b _ _ _ s _ _ _=>⟨a,b,s⟩
 |_=>default
noncomputable def Np:Stmt->List Stmt
 |.ClassDef _ _ _ b _ _ _ _ _ _ _=>b
 |_=>[]
noncomputable def Ge:List Stmt->Nat->Stmt
 |[],_=>.Pass default
 |s::_,0=>s
 |_::r,n+1=>Ge r n
noncomputable def fp (i:Nat):FP:=R5 (Ge wo.main.body i)
noncomputable def cp (i j:Nat):FP:=R5 (Ge (Np (Ge wo.main.body i)) j)
noncomputable def fO (name qual:Str) (f:FP) (dfl mod:Value) (code:Nat):Obj:=
 ⟨.type "function",none,.func {name:=name,qualname:=qual,params:=f.a,body:=.stmts f.b,scope:=f.s,globals:=3,closure:=[],defaults:=dfl,kwdefaults:=.none,doc:=.none,pyModule:=mod,annotations:=none,code:=.ref code,closureTuple:=.none,builtins:=0},#[]⟩
noncomputable def o_0 (P:Params):Obj:=dO 159 [en P 53901559791857631 1 (us 65226668898941666 160),en P Tn 2 (.builtin "builtins.__doc__:str#opaque"),en P 113039760542812094607327 3 (.builtin "builtins.__package__:str#opaque"),en P 883130438894441148383 4 (.builtin "builtins.__loader__:shared#opaque"),en P 53901488956436447 5 (.builtin "builtins.__spec__#opaque"),en P 30344152280222117430921858166751 6 (.builtin "__build_class__"),en P 883131622350932045791 7 (.builtin "__import__"),en P 1896801 8 (.builtin "abs"),en P 1783393 9 (.builtin "all"),en P 1996641 10 (.builtin "any"),en P 28407560673 11 (.builtin "ascii"),en P 1815778 12 (.builtin "bin"),en P 1077897093424816421218 13 (.builtin "breakpoint"),en P 57336327839625443 14 (.builtin "callable"),en P 1881187 15 (.builtin "chr"),en P 447941971769315 16 (.builtin "compile"),en P 505394375635684 17 (.builtin "delattr"),en P 1881316 18 (.builtin "dir"),en P 3466000708836 19 (.builtin "divmod"),en P 228096869 20 (.builtin "eval"),en P 209288293 21 (.builtin "exec"),en P 4011998361574 22 (.builtin "format"),en P 505394375766759 23 (.builtin "getattr"),en P 509512446113383 24 (.builtin "globals"),en P 505394375749864 25 (.builtin "hasattr"),en P 220000488 26 (.builtin "hash"),en P 1979112 27 (.builtin "hex"),en P 12905 28 (.builtin "id"),en P 31385728873 29 (.builtin "input"),en P 938756632654307293673 30 (.builtin "isinstance"),en P 1069029492115334035945 31 (.builtin "issubclass"),en P 240745065 32 (.builtin "iter"),en P 30815368417 33 (.builtin "aiter"),en P 1815276 34 (.builtin "len"),en P 3980566001644 35 (.builtin "locals"),en P 1978605 36 (.builtin "max"),en P 1815789 37 (.builtin "min"),en P 245248750 38 (.builtin "next"),en P 31391840097 39 (.builtin "anext"),en P 1913327 40 (.builtin "oct"),en P 1653103 41 (.builtin "ord"),en P 1964016 42 (.builtin "pow"),en P 31370934640 43 (.builtin "print"),en P 240923378 44 (.builtin "repr"),en P 27076163570 45 (.builtin "round"),en P 505394375766771 46 (.builtin "setattr"),en P 3463330969587 47 (.builtin "sorted"),en P 1800947 48 (.builtin "sum"),en P 243052790 49 (.builtin "vars"),en P 213628878 50 .none,en P 65205021183784517 51 .ellipsis,en P 249559292210508177048917063630 52 .notImplemented,en P 27354935494 53 (.bool false),en P 213743956 54 (.bool true),en P 228325346 55 (.type "bool"),en P 1104918722286511157997 56 (.type "memoryview"),en P 8774080344635555042 57 (.type "bytearray"),en P 31083805922 58 (.type "bytes"),en P 119090516107785573791331 59 (.type "classmethod"),en P 531265142618083 60 (.type "complex"),en P 244905188 61 (.type "dict"),en P 7343549747291846501 62 (.type "enumerate"),en P 3944367207654 63 (.type "filter"),en P 31343769190 64 (.type "float"),en P 8416048435984857446 65 (.type "frozenset"),en P 68631062118136176 66 (.type "property"),en P 1914729 67 (.type "int"),en P 245167340 68 (.type "list"),en P 1847533 69 (.type "map"),en P 4012518322543 70 (.type "object"),en P 27329802482 71 (.type "range"),en P 56743180225065714 72 (.type "reversed"),en P 1913587 73 (.type "set"),en P 27321333363 74 (.type "slice"),en P 15243586061796001044789875 75 (.type "staticmethod"),en P 1882739 76 (.type "str"),en P 30815304435 77 (.type "super"),en P 27340323572 78 (.type "tuple"),en P 213662964 79 (.type "type"),en P 1848570 80 (.type "zip"),en P 6899408724578349023 81 (.bool true),en P 2144608328427979956675211458 82 (.type "BaseException"),en P 75048805497310074797475301384395747522 83 (.type "BaseExceptionGroup"),en P 7989288599893376069 84 (.type "Exception"),en P 2259775788271917090767352519 85 (.type "GeneratorExit"),en P 606887058592124963826847896089555659 86 (.type "KeyboardInterrupt"),en P 1077545064881324883155 87 (.type "SystemExit"),en P 36405087185495366414458704001345 88 (.type "ArithmeticError"),en P 284414743637478513485316684225 89 (.type "AssertionError"),en P 284414743636832862044436642369 90 (.type "AttributeError"),en P 135619518107300329536194 91 (.type "BufferError"),en P 64668425610438597 92 (.type "EOFError"),en P 135619518107372557711049 93 (.type "ImportError"),en P 135619518107235915659212 94 (.type "LookupError"),en P 135619518107544356352717 95 (.type "MemoryError"),en P 8277558478201647310 96 (.type "NameError"),en P 505222075083215 97 (.type "OSError"),en P 284414743636823261214370542290 98 (.type "ReferenceError"),en P 17359298317677543288453842 99 (.type "RuntimeError"),en P 73688181029732760979861761720974047827 100 (.type "StopAsyncIteration"),en P 2144608327354443055251585619 101 (.type "StopIteration"),en P 135619518107505443716307 102 (.type "SyntaxError"),en P 135619518107128560418003 103 (.type "SystemError"),en P 8277558478201699540 104 (.type "TypeError"),en P 1059527485209827815638 105 (.type "ValueError"),en P 456806780154071 106 (.type "Warning"),en P 76347001401565549172022971204879775302 107 (.type "FloatingPointError"),en P 2221990184672867535505947471 108 (.type "OverflowError"),en P 596460948448825339435709122012295898 109 (.type "ZeroDivisionError"),en P 15695761450822405373902018 110 (.type "BytesWarning"),en P 69030688887910131414683259145360782020 111 (.type "DeprecationWarning"),en P 32916397518115102358488844138309 112 (.type "EncodingWarning"),en P 2009057465705267410314803910 113 (.type "FutureWarning"),en P 2009057465705267925698229961 114 (.type "ImportWarning"),en P 38860823094090088344862957532350705683709293613527760 115 (.type "PendingDeprecationWarning"),en P 32916397518115101184524226982610 116 (.type "ResourceWarning"),en P 257159355610274228345274874578 117 (.type "RuntimeWarning"),en P 2009057465705268058584235219 118 (.type "SyntaxWarning"),en P 257159355610274228037612107605 119 (.type "UnicodeWarning"),en P 122623136334550039886293 120 (.type "UserWarning"),en P 36405087185308585851808749712962 121 (.type "BlockingIOError"),en P 596460948449585602396400739990271043 122 (.type "ChildProcessError"),en P 36405087185597249725605128943555 123 (.type "ConnectionError"),en P 36405087185643732455593560716486 124 (.type "FileExistsError"),en P 596460948447313111942092348597155014 125 (.type "FileNotFoundError"),en P 4659851159744550605411261016258377 126 (.type "InterruptedError"),en P 596460948450491209621379057095571913 127 (.type "IsADirectoryError"),en P 76347001401662874831536519308233226190 128 (.type "NotADirectoryError"),en P 36405087185597249721757909955280 129 (.type "PermissionError"),en P 76347001401489238093061647269290047824 130 (.type "ProcessLookupError"),en P 17359298317743790443164884 131 (.type "TimeoutError"),en P 4659851159756447964869175788779337 132 (.type "IndentationError"),en P 160111266683298230276514338163358344402412767 133 (.type "_IncompleteInputError"),en P 1059527485214894405449 134 (.type "IndexError"),en P 64668425611277003 135 (.type "KeyError"),en P 9772416179360778026059241039415813421005 136 (.type "ModuleNotFoundError"),en P 9772416179360603788730312093072824809422 137 (.type "NotImplementedError"),en P 2623262993335139085089472075953563181683566263504 138 (.type "PythonFinalizationError"),en P 284414743637478513450990236370 139 (.type "RecursionError"),en P 596460948448506524053248295145355093 140 (.type "UnboundLocalError"),en P 17359298317677235625686869 141 (.type "UnicodeError"),en P 36405087185514311276915750336834 142 (.type "BrokenPipeError"),en P 20494242135378448966838595156105550829079738307 143 (.type "ConnectionAbortedError"),en P 20494242135378448657179973433975883185073665987 144 (.type "ConnectionRefusedError"),en P 1250869270963227866633116906101536422868931 145 (.type "ConnectionResetError"),en P 64668425610899668 146 (.type "TabError"),en P 76347001401273902792403668249563789141 147 (.type "UnicodeDecodeError"),en P 76347001401273902793052749545858561877 148 (.type "UnicodeEncodeError"),en P 160111266682689403905225237760896967613511509 149 (.type "UnicodeTranslateError"),en P 279578587030284385373723884613 150 (.type "ExceptionGroup"),en P 4659851159763521999107421464540997 151 (.type "OSError"),en P 505222075082697 152 (.type "OSError"),en P 232355951 153 (.builtin "open"),en P 245005041 154 (.builtin "builtins.quit#opaque"),en P 245005413 155 (.builtin "builtins.exit#opaque"),en P 8417684340975876067 156 (.builtin "builtins.copyright#opaque"),en P 509789475535203 157 (.builtin "builtins.credits#opaque"),en P 448183808881900 158 (.builtin "builtins.license#opaque"),en P 236663528 159 (.builtin "builtins.help#opaque")]
noncomputable def o_1 (P:Params):Obj:=dO 2 [en P 65226668898941666 162 (rf 4),en P 53901867955744735 163 (rf 5)]
noncomputable def o_2:Obj:=⟨.none,.none,(.dict (.mk []) 0),(.mk [])⟩
noncomputable def o_3 (P:Params):Obj:=dO 36 [en P 53901559791857631 165 (us Pj 1467),en P Tn 166 .none,en P 113039760542812094607327 167 .none,en P 883130438894441148383 168 (.builtin "__main__.__loader__#opaque"),en P 53901488956436447 169 .none,en P 30344151541145318921183520387039 170 (rf 6),en P 14469218985635115783729119 171 (rf 4),en P 53901559540068319 173 (us dw 172),en P 883122557733039566815 174 .none,en P 29219126239 193 (rf 21),en P 1157061 196 .none,en P 36729176356849050818767274670195 202 (rf 22),en P 17513836086727747049159137 256 (rf 27),en P 3982730327268 268 (rf 32),en P 8352390871225610984 292 (rf 37),en P Tz 298 (rf 42),en P 65187086474229605 428 (rf 43),en P 161536625931963493248271217587268140098401010 531 (rf 46),en P 1068029186710500472820 556 (rf 48),en P 2239819544968299487509999860 563 (rf 49),en P 245248724 604 (rf 73),en P TN 611 (rf 84),en P T3 737 (rf 166),en P 137896750988398635578594 751 (rf 178),en P 213547348 826 (rf 230),en P 15387708175247208622143333 843 (rf 236),en P E0 1466 (rf 762),en P 98630384216267371869791 1493 (rf 767),en P 81004954270178760750687 1498 (rf 768),en P 12627152105421994366367327 1515 (rf 791),en P E1 1521 (rf 798),en P E2 1532 (rf 805),en P E3 1540 (rf 812),en P E4 1552 (rf 819),en P E5 1569 (rf 826),en P 1962220 1575 (rf 831)]
noncomputable def Zl:Obj:=tO [(us 9 197),(us 10 198),(us 12 199),(us 32 200),(us 13 201)]
noncomputable def Zm:Obj:=tO [(us 97 204),(us 98 205),(us 99 206),(us 100 207),(us 101 208),(us 102 209),(us 103 210),(us 104 211),(us 105 212),(us 106 213),(us 107 214),(us 108 215),(us 109 216),(us 110 217),(us 111 218),(us 112 219),(us 113 220),(us 114 221),(us 115 222),(us 116 223),(us 117 224),(us 118 225),(us 119 226),(us 120 227),(us 121 228),(us 122 229),(us 65 230),(us 66 231),(us 67 232),(us 68 233),(us 69 234),(us 70 235),(us 71 236),(us 72 237),(us 73 238),(us 74 239),(us 75 240),(us 76 241),(us 77 242),(us 78 243),(us 79 244),(us 80 245),(us 81 246),(us 82 247),(us 83 248),(us 84 249),(us 85 250),(us 86 251),(us 87 252),(us 88 253),(us 89 254),(us 90 255)]
noncomputable def Zn:Obj:=cO [(us Tz 293),(us Tz 294),(us dw 295),(i0 10),(i0 1),(i0 0),(i0 0),(i0 3),(rf 38),(.bool true),(i0 181),(rf 39),.none,.none,.none,(rf 40),(i0 296),(i0 10),(us dw 297)]
noncomputable def Zo:Obj:=fO (u_ Tz) (u_ Tz) (fp 7) .none (us 77037409353305828913407556062501632616 194) 41
noncomputable def Zp (P:Params):Obj:=dO 8 [en P 448083713914820 532 (.int 0 533),en P 1068959721505206858819 534 (.int 1 535),en P 36729176356849050818767274670163 536 (.int 2 537),en P 58413373311187539 538 (.int 3 539),en P 3565269104453 540 (.int 4 541),en P 58413374657803973 542 (.int 5 543),en P 513980308879299 544 (.int 6 545),en P 1059527485209823719632 546 (.int 7 547)]
noncomputable def Zq:Obj:=tO [(.int 3 539),(.int 4 541),(.int 5 543)]
noncomputable def Zr:Obj:=cO [(us J7 578),(us 1852061164990093336933970644 579),(us dw 580),(i0 19),(i0 2),(i0 0),(i0 0),(i0 3),(rf 57),(.bool true),(i0 181),(rf 58),.none,(rf 59),(rf 60),(rf 61),(i0 583),(i0 19),(us dw 584)]
noncomputable def Zs:Obj:=fO (u_ J7) (u_ 1852061164990093336933970644) (cp 13 0) .none (us xu 564) 62
noncomputable def Zt:Obj:=cO [(us 211317490 586),(us 7260813681575736020 587),(us dw 588),(i0 23),(i0 2),(i0 0),(i0 0),(i0 3),(rf 64),(.bool true),(i0 181),(rf 65),.none,(rf 66),(rf 67),(rf 68),(i0 592),(i0 23),(us dw 593)]
noncomputable def Zu:Obj:=fO (u_ 211317490) (u_ 7260813681575736020) (cp 13 1) .none (us xu 564) 69
noncomputable def Zv (P:Params):Obj:=dO 4 [en P 883123151916293124063 573 (us xu 564),en P OH 577 (.int 17 576),en P J7 585 (rf 63),en P 211317490 594 (rf 70),en P OI 597 (rf 71),en P 53902072520191967 599 (rf 74),en P OJ 601 (rf 75),en P Tn 602 .none]
noncomputable def Zw:Obj:=⟨(.type "type"),.none,(.cls {name:=(u_ 245248724),bases:=[(.type "object")],mro:=[(rf 73),(.type "object")],ns:=72,qualname:=(u_ 245248724),hasDict:=true,slotNames:=[],subclasses:=[],abstract:=false}),(.mk [some (rf 50),none,some (us 245248724 566),some (us 245248724 574),some (.builtin "object.__new__"),some (.bool true)])⟩
noncomputable def Zx:Obj:=cO [(us TN 605),(us TN 606),(us dw 607),(i0 27),(i0 1),(i0 0),(i0 0),(i0 3),(rf 78),(.bool true),(i0 181),(rf 79),.none,(rf 80),(rf 81),(rf 82),(i0 609),(i0 27),(us dw 610)]
noncomputable def Zy:Obj:=fO (u_ TN) (u_ TN) (fp 14) .none (us xu 564) 83
noncomputable def Zz:Obj:=cO [(us J7 626),(us S2 627),(us dw 628),(i0 32),(i0 2),(i0 0),(i0 0),(i0 3),(rf 92),(.bool true),(i0 181),(rf 93),.none,(rf 94),(rf 95),(rf 96),(i0 631),(i0 32),(us dw 632)]
noncomputable def ZA:Obj:=fO (u_ J7) (u_ S2) (cp 15 1) .none (us xu 564) 97
noncomputable def Ua:Obj:=cO [(us 31352222450 634),(us S3 635),(us dw 636),(i0 38),(i0 1),(i0 0),(i0 0),(i0 3),(rf 99),(.bool true),(i0 181),(rf 100),.none,(rf 101),(rf 102),(rf 103),(i0 638),(i0 38),(us dw 639)]
noncomputable def Ub:Obj:=fO (u_ 31352222450) (u_ S3) (cp 15 2) .none (us xu 564) 104
noncomputable def Uc:Obj:=cO [(us 1012394501969689540719 641),(us S4 642),(us dw 643),(i0 47),(i0 2),(i0 0),(i0 0),(i0 3),(rf 106),(.bool true),(i0 181),(rf 107),.none,(rf 108),(rf 109),(rf 110),(i0 647),(i0 47),(us dw 648)]
noncomputable def Ud:Obj:=fO (u_ 1012394501969689540719) (u_ S4) (cp 15 3) .none (us xu 564) 111
noncomputable def Ue:Obj:=cO [(us 7989288598043883615 650),(us S5 651),(us dw 652),(i0 51),(i0 2),(i0 0),(i0 0),(i0 3),(rf 113),(.bool true),(i0 181),(rf 114),.none,(rf 115),(rf 116),(rf 117),(i0 660),(i0 51),(us dw 661)]
noncomputable def Ug:Obj:=fO (u_ 7989288598043883615) (u_ S5) (cp 15 4) .none (us xu 564) 118
noncomputable def Uh:Obj:=cO [(us 62416317172217840 663),(us S6 664),(us dw 665),(i0 62),(i0 1),(i0 0),(i0 0),(i0 3),(rf 120),(.bool true),(i0 181),(rf 121),.none,(rf 122),(rf 123),(rf 124),(i0 669),(i0 62),(us dw 670)]
noncomputable def Ui:Obj:=fO (u_ 62416317172217840) (u_ S6) (cp 15 5) .none (us xu 564) 125
noncomputable def Uj:Obj:=cO [(us 240677987 672),(us S7 673),(us dw 674),(i0 66),(i0 1),(i0 0),(i0 0),(i0 3),(rf 127),(.bool true),(i0 181),(rf 128),.none,(rf 129),(rf 130),(rf 131),(i0 678),(i0 66),(us dw 679)]
noncomputable def Uk:Obj:=fO (u_ 240677987) (u_ S7) (cp 15 6) .none (us xu 564) 132
noncomputable def Ul:Obj:=tO [.none]
noncomputable def Um:Obj:=cO [(us 7772605219985715954 681),(us S8 682),(us dw 683),(i0 75),(i0 2),(i0 0),(i0 0),(i0 3),(rf 135),(.bool true),(i0 181),(rf 136),.none,(rf 137),(rf 138),(rf 139),(i0 688),(i0 75),(us dw 689)]
noncomputable def Uo:Obj:=fO (u_ 7772605219985715954) (u_ S8) (cp 15 7) (rf 134) (us xu 564) 140
noncomputable def Up:Obj:=cO [(us OK 691),(us S9 692),(us dw 693),(i0 101),(i0 2),(i0 0),(i0 0),(i0 3),(rf 142),(.bool true),(i0 181),(rf 143),.none,(rf 144),(rf 145),(rf 146),(i0 697),(i0 101),(us dw 698)]
noncomputable def Uq:Obj:=fO (u_ OK) (u_ S9) (cp 15 8) .none (us xu 564) 147
noncomputable def Ur:Obj:=tO [(.bool false)]
noncomputable def Us:Obj:=cO [(us 1003756016285699830883 700),(us Ta 701),(us dw 702),(i0 106),(i0 3),(i0 0),(i0 0),(i0 3),(rf 150),(.bool true),(i0 181),(rf 151),.none,(rf 152),(rf 153),(rf 154),(i0 709),(i0 106),(us dw 710)]
noncomputable def Ut:Obj:=fO (u_ 1003756016285699830883) (u_ Ta) (cp 15 9) (rf 149) (us xu 564) 155
noncomputable def Uv:Obj:=cO [(us 31352026997 712),(us Tb 713),(us dw 714),(i0 125),(i0 2),(i0 0),(i0 0),(i0 3),(rf 157),(.bool true),(i0 181),(rf 158),.none,(rf 159),(rf 160),(rf 161),(i0 717),(i0 125),(us dw 718)]
noncomputable def Uw:Obj:=fO (u_ 31352026997) (u_ Tb) (cp 15 10) .none (us xu 564) 162
noncomputable def Ux (P:Params):Obj:=dO 4 [en P 883123151916293124063 619 (us xu 564),en P OH 623 (.int 29 622),en P 529404374068053937003840279051596383 625 (.int 10240 624),en P J7 633 (rf 98),en P 31352222450 640 (rf 105),en P 1012394501969689540719 649 (rf 112),en P 7989288598043883615 662 (rf 119),en P 62416317172217840 671 (rf 126),en P 240677987 680 (rf 133),en P 7772605219985715954 690 (rf 141),en P OK 699 (rf 148),en P 1003756016285699830883 711 (rf 156),en P 31352026997 719 (rf 163),en P OI 730 (rf 164),en P 53902072520191967 732 (rf 167),en P OJ 734 (rf 168),en P Tn 735 .none]
noncomputable def Uy:Obj:=⟨(.type "type"),.none,(.cls {name:=(u_ T3),bases:=[(.type "object")],mro:=[(rf 166),(.type "object")],ns:=165,qualname:=(u_ T3),hasDict:=true,slotNames:=[],subclasses:=[],abstract:=false}),(.mk [some (rf 85),none,some (us T3 612),some (us T3 620),some (.builtin "object.__new__"),some (.bool true)])⟩
noncomputable def Uz:Obj:=tO [.none]
noncomputable def UA:Obj:=cO [(us J7 856),(us Tc 857),(us dw 858),(i0 184),(i0 3),(i0 0),(i0 0),(i0 3),(rf 255),(.bool true),(i0 181),(rf 256),.none,(rf 257),(rf 258),(rf 259),(i0 862),(i0 184),(us dw 863)]
noncomputable def UB:Obj:=fO (u_ J7) (u_ Tc) (cp 21 0) (rf 254) (us iA 827) 260
noncomputable def UC:Obj:=cO [(us 53902004360736735 865),(us Td 866),(us dw 867),(i0 193),(i0 1),(i0 0),(i0 0),(i0 35),(rf 262),(.bool true),(i0 181),(rf 263),.none,(rf 264),(rf 265),(rf 266),(i0 869),(i0 193),(us dw 870)]
noncomputable def UD:Obj:=fO (u_ 53902004360736735) (u_ Td) (cp 21 1) .none (us iA 827) 267
noncomputable def UE:Obj:=fO (u_ Te) (u_ 94406159479325386963881314434151672450126404913765536430542815160271448935983688) (cp 21 4) .none (us iA 827) 289
noncomputable def UG:Obj:=cO [(us OL 910),(us Tf 911),(us dw 912),(i0 286),(i0 1),(i0 0),(i0 0),(i0 3),(rf 291),(.bool true),(i0 181),(rf 292),.none,(rf 293),(rf 294),(rf 295),(i0 917),(i0 286),(us dw 918)]
noncomputable def UH:Obj:=fO (u_ OL) (u_ Tf) (cp 21 5) .none (us iA 827) 296
noncomputable def UI:Obj:=cO [(us 7343549811154301156 920),(us Th 921),(us dw 922),(i0 304),(i0 1),(i0 0),(i0 0),(i0 3),(rf 298),(.bool true),(i0 181),(rf 299),.none,(rf 300),(rf 301),(rf 302),(i0 926),(i0 304),(us dw 927)]
noncomputable def UJ:Obj:=fO (u_ 7343549811154301156) (u_ Th) (cp 21 6) .none (us iA 827) 303
noncomputable def UK:Obj:=fO (u_ 32297273626065612125600514652005) (u_ 10235414574454359070009244934005018021920039554045493900438088) (cp 21 7) .none (us iA 827) 310
noncomputable def UL:Obj:=fO (u_ 120316720105952070152690) (u_ 38129890614950504580031958150124965525101194916358728) (cp 21 8) .none (us iA 827) 317
noncomputable def UM:Obj:=fO (u_ Tj) (u_ 1486023601413555020715689096003805151057621992651810160246193025092456608698090089032) (cp 21 9) .none (us iA 827) 324
noncomputable def UN:Obj:=fO (u_ 15400540173645566409830642) (u_ 4880625998740190628329680242730517108870012299405126216) (cp 21 10) .none (us iA 827) 331
noncomputable def UO:Obj:=cO [(us OM 957),(us To 958),(us dw 959),(i0 336),(i0 1),(i0 0),(i0 0),(i0 3),(rf 333),(.bool true),(i0 181),(rf 334),.none,(rf 335),(rf 336),(rf 337),(i0 963),(i0 336),(us dw 964)]
noncomputable def UP:Obj:=fO (u_ OM) (u_ To) (cp 21 11) .none (us iA 827) 338
noncomputable def UQ:Obj:=fO (u_ 252322450205008960056265832048) (u_ 79964176363359283253793076928509862155963627997557045815880) (cp 21 12) .none (us iA 827) 345
noncomputable def UR:Obj:=fO (u_ 15400540173618528170668276) (u_ 4880625998731621868303858323115229230374403278028106312) (cp 21 13) .none (us iA 827) 352
noncomputable def US:Obj:=fO (u_ Tp) (u_ 737539348218639958676244929277774336476757176226710764620268905648067408259656) (cp 21 16) .none (us iA 827) 373
noncomputable def UT:Obj:=fO (u_ Tq) (u_ 45015829359047653640651418362235478461473423510156300458079096344839154248) (cp 21 17) .none (us iA 827) 380
noncomputable def UU:Obj:=fO (u_ Tr) (u_ 45015829358932745794791164544044240546332473761100196017632211798315985480) (cp 21 18) .none (us iA 827) 387
noncomputable def UW:Obj:=fO (u_ Ts) (u_ 94405036571985914710559350947555115095550960642608577385915941580011978368445000) (cp 21 19) .none (us iA 827) 394
noncomputable def UX:Obj:=fO (u_ Tt) (u_ 5762026157958099666003381550366167769110683798899520980155781391489522952776) (cp 21 20) .none (us iA 827) 401
noncomputable def UY:Obj:=fO (u_ Tu) (u_ 5762026157943391461733269061637689315972642231020339611778580169534557350472) (cp 21 21) .none (us iA 827) 408
noncomputable def UZ:Obj:=cO [(us ON 1039),(us Tv 1040),(us dw 1041),(i0 431),(i0 1),(i0 0),(i0 0),(i0 3),(rf 410),(.bool true),(i0 181),(rf 411),.none,(rf 412),(rf 413),(rf 414),(i0 1044),(i0 431),(us dw 1045)]
noncomputable def U0:Obj:=fO (u_ ON) (u_ Tv) (cp 21 22) .none (us iA 827) 415
noncomputable def U1:Obj:=cO [(us OO 1047),(us Tw 1048),(us dw 1049),(i0 445),(i0 1),(i0 0),(i0 0),(i0 3),(rf 417),(.bool true),(i0 181),(rf 418),.none,(rf 419),(rf 420),(rf 421),(i0 1052),(i0 445),(us dw 1053)]
noncomputable def U2:Obj:=fO (u_ OO) (u_ Tw) (cp 21 23) .none (us iA 827) 422
noncomputable def U3:Obj:=cO [(us OP 1055),(us Tx 1056),(us dw 1057),(i0 456),(i0 1),(i0 0),(i0 0),(i0 3),(rf 424),(.bool true),(i0 181),(rf 425),.none,(rf 426),(rf 427),(rf 428),(i0 1061),(i0 456),(us dw 1062)]
noncomputable def U4:Obj:=fO (u_ OP) (u_ Tx) (cp 21 24) .none (us iA 827) 429
noncomputable def U5:Obj:=cO [(us OQ 1064),(us TA 1065),(us dw 1066),(i0 477),(i0 1),(i0 0),(i0 0),(i0 3),(rf 431),(.bool true),(i0 181),(rf 432),.none,(rf 433),(rf 434),(rf 435),(i0 1069),(i0 477),(us dw 1070)]
noncomputable def U6:Obj:=fO (u_ OQ) (u_ TA) (cp 21 25) .none (us iA 827) 436
noncomputable def U7:Obj:=cO [(us OS 1072),(us TB 1073),(us dw 1074),(i0 487),(i0 1),(i0 0),(i0 0),(i0 3),(rf 438),(.bool true),(i0 181),(rf 439),.none,(rf 440),(rf 441),(rf 442),(i0 1077),(i0 487),(us dw 1078)]
noncomputable def U8:Obj:=fO (u_ OS) (u_ TB) (cp 21 26) .none (us iA 827) 443
noncomputable def U9:Obj:=cO [(us OT 1080),(us TC 1081),(us dw 1082),(i0 497),(i0 1),(i0 0),(i0 0),(i0 3),(rf 445),(.bool true),(i0 181),(rf 446),.none,(rf 447),(rf 448),(rf 449),(i0 1086),(i0 497),(us dw 1087)]
noncomputable def Va:Obj:=fO (u_ OT) (u_ TC) (cp 21 27) .none (us iA 827) 450
noncomputable def Vb:Obj:=cO [(us OU 1089),(us TF 1090),(us dw 1091),(i0 514),(i0 1),(i0 0),(i0 0),(i0 3),(rf 452),(.bool true),(i0 181),(rf 453),.none,(rf 454),(rf 455),(rf 456),(i0 1094),(i0 514),(us dw 1095)]
noncomputable def Vc:Obj:=fO (u_ OU) (u_ TF) (cp 21 28) .none (us iA 827) 457
noncomputable def Vd:Obj:=cO [(us OV 1097),(us TG 1098),(us dw 1099),(i0 532),(i0 1),(i0 0),(i0 0),(i0 3),(rf 459),(.bool true),(i0 181),(rf 460),.none,(rf 461),(rf 462),(rf 463),(i0 1102),(i0 532),(us dw 1103)]
noncomputable def Ve:Obj:=fO (u_ OV) (u_ TG) (cp 21 29) .none (us iA 827) 464
noncomputable def Vf:Obj:=cO [(us OW 1105),(us TH 1106),(us dw 1107),(i0 552),(i0 1),(i0 0),(i0 0),(i0 3),(rf 466),(.bool true),(i0 181),(rf 467),.none,(rf 468),(rf 469),(rf 470),(i0 1110),(i0 552),(us dw 1111)]
noncomputable def Vg:Obj:=fO (u_ OW) (u_ TH) (cp 21 30) .none (us iA 827) 471
noncomputable def Vh:Obj:=cO [(us OX 1113),(us TJ 1114),(us dw 1115),(i0 567),(i0 1),(i0 0),(i0 0),(i0 3),(rf 473),(.bool true),(i0 181),(rf 474),.none,(rf 475),(rf 476),(rf 477),(i0 1118),(i0 567),(us dw 1119)]
noncomputable def Vi:Obj:=fO (u_ OX) (u_ TJ) (cp 21 31) .none (us iA 827) 478
noncomputable def Vj:Obj:=cO [(us OY 1121),(us TK 1122),(us dw 1123),(i0 578),(i0 1),(i0 0),(i0 0),(i0 3),(rf 480),(.bool true),(i0 181),(rf 481),.none,(rf 482),(rf 483),(rf 484),(i0 1127),(i0 578),(us dw 1128)]
noncomputable def Vk:Obj:=fO (u_ OY) (u_ TK) (cp 21 32) .none (us iA 827) 485
noncomputable def Vl:Obj:=cO [(us OZ 1130),(us TL 1131),(us dw 1132),(i0 599),(i0 1),(i0 0),(i0 0),(i0 3),(rf 487),(.bool true),(i0 181),(rf 488),.none,(rf 489),(rf 490),(rf 491),(i0 1135),(i0 599),(us dw 1136)]
noncomputable def Vm:Obj:=fO (u_ OZ) (u_ TL) (cp 21 33) .none (us iA 827) 492
noncomputable def Vn:Obj:=cO [(us O6 1138),(us TM 1139),(us dw 1140),(i0 615),(i0 1),(i0 0),(i0 0),(i0 3),(rf 494),(.bool true),(i0 181),(rf 495),.none,(rf 496),(rf 497),(rf 498),(i0 1143),(i0 615),(us dw 1144)]
noncomputable def Vo:Obj:=fO (u_ O6) (u_ TM) (cp 21 34) .none (us iA 827) 499
noncomputable def Vp:Obj:=cO [(us O9 1146),(us TO 1147),(us dw 1148),(i0 633),(i0 1),(i0 0),(i0 0),(i0 3),(rf 501),(.bool true),(i0 181),(rf 502),.none,(rf 503),(rf 504),(rf 505),(i0 1151),(i0 633),(us dw 1152)]
noncomputable def Vq:Obj:=fO (u_ O9) (u_ TO) (cp 21 35) .none (us iA 827) 506
noncomputable def Vr:Obj:=cO [(us Pa 1154),(us TP 1155),(us dw 1156),(i0 653),(i0 1),(i0 0),(i0 0),(i0 3),(rf 508),(.bool true),(i0 181),(rf 509),.none,(rf 510),(rf 511),(rf 512),(i0 1159),(i0 653),(us dw 1160)]
noncomputable def Vs:Obj:=fO (u_ Pa) (u_ TP) (cp 21 36) .none (us iA 827) 513
noncomputable def Vt:Obj:=cO [(us Pb 1162),(us TQ 1163),(us dw 1164),(i0 675),(i0 1),(i0 0),(i0 0),(i0 3),(rf 515),(.bool true),(i0 181),(rf 516),.none,(rf 517),(rf 518),(rf 519),(i0 1167),(i0 675),(us dw 1168)]
noncomputable def Vu:Obj:=fO (u_ Pb) (u_ TQ) (cp 21 37) .none (us iA 827) 520
noncomputable def Vv:Obj:=cO [(us Pc 1170),(us TR 1171),(us dw 1172),(i0 686),(i0 1),(i0 0),(i0 0),(i0 3),(rf 522),(.bool true),(i0 181),(rf 523),.none,(rf 524),(rf 525),(rf 526),(i0 1175),(i0 686),(us dw 1176)]
noncomputable def Vw:Obj:=fO (u_ Pc) (u_ TR) (cp 21 38) .none (us iA 827) 527
noncomputable def Vx:Obj:=cO [(us Pd 1178),(us TS 1179),(us dw 1180),(i0 702),(i0 1),(i0 0),(i0 0),(i0 3),(rf 529),(.bool true),(i0 181),(rf 530),.none,(rf 531),(rf 532),(rf 533),(i0 1183),(i0 702),(us dw 1184)]
noncomputable def Vy:Obj:=fO (u_ Pd) (u_ TS) (cp 21 39) .none (us iA 827) 534
noncomputable def Vz:Obj:=cO [(us Pe 1186),(us TU 1187),(us dw 1188),(i0 729),(i0 1),(i0 0),(i0 0),(i0 3),(rf 536),(.bool true),(i0 181),(rf 537),.none,(rf 538),(rf 539),(rf 540),(i0 1195),(i0 729),(us dw 1196)]
noncomputable def VA:Obj:=fO (u_ Pe) (u_ TU) (cp 21 40) .none (us iA 827) 541
noncomputable def VB:Obj:=fO (u_ TV) (u_ 737539348216754107100407213741033645439303050068132695694529020811221740513864) (cp 21 41) .none (us iA 827) 548
noncomputable def VC:Obj:=cO [(us Pf 1206),(us TX 1207),(us dw 1208),(i0 797),(i0 1),(i0 0),(i0 0),(i0 3),(rf 550),(.bool true),(i0 181),(rf 551),.none,(rf 552),(rf 553),(rf 554),(i0 1211),(i0 797),(us dw 1212)]
noncomputable def VD:Obj:=fO (u_ Pf) (u_ TX) (cp 21 42) .none (us iA 827) 555
noncomputable def VE:Obj:=fO (u_ TY) (u_ 53145310940784728814512737505159812815462952128389011119597793473893271865368858206253840820808) (cp 21 43) .none (us iA 827) 562
noncomputable def VF:Obj:=fO (u_ TZ) (u_ 53145310940784728814512737506201341573725567614343263918565625537582362467136519357065698961992) (cp 21 44) .none (us iA 827) 569
noncomputable def VG:Obj:=cO [(us Pg 1230),(us T5 1231),(us dw 1232),(i0 859),(i0 1),(i0 0),(i0 0),(i0 3),(rf 571),(.bool true),(i0 181),(rf 572),.none,(rf 573),(rf 574),(rf 575),(i0 1235),(i0 859),(us dw 1236)]
noncomputable def VH:Obj:=fO (u_ Pg) (u_ T5) (cp 21 45) .none (us iA 827) 576
noncomputable def VI:Obj:=fO (u_ T6) (u_ 94405036571746229048805254329517505842582327670205407771599167104621405587860040) (cp 21 46) .none (us iA 827) 583
noncomputable def VJ:Obj:=cO [(us Ph 1246),(us T7 1247),(us dw 1248),(i0 898),(i0 1),(i0 0),(i0 0),(i0 3),(rf 585),(.bool true),(i0 181),(rf 586),.none,(rf 587),(rf 588),(rf 589),(i0 1251),(i0 898),(us dw 1252)]
noncomputable def VK:Obj:=fO (u_ Ph) (u_ T7) (cp 21 47) .none (us iA 827) 590
noncomputable def VL (P:Params):Obj:=dO 4 [en P 883123151916293124063 851 (us iA 827),en P OH 855 (.int 182 854),en P J7 864 (rf 261),en P 53902004360736735 871 (rf 268),en P 10371186754836535536276978958489368639459 886 (rf 275),en P 2358134851155292679122434019 901 (rf 283),en P Te 909 (rf 290),en P OL 919 (rf 297),en P 7343549811154301156 928 (rf 304),en P 32297273626065612125600514652005 935 (rf 311),en P 120316720105952070152690 942 (rf 318),en P Tj 949 (rf 325),en P 15400540173645566409830642 956 (rf 332),en P OM 965 (rf 339),en P 252322450205008960056265832048 972 (rf 346),en P 15400540173618528170668276 980 (rf 353),en P 529158531091405923781398542920971875 988 (rf 360),en P 15400540173579216601346292 996 (rf 367),en P Tp 1003 (rf 374),en P Tq 1010 (rf 381),en P Tr 1017 (rf 388),en P Ts 1024 (rf 395),en P Tt 1031 (rf 402),en P Tu 1038 (rf 409),en P ON 1046 (rf 416),en P OO 1054 (rf 423),en P OP 1063 (rf 430),en P OQ 1071 (rf 437),en P OS 1079 (rf 444),en P OT 1088 (rf 451),en P OU 1096 (rf 458),en P OV 1104 (rf 465),en P OW 1112 (rf 472),en P OX 1120 (rf 479),en P OY 1129 (rf 486),en P OZ 1137 (rf 493),en P O6 1145 (rf 500),en P O9 1153 (rf 507),en P Pa 1161 (rf 514),en P Pb 1169 (rf 521),en P Pc 1177 (rf 528),en P Pd 1185 (rf 535),en P Pe 1197 (rf 542),en P TV 1205 (rf 549),en P Pf 1213 (rf 556),en P TY 1221 (rf 563),en P TZ 1229 (rf 570),en P Pg 1237 (rf 577),en P T6 1245 (rf 584),en P Ph 1253 (rf 591),en P 529158531092323144178770079257327586 1261 (rf 598),en P 4880625998731621868340768995539437336476859442535379181 1271 (rf 605),en P 529158531092327830141554724886509539 1279 (rf 612),en P 142044911589572737344230513612095566244444131 1287 (rf 619),en P 15400540173645222797604835 1295 (rf 626),en P 8669733373387007894397441489691165292515 1303 (rf 633),en P 32297273626092834344272412768227 1311 (rf 640),en P 8669733373384435297892118317372567943139 1319 (rf 647),en P 15400540173579326202640356 1327 (rf 654),en P 18181748683449490125039042132311563718148862690 1335 (rf 661),en P 4134051024141056160496882997065700 1343 (rf 668),en P 142044911589449141601867516658684095010517857 1353 (rf 675),en P 1310133065531274877014125469539684555065723249214376677350388577 1361 (rf 682),en P 351686166867961486771064399076403626068612590845478042780959177312940770 1369 (rf 689),en P 1546732119190993509677725887891132524981076741501473560572080327067617023612096673764 1377 (rf 696),en P 1546732119190993509677725887921445001377364285141079797953539309883847605038381332452 1385 (rf 703),en P 2747548178655949115398940617784403328661035865980297209226247035237217 1393 (rf 710),en P 53145310941013912810302191650830597594715531337533318878185624877785587826128183424762599256802 1401 (rf 717),en P 1310133065531274877014125476165385262586421453545573910023320417 1409 (rf 724),en P 351686166867961486771064399076404474158303153494848197174204959448216290 1417 (rf 731),en P 1546732119190993509677725887891132524981076741501473560572273160337665766557295900644 1425 (rf 738),en P 1546732119190993509677725887921445001377364285141079797953732143153896347983580559332 1433 (rf 745),en P 2747548178655949115398940617784409954361743386678501540423479708169057 1441 (rf 752),en P 529158531090058954416448514563897314 1449 (rf 759),en P OI 1459 (rf 760),en P 53902072520191967 1461 (rf 763),en P OJ 1463 (rf 764),en P Tn 1464 .none]
noncomputable def VM:Obj:=⟨(.type "type"),.none,(.cls {name:=(u_ E0),bases:=[(.type "object")],mro:=[(rf 762),(.type "object")],ns:=761,qualname:=(u_ E0),hasDict:=true,slotNames:=[],subclasses:=[],abstract:=false}),(.mk [some (rf 247),none,some (us E0 844),some (us E0 852),some (.builtin "object.__new__"),some (.bool true)])⟩
noncomputable def VN:Obj:=⟨(.type "list"),.none,(.seq (.mk [(us 95113404 1469),(us 1021613 1470),(us 35416947224541628 1471),(us 4533369244741326780 1472),(us 18386602964347324 1473),(us 3452505325581948860 1474),(us 45 1475),(us 60 1476),(us 6076 1477),(us 62 1478),(us 97 1479),(us 32 1480),(us 10 1481),(us 33 1482),(us 131635132 1483),(us 536892 1484),(us 125646374 1485),(us 741564 1486),(us 5805 1487),(us 4016016503283 1488),(us 47 1489),(.str (q_ [233]) 1490),(us 130569901 1491),(us 65798414389794748 1492)]) 0),(.mk [])⟩
noncomputable def VQ:Obj:=tO [(us 32 1494),(us 10 1495),(us 47 1496),(us 62 1497)]
noncomputable def VU:Obj:=lO []
noncomputable def VV:Obj:=lO []
noncomputable def VW:Obj:=tO [(us 62 1499),(rf 769),(rf 770),(.bool false)]
noncomputable def VY:Obj:=lO []
noncomputable def VZ:Obj:=lO []
noncomputable def V6:Obj:=tO [(us 7968 1500),(rf 772),(rf 773),(.bool false)]
noncomputable def V8:Obj:=tO [(.int 2 1502),(us 81417865540624346946118564476539692763518302044970781717235 1503)]
noncomputable def V9:Obj:=lO [(rf 775)]
noncomputable def Wa:Obj:=lO []
noncomputable def Wb:Obj:=tO [(us 7983 1501),(rf 776),(rf 777),(.bool true)]
noncomputable def Wc:Obj:=tO [(.int 5 1505),(us 144627182302458029542450296742390010950269537 1506)]
noncomputable def We:Obj:=lO [(rf 779)]
noncomputable def Wf:Obj:=lO [(us 107 1507),(us 49 1508)]
noncomputable def Wg:Obj:=lO [(rf 781)]
noncomputable def Wh:Obj:=tO [(us 16746771850 1504),(rf 780),(rf 782),(.bool false)]
noncomputable def Wj:Obj:=tO [(.int 1 1510),(us 201580871403847492116696585238073637603570965106562916129259542861876076834167539201909 1511)]
noncomputable def Wk:Obj:=lO [(rf 784)]
noncomputable def Wl:Obj:=lO []
noncomputable def Wm:Obj:=tO [(us 1019951 1509),(rf 785),(rf 786),(.bool false)]
noncomputable def Wn:Obj:=tO [(.int 1 1513),(us 45440379699131179400979760252385838125062894271882662370900232682145070181 1514)]
noncomputable def Wo:Obj:=lO [(rf 788)]
noncomputable def Wq:Obj:=tO [(us 32 1512),(rf 789),.none,(.bool false)]
noncomputable def Wr:Obj:=lO [(rf 771),(rf 774),(rf 778),(rf 783),(rf 787),(rf 790)]
noncomputable def Ws:Obj:=cO [(us E1 1516),(us E1 1517),(us dw 1518),(i0 1420),(i0 0),(i0 0),(i0 0),(i0 3),(rf 792),(.bool true),(i0 181),(rf 793),.none,(rf 794),(rf 795),(rf 796),(i0 1519),(i0 1420),(us dw 1520)]
noncomputable def Wt:Obj:=fO (u_ E1) (u_ E1) (fp 26) .none (us Pj 1467) 797
noncomputable def Wu:Obj:=cO [(us E2 1522),(us E2 1523),(us dw 1524),(i0 1422),(i0 1),(i0 0),(i0 0),(i0 3),(rf 799),(.bool true),(i0 181),(rf 800),.none,(rf 801),(rf 802),(rf 803),(i0 1530),(i0 1422),(us dw 1531)]
noncomputable def Wv:Obj:=fO (u_ E2) (u_ E2) (fp 27) .none (us Pj 1467) 804
noncomputable def Ww:Obj:=cO [(us E3 1533),(us E3 1534),(us dw 1535),(i0 1428),(i0 2),(i0 0),(i0 0),(i0 3),(rf 806),(.bool true),(i0 181),(rf 807),.none,(rf 808),(rf 809),(rf 810),(i0 1538),(i0 1428),(us dw 1539)]
noncomputable def Wy:Obj:=fO (u_ E3) (u_ E3) (fp 28) .none (us Pj 1467) 811
noncomputable def Wz:Obj:=cO [(us E4 1541),(us E4 1542),(us dw 1543),(i0 1430),(i0 4),(i0 0),(i0 0),(i0 3),(rf 813),(.bool true),(i0 181),(rf 814),.none,(rf 815),(rf 816),(rf 817),(i0 1550),(i0 1430),(us dw 1551)]
noncomputable def WA:Obj:=fO (u_ E4) (u_ E4) (fp 29) .none (us Pj 1467) 818
noncomputable def WB:Obj:=cO [(us E5 1553),(us E5 1554),(us dw 1555),(i0 1438),(i0 2),(i0 0),(i0 0),(i0 3),(rf 820),(.bool true),(i0 181),(rf 821),.none,(rf 822),(rf 823),(rf 824),(i0 1567),(i0 1438),(us dw 1568)]
noncomputable def WC:Obj:=fO (u_ E5) (u_ E5) (fp 30) .none (us Pj 1467) 825
noncomputable def WD:Obj:=cO [(us 1962220 1570),(us 1962220 1571),(us dw 1572),(i0 1463),(i0 1),(i0 0),(i0 0),(i0 3),(rf 827),(.bool true),(i0 181),(rf 828),.none,.none,.none,(rf 829),(i0 1573),(i0 1463),(us dw 1574)]
noncomputable def WE:Obj:=fO (u_ 1962220) (u_ 1962220) (fp 31) .none (us Pj 1467) 830
noncomputable def KK (P:Params):Frag:=[(0,o_0 P),(1,o_1 P),(2,o_2),(3,o_3 P),(22,Zl),(27,Zm),(41,Zn),(42,Zo),(48,Zp P),(49,Zq),(62,Zr),(63,Zs),(69,Zt),(70,Zu),(72,Zv P),(73,Zw),(83,Zx),(84,Zy),(97,Zz),(98,ZA),(104,Ua),(105,Ub),(111,Uc),(112,Ud),(118,Ue),(119,Ug),(125,Uh),(126,Ui),(132,Uj),(133,Uk),(134,Ul),(140,Um),(141,Uo),(147,Up),(148,Uq),(149,Ur),(155,Us),(156,Ut),(162,Uv),(163,Uw),(165,Ux P),(166,Uy),(254,Uz),(260,UA),(261,UB),(267,UC),(268,UD),(290,UE),(296,UG),(297,UH),(303,UI),(304,UJ),(311,UK),(318,UL),(325,UM),(332,UN),(338,UO),(339,UP),(346,UQ),(353,UR),(374,US),(381,UT),(388,UU),(395,UW),(402,UX),(409,UY),(415,UZ),(416,U0),(422,U1),(423,U2),(429,U3),(430,U4),(436,U5),(437,U6),(443,U7),(444,U8),(450,U9),(451,Va),(457,Vb),(458,Vc),(464,Vd),(465,Ve),(471,Vf),(472,Vg),(478,Vh),(479,Vi),(485,Vj),(486,Vk),(492,Vl),(493,Vm),(499,Vn),(500,Vo),(506,Vp),(507,Vq),(513,Vr),(514,Vs),(520,Vt),(521,Vu),(527,Vv),(528,Vw),(534,Vx),(535,Vy),(541,Vz),(542,VA),(549,VB),(555,VC),(556,VD),(563,VE),(570,VF),(576,VG),(577,VH),(584,VI),(590,VJ),(591,VK),(761,VL P),(762,VM),(767,VN),(768,VQ),(769,VU),(770,VV),(771,VW),(772,VY),(773,VZ),(774,V6),(775,V8),(776,V9),(777,Wa),(778,Wb),(779,Wc),(780,We),(781,Wf),(782,Wg),(783,Wh),(784,Wj),(785,Wk),(786,Wl),(787,Wm),(788,Wn),(789,Wo),(790,Wq),(791,Wr),(797,Ws),(798,Wt),(804,Wu),(805,Wv),(811,Ww),(812,Wy),(818,Wz),(819,WA),(825,WB),(826,WC),(830,WD),(831,WE)]
noncomputable def F6 (st:SharedT->Thread->Option (SharedT×Thread)) (ok:Thread->Bool):Nat->SharedT->Thread->Option SharedT
 |0,_,_=>none
 |n+1,s,t=>match through t with
  |true=>some s
  |false=>match ok t with
   |false=>none
   |true=>match st s t with
    |some r=>F6 st ok n r.1 r.2
    |none=>none
theorem zr {tb:String->Option Builtin} {p:Program} {w:World} {n₀:Nat} {ann:Option Value} :∀{n:Nat} {s s':SharedT} {t:Thread},F6 (stepT (denote tb) p w) (stepOk n₀ ann) n s t=some s'->topRun tb p w n₀ ann n s.abs t=some s'.abs
 |0,_,_,_,h=>by cases h
 |n+1,s,s',t,h=>by
  unfold F6 at h
  unfold topRun
  cases ht:through t with
  |true=>rw [ht]at h;cases h;rfl
  |false=>
   rw [ht]at h
   cases hk:stepOk n₀ ann t with
   |false=>rw [hk]at h;cases h
   |true=>
    rw [hk]at h
    cases hs:stepT (denote tb) p w s t with
    |none=>rw [hs]at h;cases h
    |some r=>obtain⟨s₂,t₂⟩:=r;rw [hs]at h;rw [stepT_spec hs];exact zr h
noncomputable def Sg:Nat->List Obj->BT->BT
 |_,[],T=>T
 |i,o::r,T=>Sg (i+1) r (T.ins i o)
noncomputable def S0 (w:World) (os:OsState):SharedT:=⟨Sg 0 (boot_heap w.params).objs.toList .nil,11,(boot_heap w.params).life,Array.mk [],boot_drawn,boot_toks,os⟩
theorem MF (w:World) (os:OsState):(S0 w os).abs=⟨boot_heap w.params,Array.mk [],boot_drawn,boot_toks,os⟩:=by kernel_rfl
theorem Cz (P:Params):(boot_heap P).nsMap mainGlobals "__annotations__" = some (.ref 6):=by kernel_rfl
theorem H5 (P:Params):(boot_heap P).isNs mainGlobals=true:=by kernel_rfl
theorem H6 (P:Params):(boot_heap P).objs.size=11:=by kernel_rfl
theorem JE {p q:Program} {loose:List Str} {Xt:Shared->Bool} {α:Type} {Yf:Shared->α} {Ya:World->α} {N:Nat} (e:opening p=plainProg p.main.scope.names) (hN:Nat.ble 600 N=true) (f :∀s,fenceModules? p s=some s)
  (run :∀w os,(F6 (stepT (denote treeTable) p w) (stepOk 11 (some (.ref 6))) N (S0 w os) (topStub p)).map (λs=>(staticsOk (importedModules p.main.body) (boot_heap w.params) s.abs.heap&&namesBound p s.abs.heap&&gensDone s.abs&&laidKept (boot_heap w.params) s.abs.heap,openSeen q loose (importedModules p.main.body) Xt true s.abs,Yf s.abs))=some (true,openGood q loose,Ya w)) :
  LeftO p q loose Xt Yf Ya N:=λw=>by
 obtain⟨⟨h,gs,d,k,os⟩,e1,e2⟩:=Option.map_eq_some_iff.mp (boot_open e hN f w)
 obtain⟨rfl,rfl,rfl,rfl⟩:h=boot_heap w.params/\gs=Array.mk []/\d=boot_drawn/\k=boot_toks:=by simpa using e2
 obtain⟨s,r1,r2⟩:=Option.map_eq_some_iff.mp (run w os)
 have r:=zr r1
 rw [MF]at r
 obtain⟨l1,l2⟩:=Prod.mk.inj r2
 unfold openEnds
 rw [e1]
 show(topFrom treeTable p w N _).map _=_
 have t:topFrom treeTable p w N ⟨boot_heap w.params,Array.mk [],boot_drawn,boot_toks,os⟩=some s.abs:=by
  unfold topFrom
  dsimp only
  rw [Cz,H5,H6,r]
  show(match staticsOk _ _ _&&_&&_&&_ with|true=>_|false=>_)=_
  rw [l1]
 rw [t]
 exact congrArg some l2
noncomputable def qv:Program:={wo with main:={wo.main with body:=[Ge wo.main.body 31]}}
noncomputable def Su:List Str:=(wo.main.scope.names.map (·.1)).dropLast
abbrev L1:OpenLaw:=PySem.Challenge.rw_im0060_02
noncomputable abbrev Yr:Shared->Bool:=λ_=>true
noncomputable def Yt:List Addr:=[0,1,2,3,22,27,41,42,48,49,62,63,69,70,72,73,83,84,97,98,104,105,111,112,118,119,125,126,132,133,134,140,141,147,148,149,155,156,162,163,165,166,254,260,261,267,268,290,296,297,303,304,311,318,325,332,338,339,346,353,374,381,388,395,402,409,415,416,422,423,429,430,436,437,443,444,450,451,457,458,464,465,471,472,478,479,485,486,492,493,499,500,506,507,513,514,520,521,527,528,534,535,541,542,549,555,556,563,570,576,577,584,590,591,761,762,767,768,769,770,771,772,773,774,775,776,777,778,779,780,781,782,783,784,785,786,787,788,789,790,791,797,798,804,805,811,812,818,819,825,826,830,831]
noncomputable def QY (s:Shared):List (Option Obj):=Yt.map s.heap.get?
noncomputable def QX (w:World):List (Option Obj):=(KK w.params).map λp=>some p.2
noncomputable def okB (h₀:Heap) (s:Shared):Bool:=staticsOk (importedModules wo.main.body) h₀ s.heap&&namesBound wo s.heap&&gensDone s&&laidKept h₀ s.heap
noncomputable def Seen (w:World) (os:OsState):Prop:=(F6 (stepT (denote treeTable) wo w) (stepOk 11 (some (.ref 6))) 20000 (S0 w os) (topStub wo)).map (λs=>(staticsOk (importedModules wo.main.body) (boot_heap w.params) s.abs.heap&&namesBound wo s.abs.heap&&gensDone s.abs&&laidKept (boot_heap w.params) s.abs.heap,openSeen qv Su (importedModules wo.main.body) Yr true s.abs,QY s.abs))=some (true,openGood qv Su,QX w)
theorem PR (w:World) (os:OsState):Seen (w.withFollow "special-get-raises" false) os:=by
 unfold Seen
 rw [PySem.W.Fast.te10156331382660048174,PySem.W.Fast.te11892475500146522536,PySem.W.Fast.te14364793385576792824,PySem.W.Fast.te6613529449190102663,PySem.W.Fast.te4187177175401517315]
 kernel_rfl
theorem PT (w:World) (os:OsState):Seen (w.withFollow "special-get-raises" true) os:=by
 unfold Seen
 rw [PySem.W.Fast.te10156331382660048174,PySem.W.Fast.te11892475500146522536,PySem.W.Fast.te14364793385576792824,PySem.W.Fast.te6613529449190102663,PySem.W.Fast.te4187177175401517315]
 kernel_rfl
theorem Gb (w:World) :∀os,Seen w os:=byRow2 "special-get-raises" (P:=λw=>∀os,Seen w os) PR PT w
theorem left:LeftO wo qv Su Yr QY QX 20000:=JE (by kernel_rfl) (by rfl) (λs=>by kernel_rfl) Gb
theorem hd1:sreFenced L1.prog.main=true:=by kernel_rfl
theorem hd2:((moduleNames L1.prog.main.body).isEmpty||lookedIntoSs (moduleNames L1.prog.main.body) L1.prog.main.body)=true:=by kernel_rfl
theorem hd3:namesResolve L1.prog=true:=(congrFun PySem.W.Fast.te8377067652309620493 _).trans (by kernel_rfl)
theorem hd4:L1.prog.boundNames.all (λn=>!worldNames.contains n)=true:=by kernel_rfl
theorem YV:readsOut L1.prog L1.prog.main.body "vars" = false:=by rw [PySem.W.Fast.te13343964577679436407];kernel_rfl
theorem YW:readsOut L1.prog L1.prog.main.body "dir" = false:=by rw [PySem.W.Fast.te13343964577679436407];kernel_rfl
theorem YX:readsOut L1.prog L1.prog.main.body "locals" = false:=by rw [PySem.W.Fast.te13343964577679436407];kernel_rfl
theorem YZ:(!(importedModules L1.prog.main.body).all cThrough.contains)=false:=by kernel_rfl
theorem Y0:noRoadLSs {strict:=false,foot:=none,bare:=[]} L1.prog.main.body=true:=(congrFun (congrFun PySem.W.Fast.te8326940854005059898 _) _).trans (by kernel_rfl)
theorem hd5:noRoadLSs {strict:=!(importedModules L1.prog.main.body).all cThrough.contains,foot:=none,bare:=(["vars","dir","locals"]:List Str).filter (readsOut L1.prog L1.prog.main.body)} L1.prog.main.body=true:=by
 have e:(["vars","dir","locals"]:List Str).filter (readsOut L1.prog L1.prog.main.body)=[]:=by
  rw [List.filter_cons,YV,List.filter_cons,YW,List.filter_cons,YX];rfl
 rw [e,YZ];exact Y0
theorem hd6:(namesMeet L1.prog L1.prog.main.body λ_ n=>attrL n)=true:=by
 rw [PySem.W.Fast.te17119622794617984870,PySem.W.Fast.te17868728402115742887];kernel_rfl
theorem Ku:looksOpen L1.prog=true:=look_both (look_both (look_both (look_both (look_both hd1 hd2) hd3) hd4) hd5) hd6
theorem PL:L1.row.partSaid=true:=by
 unfold OpenRow.partSaid
 iterate 13 (refine look_both ?_ ?_;rotate_left;kernel_rfl)
 exact Ku
theorem s_row:L1.row.wellSaid=true:=by
 unfold OpenRow.wellSaid
 exact look_both (look_both PL (by kernel_rfl)) (by kernel_rfl)
theorem ht1:(namesMeet L1.prog L1.footing λsc n=>sc.kind==.module||sc.names.lookup n != some .globalExplicit)=true:=by
 rw [PySem.W.Fast.te17119622794617984870];kernel_rfl
theorem ht2:(namesMeet L1.prog L1.above (λ_ n=>!L1.own.contains n))=true:=by
 rw [PySem.W.Fast.te17119622794617984870];kernel_rfl
theorem ht6:(namesMeet L1.prog L1.footing (λsc n=>(!(["type","isinstance","issubclass","getattr","hasattr"]:List Str).contains n||sc.names.lookup n==some .globalImplicit)&&
  (L1.may != some n||sc.kind==.module||sc.names.lookup n==some .globalImplicit)))=true:=by
 rw [PySem.W.Fast.te17119622794617984870];kernel_rfl
theorem ht9:L1.bound'.all (λn=>!builtinNamed n||L1.about==[n]||!L1.reads n)=true:=by
 rw [PySem.W.Fast.te6984425678791042302,PySem.W.Fast.named_eq];kernel_rfl
theorem Y3:L1.namesIt=true:=(congrFun PySem.W.Fast.te16286561074155671207 _).trans (by kernel_rfl)
theorem Y4:noRoadLSs {strict:=true,foot:=some L1.bound',writes:=L1.writes,may:=L1.may} L1.footing=true:=
 (congrFun (congrFun PySem.W.Fast.te8326940854005059898 _) _).trans (by kernel_rfl)
theorem F9:L1.wellSaid=true:=by
 unfold OpenLaw.wellSaid
 refine look_both (look_both (look_both (look_both (look_both (look_both (look_both (look_both (look_both (look_both (look_both (look_both (look_both (look_both (look_both (look_both (look_both (look_both s_row (by kernel_rfl)) (by kernel_rfl)) (by kernel_rfl)) (by kernel_rfl)) (by kernel_rfl)) Y4) (by kernel_rfl)) Y3) (by kernel_rfl)) ht9) (by kernel_rfl)) (by kernel_rfl)) ht6) (by kernel_rfl)) (by kernel_rfl)) (by rw [PySem.W.Fast.named_eq];kernel_rfl)) ht2) ht1
inductive Cl where|txt|ay|tok
deriving DecidableEq,Inhabited
inductive Bi where|len|ord|chr|sum|max|min|mQ|range|bool
deriving DecidableEq,Inhabited
inductive Fn where
 |ju|g8|oq|iM
 |zt|tf|zu|jl|lZ|ip|iL|jk|pU|pT
 |wa|j8|zD|bw|tRc|Xa|Gq|LW|LV|LU|Gu|Gs|Gr
 |jC|tAN|tAAN|BB|tADQ|tASQ|BA|tAAV|BN
 |tEnt|tCRR|wb
 |tS|tSLt|tSEO|tSEN|tSES|tSESD|tSE|tSED|tSEDD|tSELt|tSEEO|tSEEN|tSDES|tSDE|tSDED|bG|bB|tSDEE
 |mU|pq|iT|aao|aap|aan|lSeek|lClose|law|zp
deriving DecidableEq,Inhabited
inductive AV where
 |none|bool (b:Bool)|int (i:Int)|str (s:List Nat)
 |tup (vs:List AV)|lst (vs:List AV)|ck (es:List (Nm×AV))
 |tX (n:Nat)|a5 (n:Nat)|fn (f:Fn)|cls (c:Cl)|bi (b:Bi)|bD (f:Fn) (self:AV)|inst (c:Cl) (n:Nat)
deriving Inhabited
inductive AO where
 |list (vs:List AV)|dict (es:List (Nm×AV))|ay (lT lS:Nat) (rb au:List Nat) (ended:Bool)|txt (t:List Nat) (done:Bool)
deriving Inhabited
noncomputable def lk {α:Type}:List (Nm×α)->Nm->Option α
 |[],_=>Option.none
 |p::r,n=>if p.1=n then some p.2 else lk r n
noncomputable def pt {α:Type}:List (Nm×α)->Nm->α->List (Nm×α)
 |[],n,v=>[(n,v)]
 |p::r,n,v=>if p.1=n then(p.1,v)::r else p::pt r n v
theorem dT {α:Type} {p:Nm×α} {r:List (Nm×α)} {n:Nm}:lk (p::r) n=if p.1=n then some p.2 else lk r n:=rfl
theorem fD {α:Type} {p:Nm×α} {r:List (Nm×α)} {n:Nm} {v:α}:pt (p::r) n v=if p.1=n then(p.1,v)::r else p::pt r n v:=rfl
noncomputable def bQ:List Nat->List Nat->Bool
 |[],[]=>true
 |a::r,b::q=>Nat.beq a b&&bQ r q
 |_,_=>false
noncomputable def Oe {α:Type}:List (Nm×α)->List Nat->Option α
 |[],_=>Option.none
 |p::r,s=>cond (bQ (EY p.1) s) (some p.2) (Oe r s)
noncomputable def WJ {α:Type}:List (Nm×α)->List Nat->α->Option (List (Nm×α))
 |[],_,_=>Option.none
 |p::r,s,v=>cond (bQ (EY p.1) s) (some ((p.1,v)::r)) ((WJ r s v).map (p::·))
structure St where
 H:List AO
 V:List (Nm×AV)
 O:List Nat:=[]
deriving Inhabited
inductive Fl where|nx|bk|rt (v:AV)
deriving Inhabited
inductive Kd where|loc|qt|cS
deriving DecidableEq,Inhabited
inductive nP where|add|sub|mul|fdiv|mod
deriving DecidableEq
inductive nR where|eq|ne|lt|le|gt|ge|is|isn|isin|nin
deriving DecidableEq
mutual
inductive Ex where
 |c (v:AV)|v (x:Nm)|g (x:Nm)|no|bad
 |at(e:Ex) (a:Nm)|ix (e i:Ex)|sl (e lo hi:Ex)
 |bin (o:nP) (a b:Ex)|cmp (a:Ex) (r:kz)|and (es:fe)|or (es:fe)|not (e:Ex)|neg (e:Ex)|ite (t a b:Ex)
 |tup (es:fe)|lst (es:fe) (frz:Bool)|ck (ks:tZ) (frz:Bool)
 |call (f:Ex) (as:fe)|aq (o:Ex) (m:Nm) (as:fe)
 |comp (ks:List (Nm×Kd)) (elt:Ex) (t:List Nm) (it:Ex) (cs:fe)
inductive fe where|nil|cons (e:Ex) (r:fe)
inductive kz where|nil|cons (o:nR) (e:Ex) (r:kz)
inductive tZ where|nil|cons (k:Nm) (e:Ex) (r:tZ)
end
inductive Tg where|v (x:Nm)|at(e:Ex) (a:Nm)|ix (e i:Ex)|bad
mutual
inductive Sx where
 |exp (e:Ex)|asg (t:Tg) (e:Ex)|wH (x:Nm) (e:Ex)|iN (ts:List Tg) (e:Ex)|aug (t:Tg) (o:nP) (e:Ex)
 |ite (t:Ex) (a b:c5)|nN (t:Ex) (b:c5)|fr (ts:List Nm) (tup:Bool) (e:Ex) (b:c5)
 |ret (e:Ex)|brk|pass|zZ (e:Ex)|bad
inductive c5 where|nil|cons (s:Sx) (r:c5)
end
structure cy where
 call:Fn->List AV->List AO->Option (AV×List AO×List Nat)
 glob:Nm->Option AV
 bD:Cl->Nm->Option Fn
 cP:Cl->Nm->Option AV
 init:Cl->Fn
 fuel:Nat
noncomputable def kM (s:List Nat):Nat:=s.count 10
noncomputable def f9:List Nat->Nat
 |[]=>0
 |c::r=>match Nat.beq c 10 with|true=>0|false=>f9 r+1
noncomputable def aG (lT lS:Nat) (rb au:List Nat) (ended:Bool):List (Nm×AV):=
 [(.a9,.bD .jk (.inst .ay lS)),(.eQ,.lst [.int 0]),(.c9,.inst .txt lT),(.bC,.str (cond ended [] (rb.reverse++au))),(.aH,.int (cond ended 0 ((rb.length+au.length:Nat):Int))),(.az,.int (cond ended 0 (rb.length:Int))),(.d9,.lst []),(.bM,.int (cond ended (kM rb:Int) 0)),(.bS,.int (cond ended (f9 rb:Int) 0)),(.a7,.none)]
noncomputable def AO.fl:AO->Option (List (Nm×AV))
 |.dict aR=>some aR
 |.ay lT lS b a e=>some (aG lT lS b a e)
 |.txt t d=>some [(.aj,.str t),(.ah,.int (cond d (t.length:Int) 0))]
 |.list _=>Option.none
noncomputable def aX (s:List Nat):List Nat:=(Txt.lower ⟨s.toArray⟩).cps.toList
theorem nn {α:Type} {x:α} {P:Prop} (h:none=some x):P:=nomatch h
noncomputable def bd {α β:Type} (o:Option α) (f:α->Option β):Option β:=match o with
 |some x=>f x
 |Option.none=>Option.none
@[simp] theorem XX {α β:Type} (a:α) (f:α->Option β):bd (some a) f=f a:=rfl
@[simp] theorem XW {α β:Type} (f:α->Option β):bd Option.none f=Option.none:=rfl
theorem ar {α β:Type} {o:Option α} {f:α->Option β} {r:β} {P:Prop} (h:bd o f=some r) (k :∀x,f x=some r->o=some x->P):P:=by
 cases o with
 |none=>cases h
 |some x=>exact k x h rfl
theorem aA {α β:Type} {o:Option α} {f:α->Option β} {r:Option β} {x:α} (e:o=some x) (h:f x=r):bd o f=r:=e▸h
noncomputable def alt {α β:Type} (o:Option α) (f:α->Option β) (b:Option β):Option β:=match o with
 |some x=>f x
 |Option.none=>b
@[simp] theorem Q8 {α β:Type} (a:α) (f:α->Option β) (b:Option β):alt (some a) f b=f a:=rfl
@[simp] theorem Q7 {α β:Type} (f:α->Option β) (b:Option β):alt Option.none f b=b:=rfl
theorem b7 {α β:Type} {o:Option α} {f:α->Option β} {b:Option β} {r:β} {P:Prop} (h:alt o f b=some r) (k :∀x,f x=some r->o=some x->P) (k':b=some r->P):P:=by
 cases o with
 |none=>exact k' h
 |some x=>exact k x h rfl
noncomputable def je {α:Type} (b:Bool) (r:α):Option α:=cond b (some r) Option.none
@[simp] theorem iff_true {α:Type} (r:α):je true r=some r:=rfl
@[simp] theorem iff_false {α:Type} (r:α):je false r=Option.none:=rfl
theorem gF {α:Type} {b:Bool} {r r':α} {P:Prop} (h:je b r=some r') (k:b=true->r=r'->P):P:=by
 cases b with
 |true=>exact k rfl (Option.some.inj h)
 |false=>cases h
theorem bR {α:Type} {b:Bool} {x y:Option α} {r:α} {P:Prop} (h:cond b x y=some r) (k:x=some r->b=true->P) (k':y=some r->b=false->P):P:=by
 cases b with
 |true=>exact k h rfl
 |false=>exact k' h rfl
theorem ig {α β:Type} {o:Option α} {f:α->β} {r:β} {P:Prop} (h:o.map f=some r) (k :∀x,f x=r->o=some x->P):P:=by
 cases o with
 |none=>cases h
 |some x=>exact k x (Option.some.inj h) rfl
noncomputable def jQ:AV->Option Int|.int i=>some i|_=>Option.none
noncomputable def gU:AV->Option (List Nat)|.str i=>some i|_=>Option.none
noncomputable def zW:AV->Option Bool|.bool i=>some i|_=>Option.none
noncomputable def kA:AV->Option Unit|.none=>some ()|_=>Option.none
noncomputable def nI:AV->Option (List AV)|.tup i=>some i|_=>Option.none
noncomputable def x8:AV->Option (List AV)|.lst i=>some i|_=>Option.none
noncomputable def BK:AV->Option (List (Nm×AV))|.ck i=>some i|_=>Option.none
noncomputable def eZ:AV->Option Nat|.a5 i=>some i|_=>Option.none
noncomputable def qp:AV->Option (Cl×Nat)|.inst c n=>some (c,n)|_=>Option.none
noncomputable def mw:AV->Option Unit|.bi b=>(match b with|.bool=>some ()|_=>Option.none)|_=>Option.none
section
variable {i:Int} {s:List Nat} {b:Bool} {vs:List AV} {es:List (Nm×AV)} {n:Nat} {c:Cl} {x:Bi} {f:Fn}
@[simp] theorem Xu:jQ (.int i)=some i:=rfl
@[simp] theorem Xx:jQ (.str s)=Option.none:=rfl
@[simp] theorem Rc:jQ .none=Option.none:=rfl
@[simp] theorem Rb:jQ (.bool b)=Option.none:=rfl
@[simp] theorem Xy:jQ (.tup vs)=Option.none:=rfl
@[simp] theorem Xw:jQ (.lst vs)=Option.none:=rfl
@[simp] theorem Xv:jQ (.a5 n)=Option.none:=rfl
@[simp] theorem XN:gU (.str s)=some s:=rfl
@[simp] theorem XJ:gU (.int i)=Option.none:=rfl
@[simp] theorem Ri:gU .none=Option.none:=rfl
@[simp] theorem Rh:gU (.bool b)=Option.none:=rfl
@[simp] theorem XO:gU (.tup vs)=Option.none:=rfl
@[simp] theorem XM:gU (.lst vs)=Option.none:=rfl
@[simp] theorem XK:gU (.a5 n)=Option.none:=rfl
@[simp] theorem Ra:zW (.bool b)=some b:=rfl
@[simp] theorem Rg:kA .none=some ():=rfl
@[simp] theorem XE:kA (.int i)=Option.none:=rfl
@[simp] theorem XH:kA (.str s)=Option.none:=rfl
@[simp] theorem Rd:kA (.bool b)=Option.none:=rfl
@[simp] theorem XI:kA (.tup vs)=Option.none:=rfl
@[simp] theorem XG:kA (.lst vs)=Option.none:=rfl
@[simp] theorem XF:kA (.a5 n)=Option.none:=rfl
@[simp] theorem Rf:kA (.inst c n)=Option.none:=rfl
@[simp] theorem XU:nI (.tup vs)=some vs:=rfl
@[simp] theorem XQ:nI (.int i)=Option.none:=rfl
@[simp] theorem XT:nI (.str s)=Option.none:=rfl
@[simp] theorem XS:nI (.lst vs)=Option.none:=rfl
@[simp] theorem XR:nI (.a5 n)=Option.none:=rfl
@[simp] theorem XB:x8 (.lst vs)=some vs:=rfl
@[simp] theorem Xz:x8 (.int i)=Option.none:=rfl
@[simp] theorem XC:x8 (.str s)=Option.none:=rfl
@[simp] theorem XD:x8 (.tup vs)=Option.none:=rfl
@[simp] theorem XA:x8 (.a5 n)=Option.none:=rfl
@[simp] theorem Xp:BK (.ck es)=some es:=rfl
@[simp] theorem Xq:BK (.a5 n)=Option.none:=rfl
@[simp] theorem Xr:BK (.lst vs)=Option.none:=rfl
@[simp] theorem Xs:BK (.tup vs)=Option.none:=rfl
@[simp] theorem Ql:eZ (.a5 n)=some n:=rfl
@[simp] theorem Qm:eZ (.lst vs)=Option.none:=rfl
@[simp] theorem Qn:eZ (.tup vs)=Option.none:=rfl
@[simp] theorem Qk:qp (.inst c n)=some (c,n):=rfl
@[simp] theorem K6:mw (.bi .bool)=some ():=rfl
end
section
variable {P:AV->Prop} {x:AV}
@[elab_as_elim] theorem wF {i:Int} (h:jQ x=some i) (k:P (.int i)):P x:=by cases x<;>first|exact nn h|exact Option.some.inj h▸k
@[elab_as_elim] theorem Cp {i:List Nat} (h:gU x=some i) (k:P (.str i)):P x:=by cases x<;>first|exact nn h|exact Option.some.inj h▸k
@[elab_as_elim] theorem wD {i:Bool} (h:zW x=some i) (k:P (.bool i)):P x:=by cases x<;>first|exact nn h|exact Option.some.inj h▸k
@[elab_as_elim] theorem wG {i:Unit} (h:kA x=some i) (k:P .none):P x:=by cases x<;>first|exact nn h|exact k
@[elab_as_elim] theorem Cq {i:List AV} (h:nI x=some i) (k:P (.tup i)):P x:=by cases x<;>first|exact nn h|exact Option.some.inj h▸k
@[elab_as_elim] theorem MV {i:List AV} (h:x8 x=some i) (k:P (.lst i)):P x:=by cases x<;>first|exact nn h|exact Option.some.inj h▸k
@[elab_as_elim] theorem Cm {i:List (Nm×AV)} (h:BK x=some i) (k:P (.ck i)):P x:=by cases x<;>first|exact nn h|exact Option.some.inj h▸k
@[elab_as_elim] theorem Co {i:Nat} (h:eZ x=some i) (k:P (.a5 i)):P x:=by cases x<;>first|exact nn h|exact Option.some.inj h▸k
@[elab_as_elim] theorem HT {i:Cl×Nat} (h:qp x=some i) (k:P (.inst i.1 i.2)):P x:=by cases x<;>first|exact nn h|(cases h;exact k)
@[elab_as_elim] theorem zX {i:Unit} (h:mw x=some i) (k:P (.bi .bool)):P x:=by
 cases x with
 |bi b=>cases b<;>first|exact k|exact nn h
 |_=>exact nn h
end
noncomputable def AO.ls:AO->Option (List AV)|.list vs=>some vs|.dict _=>Option.none|.ay ..=>Option.none|.txt ..=>Option.none
noncomputable def AO.ds:AO->Option (List (Nm×AV))|.list _=>Option.none|.dict vs=>some vs|.ay ..=>Option.none|.txt ..=>Option.none
@[simp] theorem Yb {vs:List AV}:(AO.list vs).ls=some vs:=rfl
@[simp] theorem XZ {vs:List (Nm×AV)}:(AO.dict vs).ds=some vs:=rfl
@[simp] theorem X9 {vs:List (Nm×AV)}:(AO.dict vs).ls=Option.none:=rfl
@[elab_as_elim] theorem Sy {P:AO->Prop} {o:AO} {vs:List AV} (h:o.ls=some vs) (k:P (.list vs)):P o:=by cases o<;>first|exact nn h|exact Option.some.inj h▸k
@[elab_as_elim] theorem RT {P:AO->Prop} {o:AO} {vs:List (Nm×AV)} (h:o.ds=some vs) (k:P (.dict vs)):P o:=by cases o<;>first|exact nn h|exact Option.some.inj h▸k
noncomputable def fb (H:List AO) (n:Nat):Option (List AV):=bd H[n]? AO.ls
noncomputable def gQ (H:List AO) (n:Nat):Option (List (Nm×AV)):=bd H[n]? AO.ds
noncomputable def iO (H:List AO) (n:Nat):Option (List (Nm×AV)):=bd H[n]? AO.fl
theorem pA {H:List AO} {n:Nat} {vs:List AV} (h:fb H n=some vs):H[n]?=some (.list vs):=ar h λ_ h e=>e.trans (Sy h rfl)
theorem uD {H:List AO} {n:Nat} {vs:List (Nm×AV)} (h:gQ H n=some vs):H[n]?=some (.dict vs):=ar h λ_ h e=>e.trans (RT h rfl)
theorem gZ {H:List AO} {n:Nat} {vs:List AV} (h:H[n]?=some (.list vs)):fb H n=some vs:=aA h rfl
theorem Iy {H:List AO} {n:Nat} {vs:List (Nm×AV)} (h:H[n]?=some (.dict vs)):gQ H n=some vs:=aA h rfl
noncomputable def Xo {α:Type}:List α->Option Unit|[]=>some ()|_::_=>Option.none
noncomputable def jN {α:Type}:List α->Option α|[]=>Option.none|x::r=>bd (Xo r) λ_=>some x
noncomputable def zV {α:Type}:List α->Option (α×α)|[]=>Option.none|x::r=>bd (jN r) λy=>some (x,y)
noncomputable def K5 {α:Type}:List α->Option (α×α×α)|[]=>Option.none|x::r=>bd (zV r) λy=>some (x,y)
section
variable {α:Type} {a b c d:α} {r:List α}
@[simp] theorem Z6:jN [a]=some a:=rfl
@[simp] theorem Z8:zV [a,b]=some (a,b):=rfl
@[simp] theorem Z9:K5 [a,b,c]=some (a,b,c):=rfl
@[simp] theorem Z5:jN ([]:List α)=Option.none:=rfl
@[simp] theorem Z7:jN (a::b::r)=Option.none:=rfl
theorem jt {l:List α} {x:α} (h:jN l=some x):l=[x]:=by
 cases l with
 |nil=>cases h
 |cons a r=>cases r<;>cases h;rfl
theorem Ck {l:List α} {x:α×α} (h:zV l=some x):l=[x.1,x.2]:=by
 cases l with
 |nil=>cases h
 |cons a r=>exact ar h λy q e=>by rw [jt e,<-Option.some.inj q]
theorem MU {l:List α} {x:α×α×α} (h:K5 l=some x):l=[x.1,x.2.1,x.2.2]:=by
 cases l with
 |nil=>cases h
 |cons a r=>exact ar h λy q e=>by rw [Ck e,<-Option.some.inj q]
end
noncomputable def bW (H:List AO) (x:AV):Option Bool:=match x with
 |.none=>some false
 |.bool b=>some b
 |.int i=>some (!(i==0))
 |.str s=>some (!s.isEmpty)
 |.lst vs=>some (!vs.isEmpty)
 |.a5 n=>alt (fb H n) (λvs=>some (!vs.isEmpty)) (bd (gQ H n) λaR=>some (!aR.isEmpty))
 |.bD ..=>some true
 |.tup _=>Option.none
 |.ck _=>Option.none
 |.tX _=>Option.none
 |.fn _=>Option.none
 |.cls _=>Option.none
 |.bi _=>Option.none
 |.inst ..=>Option.none
section
variable {H:List AO} {b:Bool} {i:Int} {s:List Nat} {vs:List AV} {n:Nat} {f:Fn} {x:AV}
@[simp] theorem L9:bW H .none=some false:=rfl
@[simp] theorem L7:bW H (.bool b)=some b:=rfl
@[simp] theorem Qa:bW H (.int i)=some (!(i==0)):=rfl
@[simp] theorem Qd:bW H (.str s)=some (!s.isEmpty):=rfl
@[simp] theorem Qc:bW H (.lst vs)=some (!vs.isEmpty):=rfl
@[simp] theorem Qb:bW H (.a5 n)=alt (fb H n) (λvs=>some (!vs.isEmpty)) (bd (gQ H n) λaR=>some (!aR.isEmpty)):=rfl
@[simp] theorem L8:bW H (.bD f x)=some true:=rfl
end
noncomputable def i2 {α:Type} (x y:AV) (f:Int->Int->Option α) (e:Option α):Option α:=alt (jQ x) (λa=>bd (jQ y) (f a)) e
noncomputable def s2 {α:Type} (x y:AV) (f:List Nat->List Nat->Option α) (e:Option α):Option α:=alt (gU x) (λa=>bd (gU y) (f a)) e
noncomputable def mz (o:nP) (x y:AV):Option (AV×List Nat):=match o with
 |.add=>i2 x y (λa b=>some (.int (a+b),[])) (s2 x y (λa b=>some (.str (a++b),[a.length+b.length])) Option.none)
 |.sub=>i2 x y (λa b=>some (.int (a-b),[])) Option.none
 |.mod=>i2 x y (λa b=>je (decide (0<b)&&decide (b<100000)) (.int (Int.fmod a b),[])) Option.none
 |.fdiv=>i2 x y (λa b=>je (decide (0<b)&&decide (b<100000)) (.int (Int.fdiv a b),[])) Option.none
 |.mul=>Option.none
noncomputable def Rp (x y:AV):Option (AV×List Nat):=bd (nI x) λa=>bd (nI y) λb=>cond (a.isEmpty||b.isEmpty) Option.none (some (.tup (a++b),[a.length+b.length]))
noncomputable def M3 (o:nP) (x y:AV):Option (AV×List Nat):=match o with
 |.add=>alt (Rp x y) some (mz .add x y)
 |.sub=>mz .sub x y
 |.mod=>mz .mod x y
 |.fdiv=>mz .fdiv x y
 |.mul=>Option.none
noncomputable def Zf (x y:AV) (e:Option Bool):Option Bool:=alt (kA x) (λ_=>alt (kA y) (λ_=>some true) (bd (gU y) λ_=>some false)) (alt (gU x) (λa=>alt (kA y) (λ_=>some false) (bd (gU y) λb=>some (bQ a b))) e)
noncomputable def YL (x y:AV):Option Bool:=Zf x y (i2 x y (λa b=>some (a==b)) Option.none)
noncomputable def o3 (x:AV):List AV->Option Bool
 |[]=>some false
 |y::r=>bd (YL y x) λb=>bd (o3 x r) λc=>some (b||c)
noncomputable def aM:List Nat->List Nat->Bool
 |[],_=>true
 |a::r,b::q=>Nat.beq a b&&aM r q
 |_::_,[]=>false
noncomputable def ZM (a:List Nat):List Nat->Bool
 |[]=>a.isEmpty
 |b::q=>aM a (b::q)||ZM a q
noncomputable def Ha:List Nat->List Nat->Bool
 |[],_=>true
 |_::_,[]=>false
 |a::r,b::q=>if a=b then Ha r q else decide (a<b)
noncomputable def vi (f:AV->Option AV):List AV->Option (List AV)
 |[]=>some []
 |x::r=>bd (f x) λy=>bd (vi f r) λq=>some (y::q)
noncomputable def OA (f:AV->Option AV):List (Nm×AV)->Option (List (Nm×AV))
 |[]=>some []
 |p::r=>bd (f p.2) λy=>bd (OA f r) λq=>some ((p.1,y)::q)
noncomputable def Dd:AV->Option AV
 |.none=>some .none
 |.bool b=>some (.bool b)
 |.int i=>some (.int i)
 |.str s=>some (.str s)
 |_=>Option.none
noncomputable def fP (H:List AO):Nat->Bool->AV->Option AV
 |0,_,v=>Dd v
 |k+1,d,v=>
  alt (nI v) (λvs=>(vi (fP H k d) vs).map .tup)
  (alt (alt (x8 v) some (bd (eZ v) λn=>fb H n)) (λvs=>(vi (fP H k d) vs).map .lst)
  (alt (alt (BK v) some (bd (eZ v) λn=>gQ H n)) (λaR=>cond d ((OA (fP H k false) aR).map .ck) Option.none)
  (Dd v)))
noncomputable def Y6 (x:AV):Bool:=(kA x).isSome
noncomputable def uq (o:nR) (x y:AV):Option Bool:=match o with
 |.is=>bd (kA y) λ_=>some (Y6 x)
 |.isn=>bd (kA y) λ_=>some (!Y6 x)
 |.eq=>Zf x y (i2 x y (λa b=>some (a==b)) (bd (zW x) λa=>bd (zW y) λb=>some (a==b)))
 |.ne=>i2 x y (λa b=>some (!(a==b))) (s2 x y (λa b=>some (!bQ a b)) Option.none)
 |.lt=>i2 x y (λa b=>some (decide (a<b))) Option.none
 |.le=>i2 x y (λa b=>some (decide (a<=b))) (s2 x y (λa b=>some (Ha a b)) Option.none)
 |.gt=>i2 x y (λa b=>some (decide (b<a))) Option.none
 |.ge=>i2 x y (λa b=>some (decide (b<=a))) Option.none
 |.isin=>alt (nI y) (λvs=>o3 x vs) (bd (gU y) λb=>bd (gU x) λa=>bd (jN a) λc=>some (b.any (Nat.beq c)))
 |.nin=>Option.none
noncomputable def Ll:nR->Bool|.eq=>true|_=>false
noncomputable def Lp:nR->Bool|.ne=>true|_=>false
open Classical in
noncomputable def neT (H:List AO) (a b:AV):Option Bool:=bd (fP H 6 false a) λx=>bd (nI x) λ_=>bd (fP H 6 false b) λy=>if x=y then some false else Option.none
open Classical in
noncomputable def Ye (H:List AO) (a b:AV):Option Bool:=bd (fP H 6 true a) λx=>bd (BK x) λ_=>bd (fP H 6 true b) λy=>if x=y then some false else Option.none
open Classical in
noncomputable def jU (H:List AO) (o:nR) (a b:AV):Option Bool:=
 alt (uq o a b) some (cond (Ll o) (bd (fP H 6 true a) λx=>bd (fP H 6 true b) λy=>if x=y then some true else Option.none) (cond (Lp o) (alt (neT H a b) some (Ye H a b)) Option.none))
noncomputable def idx (i:Int) (n:Nat):Option Nat:=cond (decide (0<=i)) (je (decide (i.toNat<n)) i.toNat) (je (decide (0<=i+n)) (i+n).toNat)
noncomputable def Y5 (i:Int) (n:Nat):Option Nat:=je (decide (0<=i)&&decide (i.toNat<n)) i.toNat
noncomputable def dh (i:Int) (n:Nat):Nat:=clipAt n i
noncomputable def eM {α:Type} (l:List α) (lo hi:Nat):List α:=(l.take hi).drop lo
noncomputable def Bq (H:List AO) (x:AV):Option (List AV):=alt (x8 x) some (bd (eZ x) λn=>fb H n)
noncomputable def nM (H:List AO) (x k:AV):Option AV:=alt (jQ k)
 (λi=>alt (gU x) (λs=>(idx i s.length).map λj=>.str [s.getD j 0]) (alt (nI x) (λvs=>(idx i vs.length).map λj=>vs.getD j .none) (bd (Bq H x) λvs=>(idx i vs.length).map λj=>vs.getD j .none)))
 (bd (gU k) λs=>alt (BK x) (λes=>Oe es s) (bd (eZ x) λn=>bd (gQ H n) λes=>Oe es s))
noncomputable def Yx (d:Nat) (n:Nat) (x:AV):Option Nat:=alt (kA x) (λ_=>some d) (bd (jQ x) λi=>some (dh i n))
noncomputable def M6 {α:Type} (n:Nat) (lo hi:AV) (f:Nat->Nat->α):Option α:=bd (Yx 0 n lo) λa=>bd (Yx n n hi) λb=>some (f a b)
noncomputable def vx (H:List AO) (x lo hi:AV):Option AV:=alt (gU x) (λs=>M6 s.length lo hi λa b=>.str (eM s a b)) (bd (Bq H x) λvs=>M6 vs.length lo hi λa b=>.lst (eM vs a b))
noncomputable def GZ (G:cy) (aR:List (Nm×AV)) (c:Cl) (n:Nat) (a:Nm):Option AV:=match G.bD c a with
 |some f=>(match G.cP c a with
  |some _=>Option.none
  |Option.none=>(match lk aR a with
   |some _=>Option.none
   |Option.none=>some (.bD f (.inst c n))))
 |Option.none=>(match G.cP c a with
  |some v=>(match lk aR a with
   |some _=>Option.none
   |Option.none=>some v)
  |Option.none=>lk aR a)
theorem Ct {G:cy} {aR:List (Nm×AV)} {c:Cl} {n:Nat} {a:Nm} (h:G.bD c a=Option.none) (h2:G.cP c a=Option.none):GZ G aR c n a=lk aR a:=by
 unfold GZ;rw [h,h2]
theorem MX {G:cy} {aR:List (Nm×AV)} {c:Cl} {n:Nat} {a:Nm} {r:AV} {P:AV->Prop} (h:GZ G aR c n a=some r) (k1 :∀f,G.bD c a=some f->lk aR a=Option.none->P (.bD f (.inst c n)))
  (k2 :∀v,G.cP c a=some v->lk aR a=Option.none->P v) (k3 :∀v,G.bD c a=Option.none->G.cP c a=Option.none->lk aR a=some v->P v):P r:=by
 unfold GZ at h
 generalize e1:G.bD c a=m at h
 generalize e2:G.cP c a=d at h
 generalize e3:lk aR a=l at h
 cases m<;>cases d<;>cases l<;>cases h
 ·exact k3 _ e1 e2 e3
 ·exact k2 _ e2 e3
 ·exact k1 _ e1 e3
noncomputable def rP (G:cy) (H:List AO) (x:AV) (a:Nm):Option AV:=bd (qp x) λq=>bd (iO H q.2) λaR=>GZ G aR q.1 q.2 a
noncomputable def jm:List AV->Option (List (List Nat))
 |[]=>some []
 |x::r=>bd (gU x) λs=>(jm r).map (s::·)
noncomputable def ri:List AV->Option (List Int)
 |[]=>some []
 |x::r=>bd (jQ x) λi=>(ri r).map (i::·)
noncomputable def BL (H:List AO) (b:Bi) (as:List AV):Option (AV×List Nat):=match b with
 |.len=>bd (jN as) λx=>alt (gU x) (λs=>some (.int s.length,[])) (alt (Bq H x) (λvs=>some (.int vs.length,[])) (bd (nI x) λvs=>some (.int vs.length,[])))
 |.ord=>bd (jN as) λx=>bd (gU x) λs=>bd (jN s) λc=>some (.int c,[])
 |.chr=>bd (jN as) λx=>bd (jQ x) λi=>je (decide (0<=i)&&decide (i<55296)) (.str [i.toNat],[])
 |.sum=>bd (jN as) λx=>bd (x8 x) λvs=>(ri vs).map λl=>(.int l.sum,[])
 |.max=>bd (zV as) λp=>i2 p.1 p.2 (λa b=>some (.int (max a b),[])) Option.none
 |.min=>bd (zV as) λp=>i2 p.1 p.2 (λa b=>some (.int (min a b),[])) Option.none
 |.mQ=>bd (zV as) λp=>bd (zW p.1) λ_=>bd (mw p.2) λ_=>some (.bool true,[])
 |.range=>bd (jN as) λx=>bd (jQ x) λi=>je (decide (0<=i)) (.tX i.toNat,[i.toNat])
 |.bool=>Option.none
noncomputable def dN (c:Nat) (s:List Nat):Int:=(List.range s.length).foldl (λ(l:Int) (i:Nat)=>if s[i]?=some c then(i:Int)else l) (-1)
inductive SO where|lower|join|count|rfind|replace
noncomputable def SO.nm:SO->Nm|.lower=>.eW|.join=>.gJ|.count=>.n6|.rfind=>.n7|.replace=>.jh
noncomputable def jK (m:Nm):Option SO:=[SO.lower,SO.join,SO.count,SO.rfind,SO.replace].find? λo=>Nat.beq o.nm.1 m.1
theorem Gk {m:Nm} {o:SO} (h:jK m=some o):m=o.nm:=Fin.ext (Nat.eq_of_beq_eq_true (List.find?_some (p:=λo:SO=>Nat.beq o.nm.1 m.1) h)).symm
@[simp] theorem j7:jK .eW=some .lower:=rfl
@[simp] theorem xX:jK .gJ=some .join:=rfl
@[simp] theorem LN:jK .n6=some .count:=rfl
@[simp] theorem LP:jK .n7=some .rfind:=rfl
@[simp] theorem Hb:jK .jh=some .replace:=rfl
noncomputable def upTo (s:List Nat) (p:AV×AV×AV) (f:Nat->Nat->AV):Option (AV×List Nat):=bd (gU p.1) λt=>bd (jN t) λc=>bd (jQ p.2.1) λa=>bd (jQ p.2.2) λb=>je (decide (a=0)&&(decide (0<=b)&&decide (b<=s.length))) (f c b.toNat,[])
noncomputable def Sn (H:List AO) (s:List Nat) (x:AV):Option (AV×List Nat):=bd (Bq H x) λvs=>cond s.isEmpty ((jm vs).map λl=>(.str l.flatten,[l.flatten.length])) Option.none
noncomputable def LM (H:List AO) (o:SO) (s:List Nat) (as:List AV):Option (AV×List Nat):=match o with
 |.lower=>je as.isEmpty (.str (aX s),[(aX s).length])
 |.join=>bd (jN as) (Sn H s)
 |.count=>bd (K5 as) λp=>upTo s p λc b=>.int ((s.take b).count c)
 |.rfind=>bd (K5 as) λp=>upTo s p λc b=>.int (dN c (s.take b))
 |.replace=>bd (zV as) λp=>bd (gU p.1) λt=>bd (gU p.2) λ_=>bd t.head? λc=>je (!s.any (Nat.beq c)) (.str s,[s.length])
noncomputable def jJ (H:List AO) (m:Nm) (s:List Nat) (as:List AV):Option (AV×List Nat):=bd (jK m) λo=>LM H o s as
inductive LO where|append|pop
noncomputable def LO.nm:LO->Nm|.append=>.ak|.pop=>.D7
noncomputable def lR (m:Nm):Option LO:=[LO.append,LO.pop].find? λo=>Nat.beq o.nm.1 m.1
theorem ED {m:Nm} {o:LO} (h:lR m=some o):m=o.nm:=Fin.ext (Nat.eq_of_beq_eq_true (List.find?_some (p:=λo:LO=>Nat.beq o.nm.1 m.1) h)).symm
@[simp] theorem g0:lR .ak=some .append:=rfl
@[simp] theorem Qz:lR .D7=some .pop:=rfl
noncomputable def Sz (o:LO) (vs as:List AV):Option (AV×List AV×List Nat):=match o with
 |.append=>bd (jN as) λx=>some (.none,vs++[x],[vs.length+1])
 |.pop=>bd (jN as) λx=>bd (jQ x) λi=>je (decide (i=0)&&!vs.isEmpty) (vs.headD .none,vs.tail,[])
noncomputable def JG (m:Nm) (vs as:List AV):Option (AV×List AV×List Nat):=bd (lR m) λo=>Sz o vs as
noncomputable def lp (p:Fl×St) (k:St->Option (Fl×St)):Option (Fl×St):=match p.1 with
 |.nx=>k p.2
 |.bk=>some (.nx,p.2)
 |.rt v=>some (.rt v,p.2)
@[simp] theorem aat {σ:St} {k:St->Option (Fl×St)}:lp (.nx,σ) k=k σ:=rfl
@[simp] theorem aas {σ:St} {k:St->Option (Fl×St)}:lp (.bk,σ) k=some (.nx,σ):=rfl
@[simp] theorem aau {v:AV} {σ:St} {k:St->Option (Fl×St)}:lp (.rt v,σ) k=some (.rt v,σ):=rfl
noncomputable def fc:Nat->(St->Option (Bool×St))->(St->Option (Fl×St))->St->Option (Fl×St)
 |0,_,_,_=>Option.none
 |n+1,t,b,σ=>bd (t σ) λp=>cond p.1 (bd (b p.2) λq=>lp q (fc n t b)) (some (.nx,p.2))
noncomputable def jY (asg:AV->St->Option St) (b:St->Option (Fl×St)):List AV->St->Option (Fl×St)
 |[],σ=>some (.nx,σ)
 |v::vs,σ=>bd (asg v σ) λσ1=>bd (b σ1) λq=>lp q (jY asg b vs)
noncomputable def nA (x:AV):Option (List AV):=match x with
 |.str s=>some (s.map λc=>.str [c])
 |.tup vs=>some vs
 |.lst vs=>some vs
 |.tX n=>some ((List.range n).map λ(i:Nat)=>.int i)
 |.none=>Option.none
 |.bool _=>Option.none
 |.int _=>Option.none
 |.ck _=>Option.none
 |.a5 _=>Option.none
 |.fn _=>Option.none
 |.cls _=>Option.none
 |.bi _=>Option.none
 |.bD ..=>Option.none
 |.inst ..=>Option.none
@[simp] theorem Qv {s:List Nat}:nA (.str s)=some (s.map λc=>.str [c]):=rfl
@[simp] theorem Qw {vs:List AV}:nA (.tup vs)=some vs:=rfl
@[simp] theorem Qt {vs:List AV}:nA (.lst vs)=some vs:=rfl
@[simp] theorem Qu {n:Nat}:nA (.tX n)=some ((List.range n).map λ(i:Nat)=>.int i):=rfl
noncomputable def yb:List Nm->List AV->List (Nm×AV)->Option (List (Nm×AV))
 |[],vs,V=>bd (Xo vs) λ_=>some V
 |x::xs,vs,V=>match vs with
  |[]=>Option.none
  |v::vs=>yb xs vs (pt V x v)
noncomputable def hK (ts:List Nm) (tup:Bool) (v:AV) (σ:St):Option St:=cond tup (bd (nI v) λvs=>bd (yb ts vs σ.V) λV=>some {σ with V:=V}) (bd (jN ts) λx=>some {σ with V:=pt σ.V x v})
noncomputable def jI (asg:AV->St->Option St) (t:St->Option (Bool×St)) (b:St->Option (AV×St)):List AV->St->Option (List AV×St)
 |[],σ=>some ([],σ)
 |v::vs,σ=>bd (asg v σ) λσ1=>bd (t σ1) λp=>cond p.1 (bd (b p.2) λx=>bd (jI asg t b vs x.2) λy=>some (x.1::y.1,y.2)) (jI asg t b vs p.2)
noncomputable def m7 (o:Option (AV×List AO×List Nat)) (σ:St) (f:AV->Option AV):Option (AV×St):=bd o λq=>bd (f q.1) λv=>some (v,{σ with H:=q.2.1,O:=q.2.2++σ.O})
noncomputable def fG (G:cy) (f:AV) (as:List AV) (σ:St):Option (AV×St):=match f with
 |.fn f=>m7 (G.call f as σ.H) σ some
 |.bD f s=>m7 (G.call f (s::as) σ.H) σ some
 |.cls c=>m7 (G.call (G.init c) (.inst c σ.H.length::as) (σ.H++[.dict []])) σ λv=>bd (kA v) λ_=>some (.inst c σ.H.length)
 |.bi b=>bd (BL σ.H b as) λq=>some (q.1,{σ with O:=q.2++σ.O})
 |.none=>Option.none
 |.bool _=>Option.none
 |.int _=>Option.none
 |.str _=>Option.none
 |.tup _=>Option.none
 |.lst _=>Option.none
 |.ck _=>Option.none
 |.tX _=>Option.none
 |.a5 _=>Option.none
 |.inst ..=>Option.none
section
variable {G:cy} {f:Fn} {s:AV} {c:Cl} {b:Bi} {as:List AV} {σ:St} {r:AV×List AO×List Nat} {g:AV->Option AV}
@[simp] theorem QA:m7 (some r) σ g=bd (g r.1) λv=>some (v,{σ with H:=r.2.1,O:=r.2.2++σ.O}):=rfl
@[simp] theorem RK:fG G (.fn f) as σ=m7 (G.call f as σ.H) σ some:=rfl
@[simp] theorem Ni:fG G (.bD f s) as σ=m7 (G.call f (s::as) σ.H) σ some:=rfl
@[simp] theorem Qr:fG G (.cls c) as σ=m7 (G.call (G.init c) (.inst c σ.H.length::as) (σ.H++[.dict []])) σ λv=>bd (kA v) λ_=>some (.inst c σ.H.length):=rfl
@[simp] theorem RJ:fG G (.bi b) as σ=bd (BL σ.H b as) λq=>some (q.1,{σ with O:=q.2++σ.O}):=rfl
end
noncomputable def nE (G:cy) (aR:List (Nm×AV)) (c:Cl) (n:Nat) (m:Nm):Option (Sum AV (AV×Nm)):=match G.cP c m with
 |some _=>Option.none
 |Option.none=>(match G.bD c m with
  |some f=>(match lk aR m with|some _=>Option.none|Option.none=>some (.inl (.bD f (.inst c n))))
  |Option.none=>(match lk aR m with|some v=>some (.inl v)|Option.none=>Option.none))
theorem xr {G:cy} {aR:List (Nm×AV)} {c:Cl} {n:Nat} {a:Nm} {f:Fn} (h:G.bD c a=some f) (h2:G.cP c a=Option.none) (h3:lk aR a=Option.none):nE G aR c n a=some (.inl (.bD f (.inst c n))):=by
 unfold nE;rw [h,h2,h3]
theorem EV {G:cy} {aR:List (Nm×AV)} {c:Cl} {i:Nat} {m:Nm} {x:Sum AV (AV×Nm)} {P:Sum AV (AV×Nm)->Prop} (h:nE G aR c i m=some x)
  (k :∀f,G.bD c m=some f->lk aR m=none->P (.inl (.bD f (.inst c i)))) (k' :∀v,G.bD c m=none->G.cP c m=none->lk aR m=some v->P (.inl v)):P x:=by
 unfold nE at h
 generalize e1:G.cP c m=a at h
 generalize e2:G.bD c m=b at h
 generalize e3:lk aR m=d at h
 cases a with
 |some _=>cases h
 |none=>
  cases b<;>cases d<;>cases h
  ·exact k' _ e2 e1 e3
  ·exact k _ e2 e3
noncomputable def gS (G:cy) (H:List AO) (v:AV) (m:Nm):Option (Sum AV (AV×Nm)):=alt (qp v) (λq=>bd (iO H q.2) λaR=>nE G aR q.1 q.2 m)
 (alt (gU v) (λs=>bd (jK m) λ_=>some (.inr (.str s,m))) (bd (eZ v) λn=>bd (lR m) λ_=>bd (fb H n) λ_=>some (.inr (.a5 n,m))))
noncomputable def CC (p:AV×Nm) (as:List AV) (σ:St):Option (AV×St):=alt (gU p.1) (λs=>bd (jJ σ.H p.2 s as) λq=>some (q.1,{σ with O:=q.2++σ.O}))
 (bd (eZ p.1) λn=>bd (fb σ.H n) λvs=>bd (JG p.2 vs as) λq=>some (q.1,{σ with H:=σ.H.set n (.list q.2.1),O:=q.2.2++σ.O}))
noncomputable def iX (G:cy) (f:Sum AV (AV×Nm)) (as:List AV) (σ:St):Option (AV×St):=match f with
 |.inl f=>fG G f as σ
 |.inr p=>CC p as σ
@[simp] theorem Qo {G:cy} {f:AV} {as:List AV} {σ:St}:iX G (.inl f) as σ=fG G f as σ:=rfl
@[simp] theorem Qq {G:cy} {p:AV×Nm} {as:List AV} {σ:St}:iX G (.inr p) as σ=CC p as σ:=rfl
noncomputable def isTup (l:List Nm):Bool:=(jN l).isNone
noncomputable def N0:Option Kd->Bool|some .qt=>true|some .loc=>false|some .cS=>false|Option.none=>false
noncomputable def ji (ks:List (Nm×Kd)) (V:List (Nm×AV)):List (Nm×AV):=V.filter λp=>N0 (lk ks p.1)
mutual
noncomputable def pureE:Ex->Bool
 |.c _|.v _|.g _=>true
 |.ix a b=>pureE a&&pureE b
 |.tup es=>pureEs es
 |_=>false
noncomputable def pureEs:fe->Bool
 |.nil=>true
 |.cons e r=>pureE e&&pureEs r
end
noncomputable def xe:fe->Bool
 |.nil=>true
 |.cons ..=>false
noncomputable def D3 (H:List AO) (p:Bool) (x:AV):Option (List AV):=alt (eZ x) (λn=>cond p (fb H n) Option.none) (nA x)
noncomputable section
mutual
noncomputable def ev (G:cy):Ex->St->Option (AV×St)
 |.c v,σ=>some (v,σ)
 |.v x,σ=>bd (lk σ.V x) λv=>some (v,σ)
 |.g x,σ=>bd (G.glob x) λv=>some (v,σ)
 |.no,σ=>some (.none,σ)
 |.bad,_=>Option.none
 |.at e a,σ=>bd (ev G e σ) λp=>bd (rP G p.2.H p.1 a) λr=>some (r,p.2)
 |.ix e i,σ=>bd (ev G e σ) λp=>bd (ev G i p.2) λq=>bd (nM q.2.H p.1 q.1) λr=>some (r,q.2)
 |.sl e lo hi,σ=>bd (ev G e σ) λp=>bd (ev G lo p.2) λq=>bd (ev G hi q.2) λu=>bd (vx u.2.H p.1 q.1 u.1) λr=>some (r,u.2)
 |.bin o a b,σ=>bd (ev G a σ) λp=>bd (ev G b p.2) λq=>bd (M3 o p.1 q.1) λr=>some (r.1,{q.2 with O:=r.2++q.2.O})
 |.cmp a r,σ=>bd (ev G a σ) λp=>bd (uj G p.1 r p.2) λq=>some (.bool q.1,q.2)
 |.and es,σ=>rO G es σ
 |.or es,σ=>Yg G es σ
 |.not e,σ=>bd (ev G e σ) λp=>bd (bW p.2.H p.1) λb=>some (.bool (!b),p.2)
 |.neg e,σ=>bd (ev G e σ) λp=>bd (jQ p.1) λi=>some (.int (-i),p.2)
 |.ite t a b,σ=>bd (cZ G t σ) λp=>cond p.1 (ev G a p.2) (ev G b p.2)
 |.tup es,σ=>bd (qZ G es σ) λp=>some (.tup p.1,{p.2 with O:=p.1.length::p.2.O})
 |.lst es f,σ=>bd (qZ G es σ) λp=>cond f (some (.lst p.1,{p.2 with O:=p.1.length::p.2.O})) (some (.a5 p.2.H.length,{p.2 with H:=p.2.H++[.list p.1],O:=p.1.length::p.2.O}))
 |.ck ks f,σ=>bd (Ai G ks σ) λp=>cond f (some (.ck p.1,{p.2 with O:=p.1.length::p.2.O})) (some (.a5 p.2.H.length,{p.2 with H:=p.2.H++[.dict p.1],O:=p.1.length::p.2.O}))
 |.call f as,σ=>bd (ev G f σ) λp=>bd (qZ G as p.2) λq=>fG G p.1 q.1 q.2
 |.aq o m as,σ=>bd (ev G o σ) λp=>bd (gS G p.2.H p.1 m) λf=>bd (qZ G as p.2) λq=>iX G f q.1 q.2
 |.comp ks elt t it cs,σ=>bd (ev G it σ) λp=>bd (D3 p.2.H (pureE elt&&xe cs) p.1) λvs=>bd (jI (hK t (isTup t)) (mh G cs) (ev G elt) vs {p.2 with V:=ji ks p.2.V}) λq=>some (.lst q.1,{q.2 with V:=p.2.V,O:=q.1.length::q.2.O})
noncomputable def qZ (G:cy):fe->St->Option (List AV×St)
 |.nil,σ=>some ([],σ)
 |.cons e r,σ=>bd (ev G e σ) λp=>bd (qZ G r p.2) λq=>some (p.1::q.1,q.2)
noncomputable def Ai (G:cy):tZ->St->Option (List (Nm×AV)×St)
 |.nil,σ=>some ([],σ)
 |.cons k e r,σ=>bd (ev G e σ) λp=>bd (Ai G r p.2) λq=>some ((k,p.1)::q.1,q.2)
noncomputable def uj (G:cy):AV->kz->St->Option (Bool×St)
 |_,.nil,_=>Option.none
 |x,.cons o e r,σ=>bd (ev G e σ) λp=>bd (jU p.2.H o x p.1) λb=>match r with
  |.nil=>some (b,p.2)
  |.cons ..=>cond b (uj G p.1 r p.2) (some (false,p.2))
noncomputable def rO (G:cy):fe->St->Option (AV×St)
 |.nil,_=>Option.none
 |.cons e r,σ=>bd (ev G e σ) λp=>match r with
  |.nil=>some p
  |.cons ..=>bd (bW p.2.H p.1) λb=>cond b (rO G r p.2) (some p)
noncomputable def Yg (G:cy):fe->St->Option (AV×St)
 |.nil,_=>Option.none
 |.cons e r,σ=>bd (ev G e σ) λp=>match r with
  |.nil=>some p
  |.cons ..=>bd (bW p.2.H p.1) λb=>cond b (some p) (Yg G r p.2)
noncomputable def cZ (G:cy):Ex->St->Option (Bool×St)
 |.not e,σ=>bd (cZ G e σ) λp=>some (!p.1,p.2)
 |.and es,σ=>wA G es σ
 |.or es,σ=>Pu G es σ
 |.ite t a b,σ=>bd (cZ G t σ) λp=>cond p.1 (cZ G a p.2) (cZ G b p.2)
 |.cmp a r,σ=>bd (ev G a σ) λp=>uj G p.1 r p.2
 |.c v,σ=>bd (bW σ.H v) λb=>some (b,σ)
 |.v x,σ=>bd (lk σ.V x) λv=>bd (bW σ.H v) λb=>some (b,σ)
 |.g x,σ=>bd (G.glob x) λv=>bd (bW σ.H v) λb=>some (b,σ)
 |.at e a,σ=>bd (ev G e σ) λp=>bd (rP G p.2.H p.1 a) λr=>bd (bW p.2.H r) λb=>some (b,p.2)
 |.ix e i,σ=>bd (ev G e σ) λp=>bd (ev G i p.2) λq=>bd (nM q.2.H p.1 q.1) λr=>bd (bW q.2.H r) λb=>some (b,q.2)
 |.call f as,σ=>bd (ev G f σ) λp=>bd (qZ G as p.2) λq=>bd (fG G p.1 q.1 q.2) λr=>bd (bW r.2.H r.1) λb=>some (b,r.2)
 |.aq o m as,σ=>bd (ev G o σ) λp=>bd (gS G p.2.H p.1 m) λf=>bd (qZ G as p.2) λq=>bd (iX G f q.1 q.2) λr=>bd (bW r.2.H r.1) λb=>some (b,r.2)
 |_,_=>Option.none
noncomputable def wA (G:cy):fe->St->Option (Bool×St)
 |.nil,σ=>some (true,σ)
 |.cons e r,σ=>bd (cZ G e σ) λp=>cond p.1 (wA G r p.2) (some (false,p.2))
noncomputable def Pu (G:cy):fe->St->Option (Bool×St)
 |.nil,σ=>some (false,σ)
 |.cons e r,σ=>bd (cZ G e σ) λp=>cond p.1 (some (true,p.2)) (Pu G r p.2)
noncomputable def mh (G:cy):fe->St->Option (Bool×St)
 |.nil,σ=>some (true,σ)
 |.cons e r,σ=>bd (cZ G e σ) λp=>cond p.1 (mh G r p.2) (some (false,p.2))
end
noncomputable def vu (x k r:AV) (σ:St):Option St:=bd (eZ x) λn=>alt (gU k) (λs=>bd (gQ σ.H n) λaR=>bd (WJ aR s r) λkvs'=>some {σ with H:=σ.H.set n (.dict kvs')})
 (bd (jQ k) λj=>bd (fb σ.H n) λvs=>bd (Y5 j vs.length) λp=>some {σ with H:=σ.H.set n (.list (vs.set p r))})
noncomputable def setAt (G:cy) (x:AV) (a:Nm) (r:AV) (σ:St):Option St:=bd (qp x) λq=>bd (gQ σ.H q.2) λaR=>cond ((G.bD q.1 a).isNone&&(G.cP q.1 a).isNone) (some {σ with H:=σ.H.set q.2 (.dict (pt aR a r)),O:=(aR.length+1)::σ.O}) Option.none
noncomputable def iN (G:cy) (t:Tg) (v:AV) (σ:St):Option St:=match t with
 |.v x=>some {σ with V:=pt σ.V x v}
 |.at e a=>bd (ev G e σ) λp=>setAt G p.1 a v p.2
 |.ix e i=>bd (ev G e σ) λp=>bd (ev G i p.2) λq=>vu p.1 q.1 v q.2
 |.bad=>Option.none
noncomputable def jH (G:cy):List Tg->List AV->St->Option St
 |[],vs,σ=>bd (Xo vs) λ_=>some σ
 |t::ts,vs,σ=>match vs with
  |[]=>Option.none
  |v::vs=>bd (iN G t v σ) (jH G ts vs)
noncomputable def DY:AV->Bool|.none=>true|.str _=>true|_=>false
@[simp] theorem Qs:DY .none=true:=rfl
@[simp] theorem Sj {s:List Nat}:DY (.str s)=true:=rfl
noncomputable def Rl (G:cy) (t:Tg) (o:nP) (σ:St) (e:St->Option (AV×St)):Option St:=match t with
 |.v x=>bd (lk σ.V x) λa=>bd (e σ) λp=>bd (mz o a p.1) λr=>some {p.2 with V:=pt p.2.V x r.1,O:=r.2++p.2.O}
 |.at e1 a=>bd (ev G e1 σ) λp=>bd (rP G p.2.H p.1 a) λx=>bd (e p.2) λq=>bd (mz o x q.1) λr=>setAt G p.1 a r.1 {q.2 with O:=r.2++q.2.O}
 |.ix e1 i=>bd (ev G e1 σ) λp=>bd (ev G i p.2) λk=>bd (nM k.2.H p.1 k.1) λx=>bd (e k.2) λq=>bd (mz o x q.1) λr=>vu p.1 k.1 r.1 {q.2 with O:=r.2++q.2.O}
 |.bad=>Option.none
noncomputable def Fb (p:Fl×St) (k:St->Option (Fl×St)):Option (Fl×St):=match p.1 with
 |.nx=>k p.2
 |.bk=>some p
 |.rt _=>some p
@[simp] theorem Zj {σ:St} {k:St->Option (Fl×St)}:Fb (.nx,σ) k=k σ:=rfl
@[simp] theorem Zi {σ:St} {k:St->Option (Fl×St)}:Fb (.bk,σ) k=some (.bk,σ):=rfl
@[simp] theorem Zk {v:AV} {σ:St} {k:St->Option (Fl×St)}:Fb (.rt v,σ) k=some (.rt v,σ):=rfl
mutual
noncomputable def ex (G:cy):Sx->St->Option (Fl×St)
 |.exp e,σ=>bd (ev G e σ) λp=>cond (DY p.1) (some (.nx,p.2)) Option.none
 |.asg t e,σ=>bd (ev G e σ) λp=>bd (iN G t p.1 p.2) λσ2=>some (.nx,σ2)
 |.wH x e,σ=>bd (ev G e σ) λp=>some (.nx,{p.2 with V:=pt p.2.V x p.1})
 |.iN ts e,σ=>bd (ev G e σ) λp=>bd (nI p.1) λvs=>bd (jH G ts vs p.2) λσ2=>some (.nx,σ2)
 |.aug t o e,σ=>bd (Rl G t o σ (ev G e)) λσ2=>some (.nx,σ2)
 |.ite t a b,σ=>bd (cZ G t σ) λp=>cond p.1 (cG G a p.2) (cG G b p.2)
 |.nN t b,σ=>fc G.fuel (cZ G t) (cG G b) σ
 |.fr ts tup e b,σ=>bd (ev G e σ) λp=>bd (nA p.1) λvs=>jY (hK ts tup) (cG G b) vs p.2
 |.ret e,σ=>bd (ev G e σ) λp=>some (.rt p.1,p.2)
 |.brk,σ=>some (.bk,σ)
 |.pass,σ=>some (.nx,σ)
 |.zZ e,σ=>bd (cZ G e σ) λp=>cond p.1 (some (.nx,p.2)) Option.none
 |.bad,_=>Option.none
noncomputable def cG (G:cy):c5->St->Option (Fl×St)
 |.nil,σ=>some (.nx,σ)
 |.cons s r,σ=>bd (ex G s σ) λp=>Fb p (cG G r)
end
end
noncomputable def ew:Nat:=1000000
theorem dg {n:Nat} (h:n<=ew):n<=sizeLine:=Nat.le_trans h (by rw [sizeLine_eq];decide)
theorem js {n:Nat} (h:n<=ew):(n:Int)<2 ^ 63:=by unfold ew at h;lia
structure aY where
 prog:Program
 w:World
 K:Frag
 fa:Fn->Addr
 ca:Cl->Addr
noncomputable def aY.hB (S:aY):Addr->Option Obj:=λa=>S.K.lookup a
noncomputable def K9:Bi->Value
 |.len=>.builtin "len" | .ord=>.builtin "ord" | .chr=>.builtin "chr" | .sum=>.builtin "sum" | .max=>.builtin "max" | .min=>.builtin "min"
 |.mQ=>.builtin "isinstance" | .range=>.type "range" | .bool=>.type "bool"
structure Wd where
 P:Addr->Option Obj
 ρ:List Addr
noncomputable def jR (S:aY) (o:Obj) (ps:List (Str×Value)):Prop:=
 o.ExactDict/\∃es ep,o.data=.dict es ep/\KeysOf (strKind S.prog S.w) es/\Pairs (strKind S.prog S.w) es.toList ps/\(ps.map (·.1)).Nodup
theorem jR.at {S:aY} {o:Obj} {ps:List (Str×Value)} {h:Heap} {a:Addr} (d:jR S o ps) (e:h.get? a=some o):h.DictOf (strKind S.prog S.w) a ps:=by
 obtain⟨x,es,ep,y,r⟩:=d
 exact⟨o,es,ep,e,x,y,r⟩
theorem jR.of {P:Prop} {S:aY} {ps:List (Str×Value)} {h:Heap} {a:Addr} (d:h.DictOf (strKind S.prog S.w) a ps) (k :∀o,h.get? a=some o->jR S o ps->P):P:=by
 obtain⟨o,es,ep,e,x,y,r⟩:=d
 exact k o e ⟨x,es,ep,y,r⟩
theorem jR.oy {S:aY} {o:Obj} {ps:List (Str×Value)} (d:jR S o ps):o.isFreed=false:=by
 obtain⟨_,_,_,y,_⟩:=d
 exact Obj.isFreed_of_dict y
mutual
noncomputable def VR (S:aY) (W:Wd):AV->Value->Prop
 |.none,v=>v=.none
 |.bool b,v=>v=.bool b
 |.int i,v=>∃t,v=.int i t
 |.str s,v=>∃t,v=.str ⟨s.toArray⟩ t/\s.length<=ew
 |.tup vs,v=>∃a items n d sl,v=.ref a/\W.P a=some ⟨.type "tuple",d,.seq items n,sl⟩/\vs.length<=ew/\cq S W vs items.toList
 |.lst vs,v=>∃a items n d sl,v=.ref a/\W.P a=some ⟨.type "list",d,.seq items n,sl⟩/\vs.length<=ew/\cq S W vs items.toList
 |.ck aR,v=>∃a o ps,v=.ref a/\W.P a=some o/\jR S o ps/\(a==sysModules)=false/\aR.length<=ew/\fK S W aR ps
 |.tX n,v=>∃a t u w,v=.ref a/\W.P a=some {cls:=.type "range",data:=.fields #[.int 0 t,.int (n:Int) u,.int 1 w]}/\n<=ew
 |.a5 i,v=>∃a,v=.ref a/\W.ρ[i]?=some a
 |.fn f,v=>v=.ref (S.fa f)
 |.cls c,v=>v=.ref (S.ca c)
 |.bi b,v=>v=K9 b
 |.bD f s,v=>∃a w,v=.ref a/\W.P a=some (methodObj (.ref (S.fa f)) w)/\VR S W s w
 |.inst c i,v=>∃a d,v=.ref a/\W.P a=some (instObj (S.ca c) d)/\W.ρ[i]?=some d
noncomputable def cq (S:aY) (W:Wd):List AV->List Value->Prop
 |[],vs=>vs=[]
 |a::as,vs=>∃v us,vs=v::us/\VR S W a v/\cq S W as us
noncomputable def fK (S:aY) (W:Wd):List (Nm×AV)->List (Str×Value)->Prop
 |[],vs=>vs=[]
 |(k,a)::as,vs=>∃v us,vs=(bY k,v)::us/\VR S W a v/\fK S W as us
end
theorem bf {a b:Bool} (h:(a&&b)=true):a=true/\b=true:=Bool.and_eq_true_iff.mp h
theorem fL {a b c:Bool} (h:(a&&b&&c)=true):a=true/\b=true/\c=true:=⟨(bf (bf h).1).1,(bf (bf h).1).2,(bf h).2⟩
theorem iW {a b c d:Bool} (h:(a&&b&&c&&d)=true):a=true/\b=true/\c=true/\d=true:=⟨(fL (bf h).1).1,(fL (bf h).1).2.1,(fL (bf h).1).2.2,(bf h).2⟩
theorem t9 {a b c d e f:Bool} (h:(a&&b&&c&&d&&e&&f)=true):a=true/\b=true/\c=true/\d=true/\e=true/\f=true:=
 have x:=fL h
 have y:=iW x.1
 ⟨y.1,y.2.1,y.2.2.1,y.2.2.2,x.2.1,x.2.2⟩
section
variable {S:aY} {W W':Wd} {v:Value}
theorem VR.none:VR S W .none .none:=rfl
theorem VR.bool (b:Bool):VR S W (.bool b) (.bool b):=rfl
theorem VR.int (i:Int) (t:Tok):VR S W (.int i) (.int i t):=⟨t,rfl⟩
theorem VR.str (s:List Nat) (t:Tok) (z:s.length<=ew):VR S W (.str s) (.str ⟨s.toArray⟩ t):=⟨t,rfl,z⟩
theorem VR.tup {a:Addr} {vs:List AV} {items:Array Value} {n:Nat} {d:Option Addr} {sl:Array (Option Value)} (e:W.P a=some ⟨.type "tuple",d,.seq items n,sl⟩) (z:vs.length<=ew) (r:cq S W vs items.toList):VR S W (.tup vs) (.ref a):=⟨a,items,n,d,sl,rfl,e,z,r⟩
theorem VR.lst {a:Addr} {vs:List AV} {items:Array Value} {n:Nat} {d:Option Addr} {sl:Array (Option Value)} (e:W.P a=some ⟨.type "list",d,.seq items n,sl⟩) (z:vs.length<=ew) (r:cq S W vs items.toList):VR S W (.lst vs) (.ref a):=⟨a,items,n,d,sl,rfl,e,z,r⟩
theorem VR.ck {a:Addr} {o:Obj} {aR:List (Nm×AV)} {ps:List (Str×Value)} (e:W.P a=some o) (d:jR S o ps) (n:(a==sysModules)=false) (z:aR.length<=ew) (r:fK S W aR ps):VR S W (.ck aR) (.ref a):=⟨a,o,ps,rfl,e,d,n,z,r⟩
theorem VR.tX {n:Nat} {a:Addr} {t u w:Tok} (e:W.P a=some {cls:=.type "range",data:=.fields #[.int 0 t,.int (n:Int) u,.int 1 w]}) (z:n<=ew):VR S W (.tX n) (.ref a):=⟨a,t,u,w,rfl,e,z⟩
theorem VR.a5 {i:Nat} {a:Addr} (e:W.ρ[i]?=some a):VR S W (.a5 i) (.ref a):=⟨a,rfl,e⟩
theorem VR.fn (f:Fn):VR S W (.fn f) (.ref (S.fa f)):=rfl
theorem VR.cls (c:Cl):VR S W (.cls c) (.ref (S.ca c)):=rfl
theorem VR.bi (b:Bi):VR S W (.bi b) (K9 b):=rfl
theorem VR.bD {a:Addr} {f:Fn} {s:AV} {w:Value} (e:W.P a=some (methodObj (.ref (S.fa f)) w)) (r:VR S W s w):VR S W (.bD f s) (.ref a):=⟨a,w,rfl,e,r⟩
theorem VR.inst {a:Addr} {c:Cl} {i:Nat} {d:Addr} (e:W.P a=some (instObj (S.ca c) d)) (r:W.ρ[i]?=some d):VR S W (.inst c i) (.ref a):=⟨a,d,rfl,e,r⟩
theorem cq.nil:cq S W [] []:=rfl
theorem cq.cons {a:AV} {as:List AV} {vs:List Value} (x:VR S W a v) (r:cq S W as vs):cq S W (a::as) (v::vs):=⟨v,vs,rfl,x,r⟩
theorem fK.nil:fK S W [] []:=rfl
theorem fK.cons {k:Nm} {a:AV} {aR:List (Nm×AV)} {es:List (Str×Value)} (x:VR S W a v) (r:fK S W aR es):fK S W ((k,a)::aR) ((bY k,v)::es):=⟨v,es,rfl,x,r⟩
end
section
variable {S:aY} {W:Wd} {v:Value} {P:Value->Prop}
@[elab_as_elim] theorem VR.lU (h:VR S W .none v) (k:P .none):P v:=(h:v=.none)▸k
@[elab_as_elim] theorem VR.qS {b:Bool} (h:VR S W (.bool b) v) (k:P (.bool b)):P v:=(h:v=.bool b)▸k
@[elab_as_elim] theorem VR.Rn {b:Bi} (h:VR S W (.bi b) v) (k:P (K9 b)):P v:=(h:v=K9 b)▸k
@[elab_as_elim] theorem VR.X1 {b:Fn} (h:VR S W (.fn b) v) (k:P (.ref (S.fa b))):P v:=(h:v=.ref (S.fa b))▸k
@[elab_as_elim] theorem VR.Ik {b:Cl} (h:VR S W (.cls b) v) (k:P (.ref (S.ca b))):P v:=(h:v=.ref (S.ca b))▸k
@[elab_as_elim] theorem VR.kY {i:Int} (h:VR S W (.int i) v) (k :∀t,P (.int i t)):P v:=Exists.elim h λt e=>e▸k t
@[elab_as_elim] theorem VR.gO {s:List Nat} (h:VR S W (.str s) v) (k :∀t,s.length<=ew->P (.str ⟨s.toArray⟩ t)):P v:=Exists.elim h λt e=>e.1▸k t e.2
@[elab_as_elim] theorem VR.qh {vs:List AV} (h:VR S W (.tup vs) v) (k :∀a items n d sl,W.P a=some ⟨.type "tuple",d,.seq items n,sl⟩->vs.length<=ew->cq S W vs items.toList->P (.ref a)):P v:=by
 obtain⟨a,items,n,d,sl,e,w,z,r⟩:=h
 exact e▸k a items n d sl w z r
@[elab_as_elim] theorem VR.xn {vs:List AV} (h:VR S W (.lst vs) v) (k :∀a items n d sl,W.P a=some ⟨.type "list",d,.seq items n,sl⟩->vs.length<=ew->cq S W vs items.toList->P (.ref a)):P v:=by
 obtain⟨a,items,n,d,sl,e,w,z,r⟩:=h
 exact e▸k a items n d sl w z r
@[elab_as_elim] theorem VR.Ac {aR:List (Nm×AV)} (h:VR S W (.ck aR) v) (k :∀a o ps,W.P a=some o->jR S o ps->(a==sysModules)=false->aR.length<=ew->fK S W aR ps->P (.ref a)):P v:=by
 obtain⟨a,o,ps,e,w,d,n,z,r⟩:=h
 exact e▸k a o ps w d n z r
@[elab_as_elim] theorem VR.Ks {n:Nat} (h:VR S W (.tX n) v) (k :∀a t u w,W.P a=some {cls:=.type "range",data:=.fields #[.int 0 t,.int (n:Int) u,.int 1 w]}->n<=ew->P (.ref a)):P v:=by
 obtain⟨a,t,u,w,e,x,z⟩:=h
 exact e▸k a t u w x z
@[elab_as_elim] theorem VR.A3 {i:Nat} (h:VR S W (.a5 i) v) (k :∀a,W.ρ[i]?=some a->P (.ref a)):P v:=Exists.elim h λa e=>e.1▸k a e.2
@[elab_as_elim] theorem VR.pH {f:Fn} {s:AV} (h:VR S W (.bD f s) v) (k :∀a w,W.P a=some (methodObj (.ref (S.fa f)) w)->VR S W s w->P (.ref a)):P v:=by
 obtain⟨a,w,e,x,z⟩:=h
 exact e▸k a w x z
@[elab_as_elim] theorem VR.uT {c:Cl} {i:Nat} (h:VR S W (.inst c i) v) (k :∀a d,W.P a=some (instObj (S.ca c) d)->W.ρ[i]?=some d->P (.ref a)):P v:=by
 obtain⟨a,w,e,x,z⟩:=h
 exact e▸k a w x z
end
section
variable {S:aY} {W:Wd}
@[elab_as_elim] theorem cq.jP {P:List Value->Prop} {l:List Value} (h:cq S W [] l) (k:P []):P l:=(h:l=[])▸k
@[elab_as_elim] theorem cq.cQ {P:List Value->Prop} {a:AV} {as:List AV} {l:List Value} (h:cq S W (a::as) l) (k :∀v vs,VR S W a v->cq S W as vs->P (v::vs)):P l:=by
 obtain⟨v,us,e,x,r⟩:=h
 exact e▸k v us x r
@[elab_as_elim] theorem fK.jP {P:List (Str×Value)->Prop} {l:List (Str×Value)} (h:fK S W [] l) (k:P []):P l:=(h:l=[])▸k
@[elab_as_elim] theorem fK.cQ {P:List (Str×Value)->Prop} {p:Nm×AV} {as:List (Nm×AV)} {l:List (Str×Value)} (h:fK S W (p::as) l) (k :∀v vs,VR S W p.2 v->fK S W as vs->P ((bY p.1,v)::vs)):P l:=by
 obtain⟨v,us,e,x,r⟩:=h
 exact e▸k v us x r
end
structure Wd.Le (W W':Wd):Prop where
 P :∀a o,W.P a=some o->W'.P a=some o
 ρ :∃r,W'.ρ=W.ρ++r
theorem Wd.Le.refl (W:Wd):W.Le W:=⟨λ_ _ h=>h,[],by simp⟩
theorem Wd.Le.trans {W₁ W₂ W₃:Wd} (x:W₁.Le W₂) (y:W₂.Le W₃):W₁.Le W₃:=
 ⟨λa o h=>y.P a o (x.P a o h),let ⟨r,e⟩:=x.ρ;let ⟨q,e'⟩:=y.ρ;⟨r++q,by rw [e',e,List.append_assoc]⟩⟩
theorem Wd.Le.get {W W':Wd} (x:W.Le W') {i:Nat} {a:Addr} (h:W.ρ[i]?=some a):W'.ρ[i]?=some a:=by
 obtain⟨r,e⟩:=x.ρ
 rw [e,List.getElem?_append_left (List.getElem?_eq_some_iff.mp h).1];exact h
mutual
noncomputable def GY (Q:Nat->Prop):AV->Prop
 |.tup vs=>zT Q vs
 |.lst vs=>zT Q vs
 |.ck aR=>B5 Q aR
 |.a5 i=>Q i
 |.bD _ s=>GY Q s
 |.inst _ i=>Q i
 |.none=>True
 |.bool _=>True
 |.int _=>True
 |.str _=>True
 |.tX _=>True
 |.fn _=>True
 |.cls _=>True
 |.bi _=>True
noncomputable def zT (Q:Nat->Prop):List AV->Prop
 |[]=>True
 |a::as=>GY Q a/\zT Q as
noncomputable def B5 (Q:Nat->Prop):List (Nm×AV)->Prop
 |[]=>True
 |(_,a)::as=>GY Q a/\B5 Q as
end
section
variable {S:aY} {W W':Wd} {Q:Nat->Prop}
theorem VR.map (hP :∀a o,W.P a=some o->W'.P a=some o) (hρ :∀i a,Q i->W.ρ[i]?=some a->W'.ρ[i]?=some a) (a:AV) :∀v,VR S W a v->GY Q a->VR S W' a v:=
 AV.rec (motive_1:=λa=>∀v,VR S W a v->GY Q a->VR S W' a v) (motive_2:=λas=>∀vs,cq S W as vs->zT Q as->cq S W' as vs) (motive_3:=λas=>∀vs,fK S W as vs->B5 Q as->fK S W' as vs) (motive_4:=λp=>∀v,VR S W p.2 v->GY Q p.2->VR S W' p.2 v)
  (λ_ h _=>h) (λ_ _ h _=>h) (λ_ _ h _=>h) (λ_ _ h _=>h)
  (λ_ ih _ h c=>h.qh λ_ _ _ _ _ e z r=>.tup (hP _ _ e) z (ih _ r c)) (λ_ ih _ h c=>h.xn λ_ _ _ _ _ e z r=>.lst (hP _ _ e) z (ih _ r c)) (λ_ ih _ h c=>h.Ac λ_ _ _ e d n z r=>.ck (hP _ _ e) d n z (ih _ r c))
  (λ_ _ h _=>h.Ks λ_ _ _ _ e z=>.tX (hP _ _ e) z) (λ_ _ h c=>h.A3 λ_ e=>.a5 (hρ _ _ c e)) (λ_ _ h _=>h) (λ_ _ h _=>h) (λ_ _ h _=>h)
  (λ_ _ ih _ h c=>h.pH λ_ _ e r=>.bD (hP _ _ e) (ih _ r c)) (λ_ _ _ h c=>h.uT λ_ _ e r=>.inst (hP _ _ e) (hρ _ _ c r))
  (λ_ h _=>h) (λ_ _ ih1 ih2 _ h c=>h.cQ λ_ _ x r=>.cons (ih1 _ x c.1) (ih2 _ r c.2)) (λ_ h _=>h) (λ_ _ ih1 ih2 _ h c=>h.cQ λ_ _ x r=>.cons (ih1 _ x c.1) (ih2 _ r c.2)) (λ_ _ ih=>ih) a
theorem VR.Ss (hQ :∀i a,W.ρ[i]?=some a->Q i) (a:AV) :∀v,VR S W a v->GY Q a:=
 AV.rec (motive_1:=λa=>∀v,VR S W a v->GY Q a) (motive_2:=λas=>∀vs,cq S W as vs->zT Q as) (motive_3:=λas=>∀vs,fK S W as vs->B5 Q as) (motive_4:=λp=>∀v,VR S W p.2 v->GY Q p.2)
  (λ_ _=>trivial) (λ_ _ _=>trivial) (λ_ _ _=>trivial) (λ_ _ _=>trivial) (λ_ ih _ h=>h.qh λ_ _ _ _ _ _ _ r=>ih _ r) (λ_ ih _ h=>h.xn λ_ _ _ _ _ _ _ r=>ih _ r) (λ_ ih _ h=>h.Ac λ_ _ _ _ _ _ _ r=>ih _ r)
  (λ_ _ _=>trivial) (λ_ _ h=>h.A3 λ_ e=>hQ _ _ e) (λ_ _ _=>trivial) (λ_ _ _=>trivial) (λ_ _ _=>trivial) (λ_ _ ih _ h=>h.pH λ_ _ _ r=>ih _ r) (λ_ _ _ h=>h.uT λ_ _ _ r=>hQ _ _ r)
  (λ_ _=>trivial) (λ_ _ ih1 ih2 _ h=>h.cQ λ_ _ x r=>⟨ih1 _ x,ih2 _ r⟩) (λ_ _=>trivial) (λ_ _ ih1 ih2 _ h=>h.cQ λ_ _ x r=>⟨ih1 _ x,ih2 _ r⟩) (λ_ _ ih=>ih) a
theorem cq.map {as:List AV} {vs:List Value} (h:cq S W as vs) (f :∀a v,VR S W a v->VR S W' a v):cq S W' as vs:=by
 induction as generalizing vs with
 |nil=>exact h
 |cons a r ih=>exact h.cQ λv vs x q=>.cons (f _ _ x) (ih q)
theorem fK.map {as:List (Nm×AV)} {vs:List (Str×Value)} (h:fK S W as vs) (f :∀a v,VR S W a v->VR S W' a v):fK S W' as vs:=by
 induction as generalizing vs with
 |nil=>exact h
 |cons a r ih=>exact h.cQ λv vs x q=>.cons (f _ _ x) (ih q)
theorem VR.mono (L:W.Le W') {a:AV} {v:Value} (h:VR S W a v):VR S W' a v:=VR.map (Q:=λi=>∃a,W.ρ[i]?=some a) L.P (λ_ _ _ e=>L.get e) a v h (VR.Ss (λ_ _ e=>⟨_,e⟩) a v h)
theorem cq.mono (L:W.Le W') {a:List AV} {v:List Value} (h:cq S W a v):cq S W' a v:=h.map λ_ _ x=>x.mono L
theorem fK.mono (L:W.Le W') {a:List (Nm×AV)} {v:List (Str×Value)} (h:fK S W a v):fK S W' a v:=h.map λ_ _ x=>x.mono L
theorem cq.length {as:List AV} {vs:List Value} (h:cq S W as vs):as.length=vs.length:=by
 induction as generalizing vs with
 |nil=>exact h.jP rfl
 |cons a r ih=>exact h.cQ λ_ _ _ q=>congrArg (·+1) (ih q)
theorem cq.size {as:List AV} {items:Array Value} (h:cq S W as items.toList):items.size=as.length:=h.length.symm
theorem fK.length {as:List (Nm×AV)} {vs:List (Str×Value)} (h:fK S W as vs):as.length=vs.length:=by
 induction as generalizing vs with
 |nil=>exact h.jP rfl
 |cons a r ih=>exact h.cQ λ_ _ _ q=>congrArg (·+1) (ih q)
theorem cq.get {as:List AV} {vs:List Value} (h:cq S W as vs) {i:Nat} (hi:i<as.length) :∃v,vs[i]?=some v/\VR S W (as.getD i .none) v:=by
 induction as generalizing vs i with
 |nil=>exact absurd hi (Nat.not_lt_zero _)
 |cons a r ih=>
  refine h.cQ λv us x q=>?_
  cases i with
  |zero=>exact⟨v,rfl,x⟩
  |succ i=>exact ih q (Nat.lt_of_succ_lt_succ hi)
theorem cq.append {as bs:List AV} {vs us:List Value} (h:cq S W as vs) (g:cq S W bs us):cq S W (as++bs) (vs++us):=by
 induction as generalizing vs with
 |nil=>exact h.jP g
 |cons a r ih=>exact h.cQ λv us x q=>.cons x (ih q)
theorem cq.set {as:List AV} {vs:List Value} (h:cq S W as vs) {i:Nat} {a:AV} {v:Value} (g:VR S W a v):cq S W (as.set i a) (vs.set i v):=by
 induction as generalizing vs i with
 |nil=>exact h.jP .nil
 |cons b r ih=>
  refine h.cQ λu us x q=>?_
  cases i with
  |zero=>exact .cons g q
  |succ i=>exact .cons x (ih q)
theorem cq.drop {as:List AV} {vs:List Value} (h:cq S W as vs) (i:Nat):cq S W (as.drop i) (vs.drop i):=by
 induction as generalizing vs i with
 |nil=>exact h.jP (by cases i<;>exact .nil)
 |cons b r ih=>
  cases i with
  |zero=>exact h
  |succ i=>exact h.cQ λ_ _ _ q=>ih q i
theorem cq.take {as:List AV} {vs:List Value} (h:cq S W as vs) (i:Nat):cq S W (as.take i) (vs.take i):=by
 induction as generalizing vs i with
 |nil=>exact h.jP (by cases i<;>exact .nil)
 |cons b r ih=>
  cases i with
  |zero=>exact .nil
  |succ i=>exact h.cQ λ_ _ x q=>.cons x (ih q i)
@[elab_as_elim] theorem cq.one {P:List Value->Prop} {a:AV} {l:List Value} (h:cq S W [a] l) (k :∀v,VR S W a v->P [v]):P l:=h.cQ λv vs x r=>r.jP (k v x)
@[elab_as_elim] theorem cq.two {P:List Value->Prop} {a b:AV} {l:List Value} (h:cq S W [a,b] l) (k :∀v u,VR S W a v->VR S W b u->P [v,u]):P l:=h.cQ λv vs x r=>r.one (k v · x)
@[elab_as_elim] theorem cq.three {P:List Value->Prop} {a b c:AV} {l:List Value} (h:cq S W [a,b,c] l) (k :∀v u w,VR S W a v->VR S W b u->VR S W c w->P [v,u,w]):P l:=h.cQ λv vs x r=>r.two (k v · · x)
end
structure Fm where
 env:Env
 ow:List Addr
noncomputable def OR (S:aY) (W:Wd) (ao:AO) (o:Obj):Prop:=(∃vs items n,ao=.list vs/\o={cls:=.type "list",data:=.seq items n}/\vs.length<=ew/\cq S W vs items.toList)\/(∃aR ps,ao.fl=some aR/\jR S o ps/\aR.length<=ew/\fK S W aR ps)
section
variable {S:aY} {W W':Wd} {ao:AO} {o:Obj}
theorem OR.list {vs:List AV} {items:Array Value} {n:Nat} (z:vs.length<=ew) (r:cq S W vs items.toList):OR S W (.list vs) {cls:=.type "list",data:=.seq items n}:=.inl ⟨vs,items,n,rfl,rfl,z,r⟩
theorem OR.dict {aR:List (Nm×AV)} {ps:List (Str×Value)} (e:ao.fl=some aR) (d:jR S o ps) (z:aR.length<=ew) (r:fK S W aR ps):OR S W ao o:=.inr ⟨aR,ps,e,d,z,r⟩
@[elab_as_elim] theorem OR.listE {P:Obj->Prop} {vs:List AV} (h:OR S W (.list vs) o) (k :∀items n,vs.length<=ew->cq S W vs items.toList->P {cls:=.type "list",data:=.seq items n}):P o:=by
 rcases h with⟨vs',items,n,e,e',z,r⟩|⟨aR,ps,e,_⟩
 ·cases e;exact e'▸k items n z r
 ·exact nn e
theorem OR.yH {P:Prop} {aR:List (Nm×AV)} (h:OR S W ao o) (e:ao.fl=some aR) (k :∀ps,jR S o ps->aR.length<=ew->fK S W aR ps->P):P:=by
 rcases h with⟨vs',items,n,e',_⟩|⟨kvs',ps,e',d,z,r⟩
 ·rw [e']at e;exact nn e
 ·rw [e']at e;cases e;exact k ps d z r
theorem OR.mono (L:W.Le W') (h:OR S W ao o):OR S W' ao o:=by
 rcases h with⟨vs,items,n,e,e',z,r⟩|⟨aR,ps,e,d,z,r⟩
 ·exact .inl ⟨vs,items,n,e,e',z,r.mono L⟩
 ·exact .dict e d z (r.mono L)
theorem OR.oy (h:OR S W ao o):o.isFreed=false:=by
 rcases h with⟨vs,items,n,e,e',z,r⟩|⟨aR,ps,e,d,z,r⟩
 ·rw [e'];rfl
 ·exact d.oy
end
structure b6 (S:aY) (W:Wd) (F:Addr->Option Obj) (H:List AO) (h:Heap):Prop where
 p :∀a o,W.P a=some o->h.get? a=some o
 f :∀a o,F a=some o->h.get? a=some o
 base :∀a o,S.hB a=some o->W.P a=some o
 len:W.ρ.length=H.length
 hs :∀(i:Nat) a ao,W.ρ[i]?=some a->H[i]?=some ao->∃o,h.get? a=some o/\OR S W ao o
 nd:W.ρ.Nodup
 ρp :∀a∈W.ρ,W.P a=none
 ρf :∀a∈W.ρ,F a=none
 pf :∀a o,W.P a=some o->F a=none
noncomputable def zN (env:Env) (h:Heap) (m:Str->Option Value) (x:Str) (v:Value):Prop:=
 (env.kindOf x=some .local/\m x=some v)\/(env.kindOf x=some .cell/\∃c,env.cells.lookup x=some c/\h.IsCell c (some v))
structure wz (S:aY) (W:Wd) (fm:Fm) (V:List (Nm×AV)) (h:Heap):Prop where
 ns :∃m,h.Ns fm.env.locals m/\∀x av,lk V x=some av->∃v,VR S W av v/\zN fm.env h m (bY x) v
 cell :∀x,fm.env.kindOf x=some .cell->∃c v,fm.env.cells.lookup x=some c/\h.IsCell c v
structure Inv (S:aY) (W:Wd) (F:Addr->Option Obj) (fm:Fm) (σ:St) (h:Heap):Prop extends b6 S W F σ.H h where
 own :∀a∈fm.ow,W.P a=none/\F a=none/\a∉W.ρ/\∃o,h.get? a=some o
 fr :∀x c,fm.env.kindOf x=some .cell->fm.env.cells.lookup x=some c->c∈fm.ow\/∃o,F c=some o
 vars:wz S W fm σ.V h
structure gC (S:aY) (fm:Fm):Prop where
 kf:fm.env.scope.kind=.function
 gl:fm.env.globals=mainGlobals
 bu:fm.env.builtins=builtinsNs
 lo:fm.env.locals∈fm.ow
 cl :∀x c,fm.env.cells.lookup x=some c->c≠fm.env.locals
structure B2 (S:aY) (fm:Fm):Prop extends gC S fm where
 ce :∀x c,fm.env.kindOf x=some .cell->fm.env.cells.lookup x=some c->c∈fm.ow
 ci :∀x y c,fm.env.kindOf x=some .cell->fm.env.cells.lookup x=some c->fm.env.cells.lookup y=some c->x=y
structure Kp (s s':Shared):Prop where
 gens:s'.gens=s.gens
 os:s'.os=s.os
theorem Kp.refl (s:Shared):Kp s s:=⟨rfl,rfl⟩
theorem Kp.trans {s₁ s₂ s₃:Shared} (x:Kp s₁ s₂) (y:Kp s₂ s₃):Kp s₁ s₃:=⟨y.gens.trans x.gens,y.os.trans x.os⟩
structure Ro (n:Nat) (A:Around):Prop where
 hd:A.handled=none
 dp:A.depth+8 * (n+1)<=1000
 un:A.units+64 * (n+1)<=9900
noncomputable def no:Value->Shared->Prop:=λ_ _=>False
inductive bX {α:Type} (S:aY) (W:Wd) (F:Addr->Option Obj) (fm:Fm) (σ:St) (s₀:Shared) (R:Wd->α->Prop) (a:α) (s:Shared):Prop
 |mk (W':Wd):W.Le W'->R W' a->Inv S W' F fm σ s.heap->Kp s₀ s->bX S W F fm σ s₀ R a s
inductive qn {α:Type} (S:aY) (W:Wd) (F:Addr->Option Obj) (H:List AO) (s₀:Shared) (R:Wd->α->Prop) (a:α) (s:Shared):Prop
 |mk (W':Wd):W.Le W'->R W' a->b6 S W' F H s.heap->Kp s₀ s->qn S W F H s₀ R a s
section
variable {α β:Type} {S:aY} {W W':Wd} {F:Addr->Option Obj} {fm:Fm} {σ σ':St} {s s':Shared} {A:Around} {M:Model} {H:List AO} {h:Heap}
theorem bX.ret {R:Wd->α->Prop} {a:α} (I:Inv S W F fm σ s.heap) (r:R W a):bX S W F fm σ s R a s:=⟨W,.refl W,r,I,.refl s⟩
theorem bX.lift {R:Wd->α->Prop} {a:α} {t:Shared} (L:W.Le W') (k:Kp s s') (p:bX S W' F fm σ s' R a t):bX S W F fm σ s R a t:=by
 cases p with|mk W₂ l r I q=>exact⟨W₂,L.trans l,r,I,k.trans q⟩
theorem bX.zl {R:Wd->α->Prop} {a:α} {t:Shared} {os:List Nat} (p:bX S W F fm σ s R a t):bX S W F fm {σ with O:=os} s R a t:=by
 cases p with|mk W₂ l r I q=>exact⟨W₂,l,r,⟨I.tob6,I.own,I.fr,I.vars⟩,q⟩
theorem bX.map {R:Wd->α->Prop} {R':Wd->β->Prop} {a:α} {b:β} {t:Shared} (p:bX S W F fm σ s R a t) (f :∀W',W.Le W'->R W' a->R' W' b):bX S W F fm σ s R' b t:=by
 cases p with|mk W₂ l r I q=>exact⟨W₂,l,f _ l r,I,q⟩
theorem seq {t:Sem α} {R:Wd->α->Prop} {k:α->Shared->Prop}
  (h:wpAny M A t (bX S W F fm σ s R) no s)
  (f :∀W₁ a s₁,W.Le W₁->R W₁ a->Inv S W₁ F fm σ s₁.heap->Kp s s₁->k a s₁):wpAny M A t k no s:=
 wpAny_mono h (λa s₁ p=>by cases p with|mk W₁ l r I q=>exact f W₁ a s₁ l r I q) λ_ _ x=>x
theorem jz {t:Sem α} {R:Wd->α->Prop} {E:Value->Shared->Prop} {s₀:Shared} (L:W.Le W') (k:Kp s₀ s) (h:wpAny M A t (bX S W' F fm σ s R) E s) :
  wpAny M A t (bX S W F fm σ s₀ R) E s:=wpAny_mono h (λ_ _ p=>p.lift L k) λ_ _ x=>x
theorem bX.tok {R:Wd->α->Prop} {a:α} {t:Tok} (I:Inv S W F fm σ s.heap) (r:R W a):bX S W F fm σ s R a {s with toks:=t}:=
 ⟨W,.refl W,r,I,rfl,rfl⟩
noncomputable def Ln (W:Wd) (F:Addr->Option Obj) (fm:Fm) (a:Addr):Prop:=(∃o,W.P a=some o)\/(∃o,F a=some o)\/a∈W.ρ\/a∈fm.ow
structure Un (W:Wd) (F:Addr->Option Obj) (fm:Fm) (a:Addr):Prop where
 P:W.P a=none
 f:F a=none
 ρ:a∉W.ρ
 ow:a∉fm.ow
theorem Un.ne {a b:Addr} (u:Un W F fm a) (l:Ln W F fm b):b≠a:=λz=>by
 subst z
 rcases l with⟨o,e⟩|⟨o,e⟩|m|m
 ·rw [u.P]at e;cases e
 ·rw [u.f]at e;cases e
 ·exact u.ρ m
 ·exact u.ow m
theorem QR {h':Heap} {a:Addr} {m:Str->Option Value} (q:h.Ns a m) (k :∀o,h.get? a=some o->h'.get? a=some o):h'.Ns a m:=Exists.elim q λo r=>Exists.elim r λes r=>Exists.elim r λep r=>⟨o,es,ep,k o r.1,r.2⟩
theorem nQ {h':Heap} {a:Addr} {v:Option Value} (q:h.IsCell a v) (k :∀o,h.get? a=some o->h'.get? a=some o):h'.IsCell a v:=Exists.elim q λo r=>⟨o,k o r.1,r.2⟩
theorem b6.ie {h':Heap} (I:b6 S W F H h) (k :∀a o,(∃o,W.P a=some o)\/(∃o,F a=some o)\/a∈W.ρ->h.get? a=some o->h'.get? a=some o):b6 S W F H h':=
 {I with
  p:=λa o e=>k a o (.inl ⟨o,e⟩) (I.p a o e),f:=λa o e=>k a o (.inr (.inl ⟨o,e⟩)) (I.f a o e),hs:=λi a ao e e'=>Exists.elim (I.hs i a ao e e') λo x=>⟨o,k a o (.inr (.inr (List.mem_of_getElem? e))) x.1,x.2⟩}
theorem wz.ie {h':Heap} {V:List (Nm×AV)} (q:wz S W fm V h) (k :∀o,h.get? fm.env.locals=some o->h'.get? fm.env.locals=some o) (c :∀x c o,fm.env.kindOf x=some .cell->fm.env.cells.lookup x=some c->h.get? c=some o->h'.get? c=some o):wz S W fm V h':=by
 refine⟨?_,λx e=>?_⟩
 ·obtain⟨m,n,q⟩:=q.ns
  refine⟨m,QR n k,λx av e=>?_⟩
  obtain⟨v,r,z⟩:=q x av e
  exact⟨v,r,z.imp id λz=>⟨z.1,Exists.elim z.2 λd y=>⟨d,y.1,nQ y.2 λo=>c _ _ o z.1 y.1⟩⟩⟩
 ·obtain⟨d,v,a,y⟩:=q.cell x e
  exact⟨d,v,a,nQ y λo=>c _ _ o e a⟩
theorem wz.mono {V:List (Nm×AV)} (L:W.Le W') (q:wz S W fm V h):wz S W' fm V h:=
 ⟨Exists.elim q.ns λm n=>⟨m,n.1,λx av e=>Exists.elim (n.2 x av e) λv r=>⟨v,r.1.mono L,r.2⟩⟩,q.cell⟩
theorem Inv.nC (I:Inv S W F fm σ h) {x:Str} {c:Addr} (k:fm.env.kindOf x=some .cell) (l:fm.env.cells.lookup x=some c):Ln W F fm c:=(I.fr x c k l).elim (λm=>.inr (.inr (.inr m))) λe=>.inr (.inl e)
theorem Ln.ofH {a:Addr} (l:(∃o,W.P a=some o)\/(∃o,F a=some o)\/a∈W.ρ):Ln W F fm a:=l.imp id (.imp id .inl)
theorem Inv.ie {h':Heap} (I:Inv S W F fm σ h) (ok:fm.env.locals∈fm.ow) (k :∀a o,Ln W F fm a->h.get? a=some o->h'.get? a=some o):Inv S W F fm σ h':=
 {tob6:=I.tob6.ie λa o l=>k a o (.ofH l),fr:=I.fr,vars:=I.vars.ie (λo=>k _ o (.inr (.inr (.inr ok)))) λ_ _ o e l=>k _ o (I.nC e l),own:=λa m=>have y:=I.own a m;⟨y.1,y.2.1,y.2.2.1,Exists.elim y.2.2.2 λo e=>⟨o,k a o (.inr (.inr (.inr m))) e⟩⟩}
theorem b6.keeps {h':Heap} (I:b6 S W F H h) (k :∀a o,h.get? a=some o->h'.get? a=some o):b6 S W F H h':=I.ie λa o _=>k a o
theorem Inv.keeps {h':Heap} (I:Inv S W F fm σ h) (k :∀a o,h.get? a=some o->h'.get? a=some o):Inv S W F fm σ h':=
 {tob6:=I.tob6.keeps k,fr:=I.fr,vars:=I.vars.ie (λo=>k _ o) λ_ _ o _ _=>k _ o,own:=λa m=>have y:=I.own a m;⟨y.1,y.2.1,y.2.2.1,Exists.elim y.2.2.2 λo e=>⟨o,k a o e⟩⟩}
theorem bX.heap {R:Wd->α->Prop} {a:α} {h':Heap} {t:Tok} (I:Inv S W F fm σ s.heap) (k :∀b o,s.heap.get? b=some o->h'.get? b=some o) (r:R W a) :
  bX S W F fm σ s R a {s with heap:=h',toks:=t}:=⟨W,.refl W,r,I.keeps k,rfl,rfl⟩
theorem Inv.lt (I:Inv S W F fm σ h) :∀a∈fm.ow,a<h.objs.size:=λa m=>Exists.elim (I.own a m).2.2.2 λ_ e=>Heap.lt_size e
theorem Inv.push (I:Inv S W F fm σ h) (o:Obj):Inv S W F fm σ (h.push o):=I.keeps λ_ _ e=>Heap.get?_push_of_some o e
theorem b6.push (I:b6 S W F H h) (o:Obj):b6 S W F H (h.push o):=I.keeps λ_ _ e=>Heap.get?_push_of_some o e
theorem Inv.zl (I:Inv S W F fm σ h) {o:List Nat}:Inv S W F fm {σ with O:=o} h:=⟨I.tob6,I.own,I.fr,I.vars⟩
theorem Inv.ext {h':Heap} {a:Addr} (I:Inv S W F fm σ h) (ok:gC S fm) (u:Un W F fm a) (sb:Heap.ExtBut a h h'):Inv S W F fm σ h':=I.ie ok.lo λb o l=>sb b o (u.ne l)
theorem Inv.other {h':Heap} {a:Addr} (I:Inv S W F fm σ h) (ok:gC S fm) (u:Un W F fm a) (sb:Heap.SameBut a h h'):Inv S W F fm σ h':=I.ie ok.lo λb _ l e=>(sb.2 b (u.ne l)).trans e
theorem b6.ρlt (I:b6 S W F H h) {a:Addr} (m:a∈W.ρ):a<h.objs.size:=by
 obtain⟨i,hi,rfl⟩:=List.mem_iff_getElem.mp m
 have hj:i<H.length:=I.len▸hi
 obtain⟨o,e,_⟩:=I.hs i _ H[i] (List.getElem?_eq_getElem hi) (List.getElem?_eq_getElem hj)
 exact Heap.lt_size e
theorem b6.above {a:Addr} (I:b6 S W F H h) (g:h.objs.size<=a):W.P a=none/\F a=none/\a∉W.ρ:=by
 have no :∀{o},h.get? a=some o->False:=λe=>Nat.lt_irrefl _ (Nat.lt_of_lt_of_le (Heap.lt_size e) g)
 refine⟨?_,?_,λm=>Nat.lt_irrefl _ (Nat.lt_of_lt_of_le (I.ρlt m) g)⟩
 ·cases e:W.P a with
  |none=>rfl
  |some o=>exact(no (I.p _ _ e)).elim
 ·cases e:F a with
  |none=>rfl
  |some o=>exact(no (I.f _ _ e)).elim
theorem Inv.above {a:Addr} (I:Inv S W F fm σ h) (g:h.objs.size<=a):Un W F fm a:=
 have y:=I.tob6.above g
 ⟨y.1,y.2.1,y.2.2,λm=>Nat.lt_irrefl _ (Nat.lt_of_lt_of_le (I.lt _ m) g)⟩
theorem Inv.un (I:Inv S W F fm σ h):Un W F fm h.objs.size:=I.above (Nat.le_refl _)
theorem Inv.fresh {h':Heap} (I:Inv S W F fm σ h) (ok:gC S fm) (sb:Heap.ExtBut h.objs.size h h'):Inv S W F fm σ h':=I.ext ok I.un sb
noncomputable def Wd.put (W:Wd) (a:Addr) (o:Obj):Wd:={W with P:=λb=>if b=a then some o else W.P b}
theorem Wd.PC {a:Addr} {o:Obj} (n:W.P a=none):W.Le (W.put a o):=⟨λb o' e=>by
 show(if b=a then some o else W.P b)=some o'
 rw [if_neg (λx=>by rw [x,n]at e;cases e)];exact e,[],by simp [Wd.put]⟩
theorem Wd.pL {a:Addr} {o:Obj}:(W.put a o).P a=some o:=if_pos rfl
theorem FJ {a b:Addr} {o o':Obj} {P:Prop} (q:(W.put a o).P b=some o') (k:b=a->o=o'->P) (k':W.P b=some o'->P):P:=by
 by_cases z:b=a
 ·subst z;rw [Wd.pL]at q;exact k rfl (Option.some.inj q)
 ·exact k' ((if_neg z).symm.trans q)
theorem FK {a b:Addr} {o:Obj} (z:b≠a) (n:W.P b=none):(W.put a o).P b=none:=(if_neg z).trans n
theorem b6.wd {a:Addr} {o:Obj} (I:b6 S W F H h) (p:W.P a=none) (f:F a=none) (r:a∉W.ρ) (e:h.get? a=some o):b6 S (W.put a o) F H h/\W.Le (W.put a o):=by
 have L:W.Le (W.put a o):=Wd.PC p
 refine⟨{I with
  p:=λb o' q=>FJ q (λz z'=>z▸z'▸e) (I.p b o'),base:=λb o' q=>L.P _ _ (I.base b o' q),pf:=λb o' q=>FJ q (λz _=>z▸f) (I.pf b o'),ρp:=λb m=>FK (λz=>r (z▸m)) (I.ρp b m),hs:=λi b ao q q'=>Exists.elim (I.hs i b ao q q') λo' x=>⟨o',x.1,x.2.mono L⟩},L⟩
theorem Inv.wd {a:Addr} {o:Obj} (I:Inv S W F fm σ h) (u:Un W F fm a) (e:h.get? a=some o):Inv S (W.put a o) F fm σ h/\W.Le (W.put a o):=
 have y:=I.tob6.wd u.P u.f u.ρ e
 ⟨{tob6:=y.1,own:=λb m=>have w:=I.own b m;⟨FK (λz=>u.ow (z▸m)) w.1,w.2⟩,fr:=I.fr,vars:=I.vars.mono y.2},y.2⟩
theorem Inv.new (I:Inv S W F fm σ h) {o:Obj} (ho:o.isFreed=false:=by rfl) :
  Inv S (W.put h.objs.size o) F fm σ (h.push o)/\W.Le (W.put h.objs.size o):=(I.push o).wd I.un (Heap.get?_push_size _ ho)
theorem bX.new {R:Wd->α->Prop} {a:α} {o:Obj} {t:Tok} (I:Inv S W F fm σ h) (ho:o.isFreed=false) (r :∀W',W.Le W'->W'.P h.objs.size=some o->R W' a):bX S W F fm σ s R a {s with heap:=h.push o,toks:=t}:=
 have J:=I.new ho
 ⟨_,J.2,r _ J.2 Wd.pL,J.1,rfl,rfl⟩
noncomputable def Wd.a5 (W:Wd) (a:Addr):Wd:={W with ρ:=W.ρ++[a]}
theorem Wd.xm {a:Addr}:W.Le (W.a5 a):=⟨λ_ _ e=>e,[a],rfl⟩
theorem xl {α:Type} {l:List α} {x y:α} {i:Nat} {P:Prop} (e:(l++[x])[i]?=some y) (k:i=l.length->x=y->P) (k':l[i]?=some y->P):P:=by
 rcases Nat.lt_trichotomy i l.length with z|z|z
 ·exact k' (by rwa [List.getElem?_append_left z]at e)
 ·exact k z (by rw [List.getElem?_append_right (Nat.le_of_eq z.symm),z,Nat.sub_self]at e;exact Option.some.inj e)
 ·rw [List.getElem?_eq_none (by simp;lia)]at e;exact nn e
theorem pG {α:Type} {l:List α} {x y:α} (m:y∈l++[x]):y∈l\/y=x:=(List.mem_append.mp m).imp id List.mem_singleton.mp
theorem b6.zE {a:Addr} {o:Obj} {ao:AO} (I:b6 S W F H h) (p:W.P a=none) (f:F a=none) (n:a∉W.ρ) (e:h.get? a=some o) (r:OR S W ao o):b6 S (W.a5 a) F (H++[ao]) h:=by
 have L:W.Le (W.a5 a):=Wd.xm
 refine{I with
  len:=by simp [Wd.a5,I.len],hs:=λi b ao' q q'=>xl q (λz z'=>?_) λy=>xl q' (λz _=>absurd (List.getElem?_eq_some_iff.mp y).1 (by rw [z,I.len];exact Nat.lt_irrefl _)) λy'=>Exists.elim (I.hs i b ao' y y') λo' x=>⟨o',x.1,x.2.mono L⟩,nd:=?_,ρp:=λb m=>(pG m).elim (I.ρp b) λz=>z▸p,ρf:=λb m=>(pG m).elim (I.ρf b) λz=>z▸f}
 ·exact xl q' (λ_ y'=>⟨o,z'▸e,y'▸r.mono L⟩) λy'=>absurd (List.getElem?_eq_some_iff.mp y').1 (by rw [z,I.len];exact Nat.lt_irrefl _)
 ·exact List.nodup_append.mpr ⟨I.nd,by simp,λb m c mc z=>n (List.mem_singleton.mp mc▸z▸m)⟩
theorem b6.Sr (I:b6 S W F H h) {a:Addr}:(W.a5 a).ρ[H.length]?=some a:=by
 show(W.ρ++[a])[H.length]?=_
 rw [<-I.len];simp
theorem Inv.zE {a:Addr} {o:Obj} {ao:AO} (I:Inv S W F fm σ h) (u:Un W F fm a) (e:h.get? a=some o) (r:OR S W ao o) :
  Inv S (W.a5 a) F fm {σ with H:=σ.H++[ao]} h/\W.Le (W.a5 a)/\(W.a5 a).ρ[σ.H.length]?=some a:=
 ⟨{tob6:=I.tob6.zE u.P u.f u.ρ e r,fr:=I.fr,vars:=I.vars.mono Wd.xm,own:=λb m=>have w:=I.own b m;⟨w.1,w.2.1,λk=>(pG k).elim w.2.2.1 λz=>u.ow (z▸m),w.2.2.2⟩},Wd.xm,I.tob6.Sr⟩
theorem Inv.EX (I:Inv S W F fm σ h) {o:Obj} {ao:AO} (r:OR S W ao o) :
  Inv S (W.a5 h.objs.size) F fm {σ with H:=σ.H++[ao]} (h.push o)/\W.Le (W.a5 h.objs.size)/\(W.a5 h.objs.size).ρ[σ.H.length]?=some h.objs.size:=(I.push o).zE I.un (Heap.get?_push_size _ r.oy) r
theorem b6.set {h':Heap} (I:b6 S W F H h) {i:Nat} {a:Addr} {ao:AO} {o:Obj} (e:W.ρ[i]?=some a) (sb:Heap.SameBut a h h') (g:h'.get? a=some o) (r:OR S W ao o) :
  b6 S W F (H.set i ao) h':=by
 have m:a∈W.ρ:=List.mem_of_getElem? e
 have ne :∀b (o':Obj),W.P b=some o'->b≠a:=λb o' x y=>by rw [y,I.ρp a m]at x;cases x
 have nf :∀b (o':Obj),F b=some o'->b≠a:=λb o' x y=>by rw [y,I.ρf a m]at x;cases x
 refine{I with p:=λb o' x=>(sb.2 b (ne b o' x)).trans (I.p b o' x),f:=λb o' x=>(sb.2 b (nf b o' x)).trans (I.f b o' x),len:=by simp [I.len],hs:=λj b ao' x y=>?_}
 by_cases q:j=i
 ·subst q
  have hi:=I.len▸(List.getElem?_eq_some_iff.mp e).1
  rw [List.getElem?_set_self hi]at y
  exact⟨o,Option.some.inj (e.symm.trans x)▸g,Option.some.inj y▸r⟩
 ·rw [List.getElem?_set_ne (Ne.symm q)]at y
  refine Exists.elim (I.hs j b ao' x y) λo' p=>⟨o',(sb.2 b λz=>q ?_).trans p.1,p.2⟩
  subst z
  obtain⟨h1,e1⟩:=List.getElem?_eq_some_iff.mp x
  obtain⟨h2,e2⟩:=List.getElem?_eq_some_iff.mp e
  exact(List.getElem_inj (h₀:=h1) (h₁:=h2) I.nd).mp (e1.trans e2.symm)
theorem Inv.set {h':Heap} (I:Inv S W F fm σ h) {i:Nat} {a:Addr} {ao:AO} {o:Obj} (e:W.ρ[i]?=some a) (sb:Heap.SameBut a h h') (g:h'.get? a=some o) (r:OR S W ao o) (ok:gC S fm) :
  Inv S W F fm {σ with H:=σ.H.set i ao} h':=by
 have m:a∈W.ρ:=List.mem_of_getElem? e
 have keep :∀b o,(∃o,F b=some o)\/b∈fm.ow->h.get? b=some o->h'.get? b=some o:=λb o l q=>(sb.2 b λz=>by
  subst z
  rcases l with⟨o,l⟩|l
  ·rw [I.ρf b m]at l;cases l
  ·exact(I.own b l).2.2.1 m).trans q
 exact{tob6:=I.tob6.set e sb g r,fr:=I.fr,own:=λb hb=>have y:=I.own b hb;⟨y.1,y.2.1,y.2.2.1,Exists.elim y.2.2.2 λo e=>⟨o,keep b o (.inr hb) e⟩⟩,vars:=I.vars.ie (λo=>keep _ o (.inr ok.lo)) λx c o k l=>keep c o ((I.fr x c k l).elim .inr .inl)}
theorem Lv {α:Type} (V:List (Nm×α)) (x y:Nm) (v:α):lk (pt V x v) y=if x=y then some v else lk V y:=by
 induction V with
 |nil=>rfl
 |cons p r ih=>
  by_cases e:p.1=x
  ·subst e
   rw [fD,if_pos rfl,dT,dT]
   by_cases f:p.1=y
   ·rw [if_pos f,if_pos f]
   ·rw [if_neg f,if_neg f,if_neg f]
  ·rw [fD,if_neg e,dT,dT,ih]
   by_cases f:p.1=y
   ·rw [if_pos f,if_pos f,if_neg λz=>e (f.trans z.symm)]
   ·rw [if_neg f,if_neg f]
theorem Inv.put {x:Nm} {av:AV} {v:Value} {h':Heap} {a:Addr} {m':Str->Option Value} (I:Inv S W F fm σ h) (r:VR S W av v) (ow:a∈fm.ow) (ex :∃o,h'.get? a=some o) (sb:Heap.SameBut a h h')
  (n:h'.Ns fm.env.locals m') (w:zN fm.env h' m' (bY x) v) (q :∀y av,x≠y->lk σ.V y=some av->∃v,VR S W av v/\zN fm.env h' m' (bY y) v) (c :∀x,fm.env.kindOf x=some .cell->∃c v,fm.env.cells.lookup x=some c/\h'.IsCell c v):Inv S W F fm {σ with V:=pt σ.V x av} h':=by
 have y:=I.own a ow
 have keep :∀b o,b≠a->h.get? b=some o->h'.get? b=some o:=λb o z e=>(sb.2 b z).trans e
 refine{tob6:=I.tob6.ie λb o l=>keep b o λz=>?_,fr:=I.fr,own:=λb hb=>have y:=I.own b hb;⟨y.1,y.2.1,y.2.2.1,?_⟩,vars:=⟨⟨m',n,λy a e=>?_⟩,c⟩}
 ·subst z
  rcases l with⟨o,l⟩|⟨o,l⟩|l
  ·rw [y.1]at l;cases l
  ·rw [y.2.1]at l;cases l
  ·exact y.2.2.1 l
 ·by_cases z:b=a
  ·exact z▸ex
  ·exact Exists.elim y.2.2.2 λo e=>⟨o,keep b o z e⟩
 ·have e:lk (pt σ.V x av) y=some a:=e
  rw [Lv]at e
  by_cases z:x=y
  ·rw [if_pos z]at e
   exact⟨v,Option.some.inj e▸r,z▸w⟩
  ·rw [if_neg z]at e
   exact q y a z e
theorem Inv.store {x:Nm} {av:AV} {v:Value} {Q:Unit->Shared->Prop} {E:Value->Shared->Prop} (ok:gC S fm) (os:fm.env.kindOf (bY x)=some .cell->B2 S fm) (I:Inv S W F fm σ s.heap) (r:VR S W av v)
  (k:fm.env.kindOf (bY x)=some .local\/fm.env.kindOf (bY x)=some .cell)
  (q :∀s',Inv S W F fm {σ with V:=pt σ.V x av} s'.heap->Kp s s'->Q () s'):wpAny M A (storeName fm.env (bY x) v) Q E s:=by
 obtain⟨m,hm,hv⟩:=I.vars.ns
 rcases k with k|k
 ·refine wpAny_storeName_local k hm (λh' n sb=>q _ (I.put r ok.lo (Exists.elim n λo e=>Exists.elim e λ_ e=>Exists.elim e λ_ e=>⟨o,e.1⟩) sb n (.inl ⟨k,if_pos rfl⟩) (λy a z e=>?_) λy e=>?_) ⟨rfl,rfl⟩) (by rw [ok.kf];rfl)
  ·exact Exists.elim (hv y a e) λu w=>⟨u,w.1,w.2.imp (λw=>⟨w.1,(if_neg λe=>z (jB e).symm).trans w.2⟩) λw=>⟨w.1,Exists.elim w.2 λc l=>⟨c,l.1,l.2.sameBut sb (ok.cl _ c l.1)⟩⟩⟩
  ·exact Exists.elim (I.vars.cell y e) λc w=>Exists.elim w λu l=>⟨c,u,l.1,l.2.sameBut sb (ok.cl y c l.1)⟩
 ·obtain⟨c,v₀,l,ic⟩:=I.vars.cell _ k
  have os:=os k
  have hne:=ok.cl _ c l
  refine wpAny_storeName_cell ok.kf k l ic (λh' ic' sb=>q _ (I.put r (os.ce _ c k l) (Exists.elim ic' λo e=>⟨o,e.1⟩) sb (hm.sameBut sb hne.symm) (.inr ⟨k,c,l,ic'⟩) (λy a z e=>?_) λy e=>?_) ⟨rfl,rfl⟩)
  ·exact Exists.elim (hv y a e) λu w=>⟨u,w.1,w.2.imp id λw=>⟨w.1,Exists.elim w.2 λd l'=>⟨d,l'.1,l'.2.sameBut sb λz'=>z (jB (os.ci _ _ c k l (z'▸l'.1)))⟩⟩⟩
  ·by_cases z:bY x=y
   ·exact⟨c,_,z▸l,ic'⟩
   ·exact Exists.elim (I.vars.cell y e) λd w=>Exists.elim w λu l'=>⟨d,u,l'.1,l'.2.sameBut sb λw=>z (os.ci _ _ c k l (w▸l'.1))⟩
theorem Inv.load {x:Nm} {av:AV} {Q:Value->Shared->Prop} {E:Value->Shared->Prop} (ok:gC S fm) (I:Inv S W F fm σ s.heap) (e:lk σ.V x=some av)
  (q :∀v,VR S W av v->Q v s):wpAny M A (loadName fm.env (bY x)) Q E s:=by
 obtain⟨m,hm,hv⟩:=I.vars.ns
 obtain⟨v,r,w⟩:=hv x av e
 rcases w with⟨k,w⟩|⟨k,c,l,w⟩
 ·exact wpAny_loadName_local ok.kf k hm w (q v r)
 ·exact wpAny_loadName_cell ok.kf k l w (q v r)
noncomputable def gD (F:Addr->Option Obj) (a:Addr) (o:Obj):Addr->Option Obj:=λb=>if b=a then some o else F b
theorem lI {a:Addr} {o:Obj}:gD F a o a=some o:=if_pos rfl
theorem kl {a b:Addr} {o:Obj} (z:b≠a):gD F a o b=F b:=if_neg z
theorem Un.gD {a b:Addr} {o:Obj} (u:Un W F fm a) (ne:a≠b):Un W (gD F b o) fm a:=⟨u.P,(kl ne).trans u.f,u.ρ,u.ow⟩
theorem Inv.hold {a:Addr} {o:Obj} (I:Inv S W F fm σ h) (u:Un W F fm a) (e:h.get? a=some o):Inv S W (gD F a o) fm σ h:=by
 have ne :∀{b},Ln W F fm b->Mine.gD F a o b=F b:=λl=>kl (u.ne l)
 have J:=I.tob6
 refine{tob6:={J with f:=λb o' q=>?_,ρf:=λb m=>(ne (.inr (.inr (.inl m)))).trans (I.ρf b m),pf:=λb o' q=>(ne (.inl ⟨o',q⟩)).trans (I.pf b o' q)},own:=λb m=>have y:=I.own b m;⟨y.1,(ne (.inr (.inr (.inr m)))).trans y.2.1,y.2.2⟩,fr:=λx c k l=>(I.fr x c k l).imp id λq=>Exists.elim q λo' q=>⟨o',(ne (.inr (.inl ⟨o',q⟩))).trans q⟩,vars:=I.vars}
 by_cases z:b=a
 ·subst z;rw [lI]at q;exact Option.some.inj q▸e
 ·rw [kl z]at q;exact I.f b o' q
theorem Inv.free {a:Addr} {o:Obj} (I:Inv S W (gD F a o) fm σ h) (n:F a=none) (nc :∀x c,fm.env.kindOf x=some .cell->fm.env.cells.lookup x=some c->c≠a):Inv S W F fm σ h/\Un W F fm a/\h.get? a=some o:=by
 have le :∀b o',F b=some o'->Mine.gD F a o b=some o':=λb o' q=>(kl λz=>by rw [z,n]at q;cases q).trans q
 have back :∀b,Mine.gD F a o b=none->F b=none:=λb q=>by
  cases w:F b with
  |none=>rfl
  |some o'=>rw [le b o' w]at q;cases q
 have J:=I.tob6
 refine⟨{tob6:={J with f:=λb o' q=>I.f b o' (le b o' q),ρf:=λb m=>back b (I.ρf b m),pf:=λb o' q=>back b (I.pf b o' q)},own:=λb m=>have y:=I.own b m;⟨y.1,back b y.2.1,y.2.2⟩,fr:=λx c k l=>(I.fr x c k l).imp id λq=>Exists.elim q λo' q=>⟨o',(kl (nc x c k l)).symm.trans q⟩,vars:=I.vars},⟨?_,n,λm=>?_,λm=>?_⟩,I.f a o lI⟩
 ·cases q:W.P a with
  |none=>rfl
  |some o'=>have:=I.pf a o' q;rw [lI]at this;cases this
 ·have:=I.ρf a m;rw [lI]at this;cases this
 ·have:=(I.own a m).2.1;rw [lI]at this;cases this
end
noncomputable abbrev MD (S:aY):Model:=model S.prog S.w
noncomputable abbrev VP (S:aY) (av:AV):Wd->Value->Prop:=λW v=>VR S W av v
section
variable {S:aY} {W:Wd} {x y:AV} {u v:Value}
theorem VR.jQ {i:Int} (h:VR S W x v) (e:Mine.jQ x=some i):VR S W (.int i) v:=wF (P:=λx=>VR S W x v->VR S W (.int i) v) e id h
theorem VR.gU {i:List Nat} (h:VR S W x v) (e:Mine.gU x=some i):VR S W (.str i) v:=Cp (P:=λx=>VR S W x v->VR S W (.str i) v) e id h
theorem VR.zW {i:Bool} (h:VR S W x v) (e:Mine.zW x=some i):VR S W (.bool i) v:=wD (P:=λx=>VR S W x v->VR S W (.bool i) v) e id h
theorem VR.kA {i:Unit} (h:VR S W x v) (e:Mine.kA x=some i):VR S W .none v:=wG (P:=λx=>VR S W x v->VR S W .none v) e id h
theorem VR.nI {i:List AV} (h:VR S W x v) (e:Mine.nI x=some i):VR S W (.tup i) v:=Cq (P:=λx=>VR S W x v->VR S W (.tup i) v) e id h
theorem VR.x8 {i:List AV} (h:VR S W x v) (e:Mine.x8 x=some i):VR S W (.lst i) v:=MV (P:=λx=>VR S W x v->VR S W (.lst i) v) e id h
theorem VR.BK {i:List (Nm×AV)} (h:VR S W x v) (e:Mine.BK x=some i):VR S W (.ck i) v:=Cm (P:=λx=>VR S W x v->VR S W (.ck i) v) e id h
theorem VR.eZ {i:Nat} (h:VR S W x v) (e:Mine.eZ x=some i):VR S W (.a5 i) v:=Co (P:=λx=>VR S W x v->VR S W (.a5 i) v) e id h
theorem VR.qp {i:Cl×Nat} (h:VR S W x v) (e:Mine.qp x=some i):VR S W (.inst i.1 i.2) v:=HT (P:=λx=>VR S W x v->VR S W (.inst i.1 i.2) v) e id h
theorem VR.mw {i:Unit} (h:VR S W x v) (e:Mine.mw x=some i):VR S W (.bi .bool) v:=zX (P:=λx=>VR S W x v->VR S W (.bi .bool) v) e id h
@[elab_as_elim] theorem aw {α:Type} {P:α->Prop} {a p:α} (h:some a=some p) (k:P a):P p:=Option.some.inj h▸k
@[elab_as_elim] theorem jd {α:Type} {P:Value->Value->Prop} {f:Int->Int->Option α} {d:Option α} {r:α} (h:i2 x y f d=some r) (hx:VR S W x u) (hy:VR S W y v) (k :∀a b t t',f a b=some r->P (.int a t) (.int b t')) (k':d=some r->P u v):P u v:=
 b7 h (λa h e=>ar h λb h e'=>(hx.jQ e).kY λt=>(hy.jQ e').kY λt'=>k a b t t' h) k'
@[elab_as_elim] theorem F7 {α:Type} {P:Value->Value->Prop} {f:List Nat->List Nat->Option α} {d:Option α} {r:α} (h:s2 x y f d=some r) (hx:VR S W x u) (hy:VR S W y v) (k :∀a b t t',f a b=some r->P (.str ⟨a.toArray⟩ t) (.str ⟨b.toArray⟩ t')) (k':d=some r->P u v):P u v:=
 b7 h (λa h e=>ar h λb h e'=>(hx.gU e).gO λt _=>(hy.gU e').gO λt' _=>k a b t t' h) k'
@[elab_as_elim] theorem E8 {P:Value->Value->Bool->Prop} {d:Option Bool} {r:Bool} (h:Zf x y d=some r) (hx:VR S W x u) (hy:VR S W y v) (k1:P .none .none true) (k2 :∀b t,P .none (.str ⟨b⟩ t) false) (k3 :∀a t,P (.str ⟨a⟩ t) .none false)
  (k4 :∀(a b:List Nat) t t',P (.str ⟨a.toArray⟩ t) (.str ⟨b.toArray⟩ t') (bQ a b)) (k':d=some r->P u v r):P u v r:=
 b7 h (λ_ h e=>(hx.kA e).lU (b7 h (λ_ h e'=>(hy.kA e').lU (aw h k1)) λh=>ar h λb h e'=>(hy.gU e').gO λt _=>aw h (k2 _ t))) λh=>
 b7 h (λa h e=>(hx.gU e).gO λt _=>b7 h (λ_ h e'=>(hy.kA e').lU (aw h (k3 _ t))) λh=>ar h λb h e'=>(hy.gU e').gO λt' _=>aw h (k4 a b t t')) k'
theorem yf {o:nP} {p:AV×List Nat} {P:nP->Value->Value->AV×List Nat->Prop} (h:mz o x y=some p) (hx:VR S W x u) (hy:VR S W y v) (addI :∀i j t t',P .add (.int i t) (.int j t') (.int (i+j),[]))
  (addS :∀(a b:List Nat) t t',P .add (.str ⟨a.toArray⟩ t) (.str ⟨b.toArray⟩ t') (.str (a++b),[a.length+b.length])) (subI :∀i j t t',P .sub (.int i t) (.int j t') (.int (i-j),[]))
  (modI :∀i j t t',0<j->P .mod (.int i t) (.int j t') (.int (Int.fmod i j),[])) (divI :∀i j t t',0<j->j<100000->P .fdiv (.int i t) (.int j t') (.int (Int.fdiv i j),[])):P o u v p:=by
 cases o with
 |mul=>exact nn h
 |add=>exact jd h hx hy (λi j t t' h=>aw h (addI i j t t')) λh=>F7 h hx hy (λa b t t' h=>aw h (addS a b t t')) nn
 |sub=>exact jd h hx hy (λi j t t' h=>aw h (subI i j t t')) nn
 |mod=>exact jd h hx hy (λi j t t' h=>gF h λc e=>e▸modI i j t t' (of_decide_eq_true (bf c).1)) nn
 |fdiv=>exact jd h hx hy (λi j t t' h=>gF h λc e=>e▸divI i j t t' (of_decide_eq_true (bf c).1) (of_decide_eq_true (bf c).2)) nn
end
noncomputable def nJ:nP->Operator
 |.add=>.Add|.sub=>.Sub|.mul=>.Mult|.fdiv=>.FloorDiv|.mod=>.Mod
theorem P1 (a b:List Nat):(⟨a.toArray⟩:Str)++(⟨b.toArray⟩:Str)=⟨(a++b).toArray⟩:=by
 show Str.append _ _=_
 simp [Str.append]
theorem qa (a:List Nat):(⟨a.toArray⟩:Str).length=a.length:=rfl
section
variable {S:aY} {W:Wd} {F:Addr->Option Obj} {fm:Fm} {σ:St} {s:Shared} {A:Around} {E:Value->Shared->Prop}
theorem x6 {a b:List Nat} {t:Tok} (hz :∀n∈([a.length+b.length]:List Nat),n<=ew):VR S W (.str (a++b)) (.str ((⟨a.toArray⟩:Str)++(⟨b.toArray⟩:Str)) t):=
 P1 a b▸.str _ _ (Nat.le_trans (Nat.le_of_eq List.length_append) (hz _ (.head _)))
theorem nS {o:nP} {x y:AV} {p:AV×List Nat} {a b:Value} (h:mz o x y=some p) (ha:VR S W x a) (hb:VR S W y b) (I:Inv S W F fm σ s.heap) (hz :∀n∈p.2,n<=ew) :
  wpAny (MD S) A (binaryOp (nJ o) a b) (bX S W F fm σ s (VP S p.1)) E s:=
 yf (P:=λo a b p=>(∀n∈p.2,n<=ew)->wpAny (MD S) A (binaryOp (nJ o) a b) (bX S W F fm σ s (VP S p.1)) E s) h ha hb (λ_ _ _ _ _=>add_int (bX.tok I (.int ..)))
  (λ_ _ _ _ hz=>add_str (λ_ _=>bX.tok I (x6 hz)) (dg (hz _ (.head _)))) (λ_ _ _ _ _=>P.sub_int (bX.tok I (.int ..)))
  (λ_ _ _ _ h1 _=>mod_int (Ne.symm (Int.ne_of_lt h1)) (bX.tok I (.int ..))) (λ_ _ _ _ h1 h2 _=>floordiv_int (Ne.symm (Int.ne_of_lt h1)) (bX.tok I (.int ..)) (.inl (PyProof.noPylong_small (by omega)))) hz
theorem HZ {x y:AV} {p:AV×List Nat} {a b:Value} (h:Rp x y=some p) (ha:VR S W x a) (hb:VR S W y b) (I:Inv S W F fm σ s.heap) (hz :∀n∈p.2,n<=ew):wpAny (MD S) A (binaryOp .Add a b) (bX S W F fm σ s (VP S p.1)) E s:=
 ar h λas h e=>ar h λbs h e'=>bR h (λh _=>nn h) λh c=>(ha.nI e).qh (P:=λa=>wpAny (MD S) A (binaryOp .Add a b) (bX S W F fm σ s (VP S p.1)) E s) λa items n d sl hp _ rs=>(hb.nI e').qh (P:=λb=>wpAny (MD S) A (binaryOp .Add (.ref a) b) (bX S W F fm σ s (VP S p.1)) E s) λb cw n2 d2 sl2 hp2 _ rs2=>by
   obtain rfl:=Option.some.inj h
   have c:=Bool.or_eq_false_iff.mp c
   have l1:=rs.length
   have l2:=rs2.length
   have n1 :¬items.isEmpty=true:=λz=>by
    rw [Array.isEmpty_iff_size_eq_zero,<-Array.length_toList,<-l1]at z
    rw [List.length_eq_zero_iff.mp z]at c;cases c.1
   have n2' :¬cw.isEmpty=true:=λz=>by
    rw [Array.isEmpty_iff_size_eq_zero,<-Array.length_toList,<-l2]at z
    rw [List.length_eq_zero_iff.mp z]at c;cases c.2
   have hl:as.length+bs.length<=ew:=hz _ (.head _)
   refine concat_meets ⟨_,I.p _ _ hp,rfl⟩ ⟨_,I.p _ _ hp2,rfl⟩ noFill_tuple_add seq_tuple_add PySem.F.slot_tuple_add PySem.F.entry_tuple_add (PySem.F.args_tuple_add_2 _ _) (tuple_addW2 _ _ items cw n n2 d d2 sl sl2 n1 n2' (dg (by rw [<-Array.length_toList,<-Array.length_toList,<-l1,<-l2];exact hl)))
    ⟨I.p _ _ hp,I.p _ _ hp2,?_⟩
   exact bX.new (t:=s.toks) (R:=λW=>VR S W (.tup (as++bs))) I rfl λW' L e=>.tup e (by rw [List.length_append];exact hl) (by rw [Array.toList_append];exact(rs.mono L).append (rs2.mono L))
theorem HY {o:nP} {x y:AV} {p:AV×List Nat} {a b:Value} (h:M3 o x y=some p) (ha:VR S W x a) (hb:VR S W y b) (I:Inv S W F fm σ s.heap) (hz :∀n∈p.2,n<=ew) :
  wpAny (MD S) A (binaryOp (nJ o) a b) (bX S W F fm σ s (VP S p.1)) E s:=by
 cases o with
 |mul=>exact nn h
 |add=>exact b7 h (λq h e=>HZ (e.trans h) ha hb I hz) λh=>nS h ha hb I hz
 |sub=>exact nS (o:=.sub) h ha hb I hz
 |mod=>exact nS (o:=.mod) h ha hb I hz
 |fdiv=>exact nS (o:=.fdiv) h ha hb I hz
theorem oY {o:nP} {x y:AV} {p:AV×List Nat} {a b:Value} (h:mz o x y=some p) (ha:VR S W x a) (hb:VR S W y b) (I:Inv S W F fm σ s.heap) (hz :∀n∈p.2,n<=ew) (ho:o=.add\/o=.sub) :
  wpAny (MD S) A (inplaceOp (nJ o) a b) (bX S W F fm σ s (VP S p.1)) E s:=
 yf (P:=λo a b p=>(∀n∈p.2,n<=ew)->o=.add\/o=.sub->wpAny (MD S) A (inplaceOp (nJ o) a b) (bX S W F fm σ s (VP S p.1)) E s) h ha hb (λ_ _ _ _ _ _=>iadd_int (bX.tok I (.int ..)))
  (λ_ _ _ _ hz _=>iadd_str (λ_ _=>bX.tok I (x6 hz)) (dg (hz _ (.head _)))) (λ_ _ _ _ _ _=>isub_int (bX.tok I (.int ..)))
  (λ_ _ _ _ _ _ ho=>by rcases ho with h|h<;>cases h) (λ_ _ _ _ _ _ _ ho=>by rcases ho with h|h<;>cases h) hz ho
theorem fC (a b:List Nat):bQ a b=(a==b):=by
 induction a generalizing b with
 |nil=>cases b<;>rfl
 |cons x r ih=>
  cases b with
  |nil=>rfl
  |cons y q=>
   show(Nat.beq x y&&bQ r q)=(x::r==y::q)
   rw [ih,List.cons_beq_cons,BT.beq_eq];rfl
theorem tP (a b:List Nat):((⟨a.toArray⟩:Str)==(⟨b.toArray⟩:Str))=bQ a b:=by
 rw [<-toList_beq,fC]
end
section
open PySem.Builtin.Str
section
variable {S:aY} {W:Wd} {F:Addr->Option Obj} {H:List AO} {s:Shared} {A:Around} {E:Value->Shared->Prop}
noncomputable def kU:nR->CmpOp
 |.eq=>.Eq|.ne=>.NotEq|.lt=>.Lt|.le=>.LtE|.gt=>.Gt|.ge=>.GtE|.is=>.Is|.isn=>.IsNot|.isin=>.In|.nin=>.NotIn
theorem Ob (a b:List Nat):Ha a b=!decide (b<a):=by
 induction a generalizing b with
 |nil=>cases b<;>rfl
 |cons x r ih=>
  cases b with
  |nil=>exact(congrArg (! ·) (decide_eq_true (List.Lex.nil:[]<x::r))).symm
  |cons y q=>
   show(if x=y then Ha r q else decide (x<y))=_
   by_cases e:x=y
   ·subst e
    rw [if_pos rfl,ih]
    simp
   ·rw [if_neg e]
    by_cases g:x<y
    ·rw [decide_eq_true g,decide_eq_false λc=>by
      cases c with
      |rel c=>exact Nat.lt_asymm g c
      |cons c=>exact e rfl]
     rfl
    ·rw [decide_eq_false g,decide_eq_true (show(y::q)<(x::r)from .rel (Nat.lt_of_le_of_ne (Nat.le_of_not_lt g) (Ne.symm e)))]
     rfl
theorem any_beq (c:Nat) (b:List Nat):b.any (Nat.beq c)=decide (c∈b):=by
 induction b with
 |nil=>simp
 |cons y q ih=>
  rw [List.any_cons,ih,BT.beq_eq]
  simp
noncomputable def RZ:Value->Value->Bool
 |.none,.none=>true
 |.str a _,.str b _=>a==b
 |.int a _,.int b _=>a==b
 |_,_=>false
theorem NC {x y:AV} {b:Bool} {u v:Value} (h:YL x y=some b) (hx:VR S W x u) (hy:VR S W y v):EqAt A s u v b/\RZ u v=b:=
 E8 (P:=λu v b=>EqAt A s u v b/\RZ u v=b) h hx hy ⟨EqAt.same _,rfl⟩ (λ_ _=>⟨EqAt.none_str _ _,rfl⟩) (λ_ _=>⟨EqAt.str_none _ _,rfl⟩) (λa b _ _=>tP a b▸⟨EqAt.str_str _ _ _ _,rfl⟩)
  λh=>jd h hx hy (λi j t t' h=>aw h ⟨EqAt.int_int _ _ _ _,rfl⟩) nn
theorem DG {x:AV} {v:Value} (hx:VR S W x v) {ys:List AV} {us:List Value} {b:Bool} (h:o3 x ys=some b) (hy:cq S W ys us) :
  (∀u∈us,EqAt A s u v (RZ u v))/\us.any (λu=>RZ u v)=b:=by
 induction ys generalizing us b with
 |nil=>exact hy.jP (aw h ⟨λ_ m=>(List.not_mem_nil m).elim,rfl⟩)
 |cons y r ih=>
  refine hy.cQ λu us h1 h2=>ar h λb1 h e1=>ar h λb2 h e2=>aw h ?_
  have p:=NC (A:=A) (s:=s) e1 h1 hx
  have q:=ih e2 h2
  refine⟨λw m=>?_,by rw [List.any_cons,p.2,q.2]⟩
  rcases List.mem_cons.mp m with rfl|m
  ·exact p.2.symm▸p.1
  ·exact q.1 w m
theorem VR.yX {x:AV} {v:Value} (h:VR S W x v):(v==Value.none)=Y6 x:=by
 cases x with
 |none=>exact h.lU rfl
 |bool=>exact h.qS rfl
 |int=>exact h.kY λ_=>rfl
 |str=>exact h.gO λ_ _=>rfl
 |tup=>exact h.qh λ_ _ _ _ _ _ _ _=>rfl
 |lst=>exact h.xn λ_ _ _ _ _ _ _ _=>rfl
 |ck=>exact h.Ac λ_ _ _ _ _ _ _ _=>rfl
 |tX=>exact h.Ks λ_ _ _ _ _ _=>rfl
 |a5=>exact h.A3 λ_ _=>rfl
 |fn=>exact h.X1 rfl
 |cls=>exact h.Ik rfl
 |bi b=>exact h.Rn (by cases b<;>rfl)
 |bD=>exact h.pH λ_ _ _ _=>rfl
 |inst=>exact h.uT λ_ _ _ _=>rfl
theorem Il {P:nR->Value->Value->Bool->Prop} {o:nR} {x y:AV} {b:Bool} {u v:Value} (h:uq o x y=some b) (hx:VR S W x u) (hy:VR S W y v) (is:P .is u .none (u==.none)) (isn:P .isn u .none (!(u==.none)))
  (int :∀o f i j t t',(o,f)∈[(nR.lt,λ(i j:Int)=>decide (i<j)),(.gt,λ(i j:Int)=>decide (j<i)),(.ge,λ(i j:Int)=>decide (j<=i)),(.le,λ(i j:Int)=>decide (i<=j)),(.ne,λ(i j:Int)=>!(i==j)),(.eq,λ(i j:Int)=>i==j)]->P o (.int i t) (.int j t') (f i j))
  (ne :∀(a b:List Nat) t t',P .ne (.str ⟨a.toArray⟩ t) (.str ⟨b.toArray⟩ t') (!bQ a b)) (le :∀(a b:List Nat) t t',P .le (.str ⟨a.toArray⟩ t) (.str ⟨b.toArray⟩ t') (Ha a b))
  (eq1:P .eq .none .none true) (eq2 :∀b t,P .eq .none (.str ⟨b⟩ t) false) (eq3 :∀a t,P .eq (.str ⟨a⟩ t) .none false) (eq4 :∀(a b:List Nat) t t',P .eq (.str ⟨a.toArray⟩ t) (.str ⟨b.toArray⟩ t') (bQ a b)) (eq5 :∀a b,P .eq (.bool a) (.bool b) (a==b))
  (isin :∀a items n d sl vs,W.P a=some ⟨.type "tuple",d,.seq items n,sl⟩->cq S W vs items.toList->o3 x vs=some b->P .isin u (.ref a) b) (isin2 :∀c (s:List Nat) t t',P .isin (.str ⟨[c].toArray⟩ t) (.str ⟨s.toArray⟩ t') (s.any (Nat.beq c))):P o u v b:=by
 cases o with
 |nin=>exact nn h
 |is=>exact ar h λ_ h e=>(hy.kA e).lU (aw h (hx.yX▸is))
 |isn=>exact ar h λ_ h e=>(hy.kA e).lU (aw h (hx.yX▸isn))
 |lt=>exact jd h hx hy (λi j t t' h=>aw h (int _ (λi j=>decide (i<j)) i j t t' (.head _))) nn
 |gt=>exact jd h hx hy (λi j t t' h=>aw h (int _ (λi j=>decide (j<i)) i j t t' (.tail _ (.head _)))) nn
 |ge=>exact jd h hx hy (λi j t t' h=>aw h (int _ (λi j=>decide (j<=i)) i j t t' (.tail _ (.tail _ (.head _))))) nn
 |le=>exact jd h hx hy (λi j t t' h=>aw h (int _ (λi j=>decide (i<=j)) i j t t' (.tail _ (.tail _ (.tail _ (.head _)))))) λh=>F7 h hx hy (λa b t t' h=>aw h (le a b t t')) nn
 |ne=>exact jd h hx hy (λi j t t' h=>aw h (int _ (λi j=>!(i==j)) i j t t' (.tail _ (.tail _ (.tail _ (.tail _ (.head _))))))) λh=>F7 h hx hy (λa b t t' h=>aw h (ne a b t t')) nn
 |eq=>exact E8 h hx hy eq1 eq2 eq3 eq4 λh=>jd h hx hy (λi j t t' h=>aw h (int _ (λi j=>i==j) i j t t' (.tail _ (.tail _ (.tail _ (.tail _ (.tail _ (.head _)))))))) λh=>ar h λa h e=>ar h λb h e'=>(hx.zW e).qS ((hy.zW e').qS (aw h (eq5 a b)))
 |isin=>exact b7 h (λvs h e=>(hy.nI e).qh λa items n d sl e _ r=>isin a items n d sl vs e r h) λh=>ar h λl h e=>ar h λl' h e'=>ar h λc h e2=>(hy.gU e).gO λt _=>(jt e2▸hx.gU e').gO λt' _=>aw h (isin2 c l t' t)
theorem Im {o:nR} {x y:AV} {b:Bool} {u v:Value} {Q:Value->Shared->Prop} (h:uq o x y=some b) (hx:VR S W x u) (hy:VR S W y v) (hP :∀a o,W.P a=some o->s.heap.get? a=some o)
  (hq:Q (.bool b) s):wpAny (MD S) A (compareOp (kU o) u v) Q E s:=by
 revert hq
 refine Il (P:=λo u v b=>Q (.bool b) s->wpAny (MD S) A (compareOp (kU o) u v) Q E s) h hx hy (λq=>is_none q) (λq=>isNot_none q) (λo f i j t t' m q=>?_) (λa b _ _ q=>ne_str ?_) (λa b _ _ q=>P.le_str ?_) (RcAt.none_none _ _ _ _) (λ_ _=>RcAt.none_str _ _ _ _ _ _) (λ_ _=>RcAt.str_none _ _ _ _ _ _) (λa b _ _ q=>eq_str ?_)
  (λ_ _=>RcAt.bool_bool _ _ _ _ _ _) (λa items n d sl vs e r h q=>?_) λc s t t' q=>in_str ?_
 ·simp only [List.mem_cons,List.not_mem_nil,or_false,Prod.mk.injEq]at m
  rcases m with⟨rfl,rfl⟩|⟨rfl,rfl⟩|⟨rfl,rfl⟩|⟨rfl,rfl⟩|⟨rfl,rfl⟩|⟨rfl,rfl⟩
  ·exact P.lt_int q
  ·exact P.gt_int q
  ·exact P.ge_int q
  ·exact P.le_int q
  ·exact P.ne_int q
  ·exact P.eq_int q
 ·rw [bne,tP];exact q
 ·rw [Ob]at q
  simpa using q
 ·rw [tP];exact q
 ·have p:=DG (A:=A.in1) (s:=s) hx h r
  exact in_tupleAt (λu=>RZ u _) ⟨_,hP _ _ e,rfl,n,rfl⟩ (λw hw=>p.1 w (Array.mem_toList_iff.mpr hw)) (Array.any_toList▸p.2.symm▸q)
 ·rw [StrLaws.found_one,<-any_beq];exact q
theorem Oc (l:List Nat):(((l.length:Nat):Int) != 0)=!l.isEmpty:=by cases l<;>rfl
theorem uY {α β:Type} {l:List α} {m:List β} (h:l.length=m.length):m.isEmpty=l.isEmpty:=by
 cases l<;>cases m<;>first|rfl|cases h
theorem tj {α β:Type} {items:Array α} {l:List β} (h:items.size=l.length):items.isEmpty=l.isEmpty:=by
 rw [Array.isEmpty,h];cases l<;>simp
theorem b6.sW (I:b6 S W F H s.heap) (hb :∃o,S.hB sysModules=some o) {n:Nat} {a:Addr} (e:W.ρ[n]?=some a):(a==sysModules)=false:=by
 obtain⟨o,hb⟩:=hb
 have h:=I.base _ _ hb
 refine Bool.eq_false_iff.mpr λz=>?_
 have:a=sysModules:=by simpa using z
 rw [this]at e
 rw [I.ρp _ (List.mem_of_getElem? e)]at h;cases h
@[elab_as_elim] theorem VR.tupI {P:Value->Prop} {vs:List AV} {v:Value} (h:VR S W (.tup vs) v) (I:b6 S W F H s.heap) (k :∀a items,s.heap.IsTuple a items->items.size=vs.length->vs.length<=ew->cq S W vs items.toList->P (.ref a)):P v:=
 h.qh λa items n _ _ e z r=>k a items ⟨_,I.p _ _ e,rfl,n,rfl⟩ r.size z r
@[elab_as_elim] theorem VR.Of {P:Value->Prop} {vs:List AV} {v:Value} (h:VR S W (.lst vs) v) (I:b6 S W F H s.heap) (k :∀a items,s.heap.IsList a items->items.size=vs.length->vs.length<=ew->cq S W vs items.toList->P (.ref a)):P v:=
 h.xn λa items n _ _ e z r=>k a items ⟨_,I.p _ _ e,rfl,n,rfl⟩ r.size z r
@[elab_as_elim] theorem VR.A4 {P:Value->Prop} {n:Nat} {vs:List AV} {v:Value} (h:VR S W (.a5 n) v) (I:b6 S W F H s.heap) (e:fb H n=some vs) (k :∀a items m,W.ρ[n]?=some a->s.heap.get? a=some {cls:=.type "list",data:=.seq items m}->items.size=vs.length->vs.length<=ew->cq S W vs items.toList->P (.ref a)):P v:=
 h.A3 λa e'=>Exists.elim (I.hs n a _ e' (pA e)) λo x=>(OR.listE (P:=λo=>s.heap.get? a=some o->P (.ref a)) x.2 λitems m z r g=>k a items m e' g r.size z r) x.1
@[elab_as_elim] theorem VR.JC {P:Value->Prop} {n:Nat} {aR:List (Nm×AV)} {v:Value} (h:VR S W (.a5 n) v) (I:b6 S W F H s.heap) (e:gQ H n=some aR) (k :∀a o ps,W.ρ[n]?=some a->s.heap.get? a=some o->jR S o ps->aR.length<=ew->fK S W aR ps->P (.ref a)):P v:=
 h.A3 λa e'=>Exists.elim (I.hs n a _ e' (uD e)) λo x=>x.2.yH rfl λps d z r=>k a o ps e' x.1 d z r
@[elab_as_elim] theorem VR.Kt {P:Value->Prop} {x:AV} {vs:List AV} {v:Value} (h:VR S W x v) (I:b6 S W F H s.heap) (e:Bq H x=some vs) (k :∀a items,s.heap.IsList a items->items.size=vs.length->vs.length<=ew->cq S W vs items.toList->P (.ref a)):P v:=
 b7 e (λvs' e e'=>(h.x8 (e'.trans e)).Of I k) λe=>ar e λn e e'=>(h.eZ e').A4 I e λa items m _ g=>k a items ⟨_,g,rfl,m,rfl⟩
theorem qJ:typeLookup (.type "method") "__bool__" = pure none:=by rw [typeLookup_type,builtinLookup_eq_fast];kernel_rfl
theorem sU:typeLookup (.type "method") "__len__" = pure none:=by rw [typeLookup_type,builtinLookup_eq_fast];kernel_rfl
theorem qO {a:Addr} {f v:Value} {Q:Bool->Shared->Prop} (e:s.heap.get? a=some (methodObj f v)) (hq:Q true s):wpAny (MD S) A (truthy (.ref a)) Q E s:=by
 have hT:s.TypeIs (.ref a) "method":=⟨_,e,rfl⟩
 unfold truthy
 refine wpAny_bind (wpAny_callSpecial?_none (name:=Str.ofString "__bool__") hT qJ ?_)
 refine wpAny_bind (wpAny_specialOf (name:=Str.ofString "__len__") hT sU ?_)
 exact wpAny_pure hq
theorem qg {a:Addr} {items:Array Value} {vs:List AV} {Q:Bool->Shared->Prop} (g:s.heap.IsList a items) (e:items.size=vs.length) (z:vs.length<=ew) (hq :∀t,Q (!vs.isEmpty) {s with toks:=t}):wpAny (MD S) A (truthy (.ref a)) Q E s:=
 wpAny_truthy_list g (e▸js z) (tj e▸hq _)
theorem BE {x:AV} {b:Bool} {u:Value} {Q:Bool->Shared->Prop} (h:bW H x=some b) (hx:VR S W x u) (I:b6 S W F H s.heap) (hb :∃o,S.hB sysModules=some o)
  (hq :∀t,Q b {s with toks:=t}):wpAny (MD S) A (truthy u) Q E s:=by
 cases x with
 |none=>exact hx.lU (truthy_none (aw h.symm (hq _)))
 |bool _=>exact hx.qS (wpAny_truthy_bool (aw h.symm (hq _)))
 |int i=>exact hx.kY λt=>P.truthy_int ((Option.some.inj h:(i != 0)=b)▸hq s.toks)
 |str l=>exact hx.gO λt z=>P.truthy_str (Int.not_le.mpr (js z)) (((Oc l).trans (Option.some.inj h):(((l.length:Nat):Int) != 0)=b)▸hq (s.toks+1+1))
 |lst vs=>exact hx.Of I λa items g e z _=>qg g e z λt=>aw h.symm (hq t)
 |a5 i=>exact b7 h (λvs h e=>hx.A4 I e λa items m _ g e z _=>qg ⟨_,g,rfl,m,rfl⟩ e z λt=>aw h.symm (hq t)) λh=>ar h λaR h e=>hx.JC I e λa o ps e' g d z r=>wpAny_truthy_dict (I.sW hb e') (d.at g) (r.length▸js z) (uY r.length▸aw h.symm (hq _))
 |bD _ _=>exact hx.pH λa w e r=>qO (I.p _ _ e) (aw h.symm (hq _))
 |_=>exact nn h
end
end
section
open PySem.Builtin.Str PySem.StrLaws
theorem z7 (i:Int) (n:Nat):dh i n<=n:=Int.ofNat_le.mp (clipAt_cast n i▸Int.max_le.mpr ⟨Int.natCast_nonneg n,Int.min_le_right ..⟩)
noncomputable def jT (d n:Nat):Option Int->Nat
 |none=>d
 |some i=>dh i n
theorem rT {d n:Nat} (h:d<=n) (o:Option Int):jT d n o<=n:=by
 cases o
 ·exact h
 ·exact z7 _ _
theorem yo {α:Type} (l:List α) (a b:Nat):eM l a b=(l.drop a).take (b-a):=by
 unfold eM;rw [List.drop_take]
theorem qR (d n:Nat) (l:Option Int):(match l with|none=>(d:Int)|some i=>max 0 (min (if i<0 then i+(n:Int)else i) n))=(jT d n l:Int):=by
 cases l with
 |none=>rfl
 |some i=>exact(clipAt_cast n i).symm
theorem ky (l u:Option Int) (n:Nat):strSliceIndices l u 1 n=sliceRange (jT 0 n l) (jT n n u) 1:=by
 rw [<-qR,<-qR]
 cases l<;>cases u<;>rfl
theorem Bt (l u:Option Int) (n:Nat):strSliceIndices l u 1 n=strSliceIndices (some (jT 0 n l:Int)) (some (jT n n u:Int)) 1 n:=by
 have z :∀{d:Nat} (k:Nat),k<=n->jT d n (some (k:Int))=k:=λk h=>(clipAt_nat n k).trans (Nat.min_eq_left h)
 rw [ky,ky,z _ (rT (Nat.zero_le _) l),z _ (rT (Nat.le_refl _) u)]
theorem zF {x:Str} {l u l' u':Option Int} (e:strSliceIndices l u 1 x.length=strSliceIndices l' u' 1 x.length):sliceText x l u=sliceText x l' u':=by
 unfold sliceText;rw [e]
theorem Bs (s:List Nat) (l u:Option Int):Txt.slice ⟨s.toArray⟩ l u=⟨(eM s (jT 0 s.length l) (jT s.length s.length u)).toArray⟩:=by
 show sliceText ⟨s.toArray⟩ l u=_
 rw [zF (x:=⟨s.toArray⟩) (Bt l u s.length),yo]
 have hb:=rT (Nat.le_refl s.length) u
 generalize jT 0 s.length l=a
 generalize jT s.length s.length u=b at hb ⊢
 rcases Nat.le_total a b with h|h
 ·exact sliceText_nat ⟨s.toArray⟩ h hb
 ·have e:strSliceIndices (some (a:Int)) (some (b:Int)) 1 s.length=strSliceIndices (some (b:Int)) (some (b:Int)) 1 s.length:=by
   rw [ky,ky]
   have m :∀{x:Nat} {d:Nat},jT d s.length (some (x:Int))=min x s.length:=clipAt_nat _ _
   rw [m,m,m,sliceRange_one,sliceRange_one]
   rw [Nat.sub_self,Nat.sub_eq_zero_of_le (Nat.le_min.mpr ⟨Nat.le_trans (Nat.min_le_left ..) h,Nat.min_le_right ..⟩)];rfl
  rw [zF (x:=⟨s.toArray⟩) e,sliceText_nat ⟨s.toArray⟩ (Nat.le_refl b) hb,Nat.sub_self,Nat.sub_eq_zero_of_le h,List.take_zero,List.take_zero]
theorem Ff (items:Array Value) (l u:Option Int):slicePick items l u none=(eM items.toList (jT 0 items.size l) (jT items.size items.size u)).toArray:=by
 rw [slicePick_plain,yo]
 cases l<;>cases u<;>rfl
end
section
open PySem.Builtin.Str PySem.StrLaws
theorem sy {P:Prop} {i:Int} {n j:Nat} (h:idx i n=some j) (k:j<n->0<=i->j=i.toNat->P) (k':j<n->i<0->0<=i+n->j=(i+n).toNat->P):P:=
 bR h (λh c=>gF h λc' e=>k (e▸of_decide_eq_true c') (of_decide_eq_true c) e.symm) λh c=>gF h λc' e=>have c:=Int.not_le.mp (of_decide_eq_false c)
  have c':=of_decide_eq_true c'
  k' (by lia) c c' e.symm
theorem xb {i:Int} {n j:Nat} (h:idx i n=some j):j<n:=sy h (λa _ _=>a) λa _ _ _=>a
theorem yT {i:Int} {n j:Nat} (h:idx i n=some j):seqIndex? i n=some j:=by
 refine sy h (λa b e=>?_) λa b c e=>?_
 ·have b' :¬i<0:=Int.not_lt.mpr b
  have q:i<n:=(Int.toNat_lt b).mp (e▸a)
  unfold seqIndex?
  simp only [b',if_false,b,q,decide_true,Bool.and_self,if_true,e]
 ·have q:i+n<n:=by lia
  unfold seqIndex?
  simp only [b,if_true,c,q,decide_true,Bool.and_self,e]
theorem oZ {n j:Nat} {i:Int} (z:n<=ew) (h:idx i n=some j):-(2 ^ 63)<=i/\i<2 ^ 63:=by
 have z:=js z
 refine sy h (λa b e=>?_) λa b c e=>?_
 ·have q:i<n:=(Int.toNat_lt b).mp (e▸a)
  lia
 ·lia
theorem pJ {k:Nm} {s:List Nat}:bQ (EY k) s=true↔bY k=⟨s.toArray⟩:=by
 rw [fC]
 exact⟨λh=>congrArg (λl:List Nat=>(⟨l.toArray⟩:Str)) (eq_of_beq h),λh=>beq_iff_eq.mpr (by have:=congrArg (λx:Str=>x.cps.toList) h;exact this)⟩
section
variable {S:aY} {W W':Wd} {F:Addr->Option Obj} {H:List AO} {fm:Fm} {σ:St} {s:Shared} {A:Around} {E:Value->Shared->Prop}
theorem GN {k:Str} {v:Value} {ps:List (Str×Value)}:valueAt ((k,v)::ps) k=some v:=by simp [valueAt]
theorem GP {k k':Str} {v:Value} {ps:List (Str×Value)} (h:k≠k'):valueAt ((k,v)::ps) k'=valueAt ps k':=by simp [valueAt,List.find?_cons,h]
theorem fK.Oe {aR:List (Nm×AV)} {ps:List (Str×Value)} (h:fK S W aR ps) {s:List Nat} {r:AV} (e:Oe aR s=some r) :∃v,valueAt ps ⟨s.toArray⟩=some v/\VR S W r v:=by
 induction aR generalizing ps with
 |nil=>exact nn e
 |cons p q ih=>
  exact h.cQ λv vs x y=>bR e (λe c=>aw (P:=λr=>∃v,valueAt _ _=some v/\VR S W r v) e ⟨v,pJ.mp c▸GN,x⟩) λe c=>Exists.elim (ih y e) λu z=>⟨u,(GP λw=>Bool.false_ne_true (c.symm.trans (pJ.mpr w))).trans z.1,z.2⟩
theorem fK.lkO {aR:List (Nm×AV)} {ps:List (Str×Value)} (h:fK S W aR ps) (k:Nm):match Mine.lk aR k with
  |some r=>∃v,valueAt ps (bY k)=some v/\VR S W r v
  |none=>valueAt ps (bY k)=none:=by
 induction aR generalizing ps with
 |nil=>exact h.jP rfl
 |cons p q ih=>
  refine h.cQ λv vs x y=>?_
  rw [dT]
  by_cases c:p.1=k
  ·rw [if_pos c];exact⟨v,c▸GN,x⟩
  ·rw [if_neg c,GP λw=>c (jB w)];exact ih y
theorem fK.lk {aR:List (Nm×AV)} {ps:List (Str×Value)} (h:fK S W aR ps) {k:Nm} {r:AV} (e:lk aR k=some r) :∃v,valueAt ps (bY k)=some v/\VR S W r v:=by
 have:=h.lkO k
 rwa [e]at this
theorem fK.sN {aR:List (Nm×AV)} {ps:List (Str×Value)} (h:fK S W aR ps) {k:Nm} (e:Mine.lk aR k=none):valueAt ps (bY k)=none:=by
 have:=h.lkO k
 rwa [e]at this
theorem tc:1<=ew:=by decide
inductive QP (S:aY) (W:Wd) (s:Shared) (r:AV):Value->Value->Prop
 |str (l:List Nat) (i:Int) (t t':Tok) (j:Nat):l.length<=ew->idx i l.length=some j->r=.str [l.getD j 0]->QP S W s r (.str ⟨l.toArray⟩ t) (.int i t')
 |tup (a:Addr) (items:Array Value) (i:Int) (t:Tok) (j n:Nat) (v:Value):s.heap.IsTuple a items->items.size=n->n<=ew->idx i n=some j->items[j]?=some v->VR S W r v->QP S W s r (.ref a) (.int i t)
 |lst (a:Addr) (items:Array Value) (i:Int) (t:Tok) (j n:Nat) (v:Value):s.heap.IsList a items->items.size=n->n<=ew->idx i n=some j->items[j]?=some v->VR S W r v->QP S W s r (.ref a) (.int i t)
 |ck (a:Addr) (ps:List (Str×Value)) (l:List Nat) (t:Tok) (v:Value):s.heap.DictOf (PySem.strKind S.prog S.w) a ps->valueAt ps ⟨l.toArray⟩=some v->VR S W r v->QP S W s r (.ref a) (.str ⟨l.toArray⟩ t)
theorem cq.Sd {vs:List AV} {items:Array Value} (h:cq S W vs items.toList) {j:Nat} (hi:j<vs.length) {P:Prop} (k :∀v,items[j]?=some v->VR S W (vs.getD j .none) v->P):P:=
 Exists.elim (h.get hi) λv x=>k v (Array.getElem?_toList.symm.trans x.1) x.2
theorem Sm {x k r:AV} {o i:Value} (h:nM H x k=some r) (hx:VR S W x o) (hk:VR S W k i) (I:b6 S W F H s.heap):QP S W s r o i:=
 b7 h (λi' h e=>(hk.jQ e).kY λt=>b7 h (λl h e=>(hx.gU e).gO λt' z=>ig h λj q e=>.str l i' t' t j z e q.symm) λh=>b7 h (λvs h e=>(hx.nI e).tupI I λa items g e z rs=>ig h λj q e'=>rs.Sd (xb e') λv w x=>.tup a items i' t j _ v g e z e' w (q▸x)) λh=>ar h λvs h e=>hx.Kt I e λa items g e z rs=>ig h λj q e'=>rs.Sd (xb e') λv w x=>.lst a items i' t j _ v g e z e' w (q▸x)) λh=>ar h λl h e=>(hk.gU e).gO λt _=>b7 h (λes h e=>(hx.BK e).Ac λa o ps e d _ _ rs=>Exists.elim (rs.Oe h) λv q=>.ck a ps l t v (d.at (I.p _ _ e)) q.1 q.2) λh=>ar h λn h e=>ar h λes h e'=>(hx.eZ e).JC I e' λa o ps _ g d _ rs=>Exists.elim (rs.Oe h) λv q=>.ck a ps l t v (d.at g) q.1 q.2
theorem D5 {x k r:AV} {o i:Value} {Q:Value->Shared->Prop} (h:nM H x k=some r) (hx:VR S W x o) (hk:VR S W k i) (I:b6 S W F H s.heap)
  (hq :∀v t,VR S W r v->Q v {s with toks:=t}) :
  ∃T id,s.TypeIs o T/\typeLookup (.type T) "__getitem__" = pure (some (.builtin id))/\wpAny (MD S) A (getItem o i) Q E s:=by
 have R:=Sm h hx hk I
 clear h hx hk
 cases R with
 |str l i t t' j z e q=>
  have f:=oZ z e
  refine⟨"str",_,typeIs_str _ _ _,PySem.F.slot_str_getitem.lookup,P.getItem_str (c:=l.getD j 0) ?_ ?_ (hq _ _ (q▸.str [_] _ tc))⟩
  ·rw [decide_eq_false (Int.not_lt.mpr f.1),decide_eq_false (Int.not_le.mpr f.2)];rfl
  ·rw [qa,yT e]
   have a:=xb e
   simp [a]
 |tup a items i t j n v g e z e' w x=>
  have f:=oZ z e'
  have g:IsTup s.heap a items:=g
  exact⟨_,_,g.typeIs,slot_tuple_getitem.lookup,getItem_tuple g f.1 f.2 (e▸yT e') w (hq v s.toks x)⟩
 |lst a items i t j n v g e z e' w x=>
  have f:=oZ z e'
  refine⟨_,_,g.typeIs,slot_list_getitem.lookup,sy e' (λ_ b c=>?_) λ_ b c d=>?_⟩
  ·exact wpAny_getItem_list g b f.2 (c▸w) (hq v s.toks x)
  ·exact wpAny_getItem_list_neg g b (e▸by lia) f.1 (e▸d▸w) (hq v s.toks x)
 |ck a ps l t v g e x=>exact⟨_,_,g.typeIs,slot_dict_getitem.lookup,wpAny_getItem_of (strKind_is _ _ _ _) g.mapOf e (hq v _ x)⟩
end
end
section
open PySem.Builtin.Str PySem.StrLaws
section
variable {S:aY} {W W':Wd} {F:Addr->Option Obj} {H:List AO} {fm:Fm} {σ:St} {s:Shared} {A:Around} {E:Value->Shared->Prop}
theorem cq.cut {vs:List AV} {us:List Value} (h:cq S W vs us) (a b:Nat):cq S W (eM vs a b) (eM us a b):=(h.take b).drop a
theorem ux {α:Type} (l:List α) (a b:Nat):(eM l a b).length<=l.length:=by
 rw [eM,List.length_drop]
 exact Nat.le_trans (Nat.sub_le ..) (List.length_take_le' ..)
@[elab_as_elim] theorem Cy {P:Value->Prop} {d n:Nat} {x:AV} {v:Value} {j:Nat} (h:Yx d n x=some j) (hx:VR S W x v) (k :∀o:Option (Int×Tok),IsPart (partValue o) (o.map (·.1))->jT d n (o.map (·.1))=j->P (partValue o)):P v:=
 b7 h (λ_ h e=>(hx.kA e).lU (k none .none (Option.some.inj h))) λh=>ar h λi h e=>(hx.jQ e).kY λt=>k (some (i,t)) (.int i t) (Option.some.inj h)
theorem yg {P:Value->Value->AV->Prop} {n:Nat} {lo hi r:AV} {l u:Value} {f:Nat->Nat->AV} (h:M6 n lo hi f=some r) (hl:VR S W lo l) (hu:VR S W hi u)
  (k :∀(ol ou:Option (Int×Tok)),IsPart (partValue ol) (ol.map (·.1))->IsPart (partValue ou) (ou.map (·.1))->P (partValue ol) (partValue ou) (f (jT 0 n (ol.map (·.1))) (jT n n (ou.map (·.1))))):P l u r:=
 ar h λa h e=>ar h λb h e'=>Cy (P:=λl=>P l u r) e hl λol pl ea=>Cy (P:=λu=>P (partValue ol) u r) e' hu λou pu eb=>aw h (ea▸eb▸k ol ou pl pu)
theorem PW {x lo hi r:AV} {o l u:Value} (h:vx σ.H x lo hi=some r) (hx:VR S W x o) (hl:VR S W lo l) (hu:VR S W hi u) (I:Inv S W F fm σ s.heap) :
  ∃T id,(∀h' g d t os,Shared.TypeIs ⟨s.heap.push h',g,d,t,os⟩ o T)/\typeLookup (.type T) "__getitem__" = pure (some (.builtin id))/\
   wpAny (MD S) A (getItem o (.ref s.heap.objs.size)) (bX S W F fm σ s (VP S r)) E {s with heap:=s.heap.push {cls:=.type "slice",data:=.fields #[l,u,.none]}}:=by
 refine b7 h (λstr h e=>(hx.gU e).gO λt z=>⟨"str",_,λh' g d t os=>typeIs_str _ _ _,PySem.F.slot_str_getitem.lookup,?_⟩) λh=>ar h λvs h e=>hx.Kt I.tob6 e λa items il hs z rs=>⟨_,_,λh' g d t os=>Heap.IsList.typeIs (s:=⟨s.heap.push h',g,d,t,os⟩) (il.push _),slot_list_getitem.lookup,?_⟩
 ·refine yg (P:=λl u r=>wpAny (MD S) A (getItem (.str ⟨str.toArray⟩ t) (.ref s.heap.objs.size)) (bX S W F fm σ s (VP S r)) E {s with heap:=s.heap.push {cls:=.type "slice",data:=.fields #[l,u,.none]}}) h hl hu λol ou pl pu=>?_
  refine wpAny_getItem_str_slice (l:=ol) (u:=ou) (st:=none) ⟨_,Heap.get?_push_size _ rfl,rfl,rfl⟩ rfl (post_val_or_str ⟨Nat.le_trans (Txt.slice_le _ _ _) (dg z),λt' k'=>⟨W,.refl W,?_,I.push _,rfl,rfl⟩⟩)
  show VR S W _ (.str (Txt.slice _ (ol.map (·.1)) (ou.map (·.1))) t')
  rw [Bs]
  exact .str _ _ (Nat.le_trans (ux ..) z)
 ·refine yg (P:=λl u r=>wpAny (MD S) A (getItem (.ref a) (.ref s.heap.objs.size)) (bX S W F fm σ s (VP S r)) E {s with heap:=s.heap.push {cls:=.type "slice",data:=.fields #[l,u,.none]}}) h hl hu λol ou pl pu=>?_
  refine wpAny_getItem_list_slice (il.push _) (Heap.IsSliceOf.new ..) pl pu .none (by decide) ?_ (hs▸dg z)
  exact bX.new (I.push _) rfl λW' L e=>.lst e (Nat.le_trans (ux ..) z) (by rw [Ff,hs];exact(rs.mono L).cut _ _)
end
end
section
open PySem.Builtin PySem.Builtin.Str PySem.StrLaws
section
theorem subAt_one (s:List Nat) (c i:Nat):subAt ⟨s.toArray⟩ ⟨#[c]⟩ i=decide (s[i]?=some c):=by
 unfold subAt
 show((s.toArray.extract i (i+1))==#[c])=_
 by_cases h:i<s.length
 ·have e:s.toArray.extract i (i+1)=#[s[i]]:=by
   apply Array.ext'
   simp only [List.extract_toArray]
   rw [List.extract_eq_take_drop,List.drop_eq_getElem_cons h,Nat.add_sub_cancel_left]
   rfl
  rw [e,List.getElem?_eq_getElem h]
  by_cases q:s[i]=c<;>simp [q]
 ·have e:s.toArray.extract i (i+1)=#[]:=by
   apply Array.ext'
   simp;lia
  rw [e]
  have:s[i]?=none:=by simp;lia
  rw [this];simp
theorem sZ (s:List Nat) (c hi lim:Nat) :∀(m a:Nat) (f:Array Nat) (free:Nat),free<=a->f.size+m<=lim->
  (forIn (List.range' a m) (f,free) (occBody ⟨s.toArray⟩ ⟨#[c]⟩ hi lim)).run.fst.size=f.size+(List.range' a m).countP (λi=>decide (i+1<=hi)&&decide (s[i]?=some c))
 |0,a,f,free,_,_=>by simp
 |m+1,a,f,free,h1,h2=>by
  rw [List.range'_succ,List.forIn_cons,List.countP_cons]
  unfold occBody
  by_cases q:a+1<=hi/\s[a]?=some c
  ·have q2:((f.size<lim/\free<=a)/\a+(⟨#[c]⟩:Str).length<=hi)/\subAt ⟨s.toArray⟩ ⟨#[c]⟩ a=true:=⟨⟨⟨by lia,h1⟩,q.1⟩,by rw [subAt_one];exact decide_eq_true q.2⟩
   simp only [q2]
   have:=sZ s c hi lim m (a+1) (f.push a) (a+1) (Nat.le_refl _) (by simp;lia)
   unfold occBody at this
   simp only [q.1,q.2,decide_true,Bool.and_self,if_true]
   refine Eq.trans this ?_
   simp;lia
  ·have q2 :¬(((f.size<lim/\free<=a)/\a+(⟨#[c]⟩:Str).length<=hi)/\subAt ⟨s.toArray⟩ ⟨#[c]⟩ a=true):=λz=>q ⟨z.1.2,by have:=z.2;rw [subAt_one]at this;exact of_decide_eq_true this⟩
   have q3:(decide (a+1<=hi)&&decide (s[a]?=some c))=false:=by
    rw [Bool.eq_false_iff];intro z
    exact q (by simpa using z)
   simp only [q2,if_false,q3]
   have:=sZ s c hi lim m (a+1) f free (by lia) (by lia)
   unfold occBody at this
   exact this
theorem rW (s:List Nat) (c:Nat) (n:Nat) (h:n<=s.length):(List.range n).countP (λi=>decide (s[i]?=some c))=(s.take n).count c:=by
 induction n with
 |zero=>simp
 |succ n ih=>
  have ih:=ih (by lia)
  have hn:n<s.length:=by lia
  rw [List.range_succ,List.countP_append,ih,List.take_add_one,List.count_append]
  rw [List.countP_cons,List.countP_nil,List.getElem?_eq_getElem hn,Option.toList_some,List.count_cons,List.count_nil]
  by_cases e:s[n]=c<;>simp [e]
theorem Bc (s:List Nat) (c hi lim:Nat) (h:hi<=s.length) (hl:hi+1<=lim):(occurrences ⟨s.toArray⟩ ⟨#[c]⟩ 0 hi lim).length=(s.take hi).count c:=by
 rw [occ_eq,Array.length_toList,sZ s c hi lim _ _ _ _ (Nat.le_refl _) (by simp;omega)]
 show 0+_=_
 rw [Nat.zero_add,<-rW s c hi h,Nat.sub_zero,<-List.range_eq_range',List.range_succ,List.countP_append]
 have e1:(List.range hi).countP (λi=>decide (i+1<=hi)&&decide (s[i]?=some c))=(List.range hi).countP (λi=>decide (s[i]?=some c)):=by
  apply List.countP_congr
  intro i hi'
  have:=List.mem_range.mp hi'
  have:i+1<=hi:=by lia
  simp [this]
 rw [e1];simp;lia
noncomputable def lastBody (s sub:Str) (hi:Nat) (i:Nat) (l:Option Nat):Id (ForInStep (Option Nat)):=
 if i+sub.length<=hi/\subAt s sub i=true then pure (ForInStep.yield (some i))else pure (ForInStep.yield l)
theorem last_eq (s sub:Str) (lo hi:Nat):lastOccurrence s sub lo hi=(forIn (List.range' lo (hi+1-lo)) none (lastBody s sub hi)).run:=by
 unfold lastOccurrence lastBody
 simp
noncomputable def y9:Option Nat->Int
 |some i=>i
 |none=>-1
theorem mV (s:List Nat) (c hi:Nat) :∀(l:List Nat) (st:Option Nat),y9 (forIn l st (lastBody ⟨s.toArray⟩ ⟨#[c]⟩ hi)).run=l.foldl (λ(z:Int) (i:Nat)=>if i+1<=hi/\s[i]?=some c then(i:Int)else z) (y9 st)
 |[],st=>rfl
 |a::l,st=>by
  rw [List.forIn_cons,List.foldl_cons]
  unfold lastBody
  rw [subAt_one]
  by_cases q:a+1<=hi/\s[a]?=some c
  ·have q2:a+(⟨#[c]⟩:Str).length<=hi/\decide (s[a]?=some c)=true:=⟨q.1,by simp [q.2]⟩
   rw [if_pos q2,if_pos q]
   exact mV s c hi l (some a)
  ·have q2 :¬(a+(⟨#[c]⟩:Str).length<=hi/\decide (s[a]?=some c)=true):=λz=>q ⟨z.1,by simpa using z.2⟩
   rw [if_neg q2,if_neg q]
   exact mV s c hi l st
theorem lH {α β:Type} {f g:β->α->β} :∀{l:List α} {b:β},(∀a∈l,∀b,f b a=g b a)->l.foldl f b=l.foldl g b
 |[],_,_=>rfl
 |a::l,b,h=>by
  rw [List.foldl_cons,List.foldl_cons,h a (.head _)]
  exact lH λx hx=>h x (.tail _ hx)
theorem JD (s:List Nat) (c hi:Nat) (h:hi<=s.length):y9 (lastOccurrence ⟨s.toArray⟩ ⟨#[c]⟩ 0 hi)=dN c (s.take hi):=by
 rw [last_eq,mV,Nat.sub_zero,<-List.range_eq_range',List.range_succ,List.foldl_append]
 have hn :¬(hi+1<=hi/\s[hi]?=some c):=by lia
 show(if hi+1<=hi/\s[hi]?=some c then(hi:Int)else _)=_
 rw [if_neg hn]
 unfold dN
 have hl:(s.take hi).length=hi:=by simp;lia
 rw [hl]
 apply lH
 intro i hi' b
 have:=List.mem_range.mp hi'
 have h1:i+1<=hi:=by lia
 have h2:(s.take hi)[i]?=s[i]?:=by rw [List.getElem?_take];simp [this]
 simp [h1,h2]
end
end
section
open PySem.Builtin PySem.Builtin.Str PySem.StrLaws
section
variable {S:aY} {W W':Wd} {F:Addr->Option Obj} {H:List AO} {fm:Fm} {σ:St} {s:Shared} {A:Around} {E:Value->Shared->Prop}
theorem Jc {vs:List AV} {l:List Int} (h:ri vs=some l) {us:List Value} (r:cq S W vs us) :∃xs:List (Int×Tok),us=xs.map (λp=>.int p.1 p.2)/\xs.map (·.1)=l:=by
 induction vs generalizing l us with
 |nil=>exact r.jP ⟨[],rfl,Option.some.inj h⟩
 |cons v q ih=>exact r.cQ λu us r1 r2=>ar h λi h e=>ig h λl' q e'=>(r1.jQ e).kY λt=>Exists.elim (ih e' r2) λxs z=>⟨(i,t)::xs,congrArg _ z.1,(congrArg _ z.2).trans q⟩
@[elab_as_elim] theorem cq.jN {P:List Value->Prop} {as:List AV} {vs:List Value} {x:AV} (h:cq S W as vs) (e:jN as=some x) (k :∀v,VR S W x v->P [v]):P vs:=(jt e▸h:cq S W [x] vs).one k
@[elab_as_elim] theorem cq.zV {P:List Value->Prop} {as:List AV} {vs:List Value} {x:AV×AV} (h:cq S W as vs) (e:zV as=some x) (k :∀v u,VR S W x.1 v->VR S W x.2 u->P [v,u]):P vs:=(Ck e▸h:cq S W [x.1,x.2] vs).two k
@[elab_as_elim] theorem cq.K5 {P:List Value->Prop} {as:List AV} {vs:List Value} {x:AV×AV×AV} (h:cq S W as vs) (e:K5 as=some x) (k :∀v u w,VR S W x.1 v->VR S W x.2.1 u->VR S W x.2.2 w->P [v,u,w]):P vs:=(MU e▸h:cq S W [x.1,x.2.1,x.2.2] vs).three k
theorem M0 {P:Bi->List Value->AV×List Nat->Prop} {b:Bi} {as:List AV} {vs:List Value} {p:AV×List Nat} (h:BL H b as=some p) (rs:cq S W as vs) (I:b6 S W F H s.heap)
  (lenS :∀(l:List Nat) t,l.length<=ew->P .len [.str ⟨l.toArray⟩ t] (.int l.length,[])) (lenL :∀a items n,s.heap.IsList a items->items.size=n->n<=ew->P .len [.ref a] (.int n,[]))
  (lenT :∀a items n,s.heap.IsTuple a items->items.size=n->n<=ew->P .len [.ref a] (.int n,[])) (ord :∀c t,P .ord [.str ⟨[c].toArray⟩ t] (.int c,[]))
  (chr :∀i t,0<=i->i<55296->P .chr [.int i t] (.str [i.toNat],[])) (sum :∀a items (xs:List (Int×Tok)),s.heap.IsList a items->items.toList=xs.map (λp=>.int p.1 p.2)->P .sum [.ref a] (.int (xs.map (·.1)).sum,[]))
  (range :∀i t,0<=i->P .range [.int i t] (.tX i.toNat,[i.toNat])) (max :∀i j t t',P .max [.int i t,.int j t'] (.int (max i j),[])) (min :∀i j t t',P .min [.int i t,.int j t'] (.int (min i j),[]))
  (inst :∀b,P .mQ [.bool b,K9 .bool] (.bool true,[])):P b vs p:=by
 cases b with
 |bool=>exact nn h
 |len=>exact ar h λx h e=>rs.jN e λv r1=>b7 h (λl h e=>(r1.gU e).gO λt z=>aw h (lenS l t z)) λh=>b7 h (λl h e=>r1.Kt I e λa items g e z _=>aw h (lenL a items _ g e z)) λh=>ar h λl h e=>(r1.nI e).tupI I λa items g e z _=>aw h (lenT a items _ g e z)
 |ord=>exact ar h λx h e=>rs.jN e λv r1=>ar h λl h e=>ar h λc h e'=>(jt e'▸r1.gU e:VR S W (.str [c]) v).gO λt _=>aw h (ord c t)
 |chr=>exact ar h λx h e=>rs.jN e λv r1=>ar h λi h e=>(r1.jQ e).kY λt=>gF h λc q=>q▸chr i t (of_decide_eq_true (bf c).1) (of_decide_eq_true (bf c).2)
 |sum=>exact ar h λx h e=>rs.jN e λv r1=>ar h λl h e=>ig h λl' q e'=>(r1.x8 e).Of I λa items g _ _ r=>Exists.elim (Jc e' r) λxs z=>q▸z.2▸sum a items xs g z.1
 |range=>exact ar h λx h e=>rs.jN e λv r1=>ar h λi h e=>(r1.jQ e).kY λt=>gF h λc q=>q▸range i t (of_decide_eq_true c)
 |max=>exact ar h λx h e=>rs.zV e λv u r1 r2=>jd (P:=λv u=>P .max [v,u] p) h r1 r2 (λi j t t' h=>aw h (max i j t t')) nn
 |min=>exact ar h λx h e=>rs.zV e λv u r1 r2=>jd (P:=λv u=>P .min [v,u] p) h r1 r2 (λi j t t' h=>aw h (min i j t t')) nn
 |mQ=>exact ar h λx h e=>rs.zV e λv u r1 r2=>ar h λb h e=>ar h λ_ h e'=>(r1.zW e).qS ((r2.mw e').Rn (aw h (inst b)))
theorem M1 {b:Bi} {as:List AV} {vs:List Value} {p:AV×List Nat} (h:BL σ.H b as=some p) (rs:cq S W as vs) (I:Inv S W F fm σ s.heap) (hh:A.handled=none)
  (hz :∀n∈p.2,n<=ew):wpAny (MD S) A (call (K9 b) vs) (bX S W F fm σ s (VP S p.1)) E s:=by
 revert hz
 refine M0 (P:=λb vs p=>(∀n∈p.2,n<=ew)->wpAny (MD S) A (call (K9 b) vs) (bX S W F fm σ s (VP S p.1)) E s) h rs I.tob6 (λl t z _=>P.len_str (Int.not_le.mpr (js z)) (bX.tok I (.int _ _))) (λa items n g e z _=>call_len_list g (e▸js z) (bX.tok I (e▸.int _ _)))
  (λa items n g e z _=>PyProof.Rows.len_tuple g (e▸js z) (bX.tok I (e▸.int _ _))) (λc t _=>P.ord_of_char (bX.tok I (.int _ _))) (λi t h0 h1 _=>P.chr_of_int (by simp;lia) (bX.tok I (.str [_] _ tc))) (λa items xs g e _=>?_)
  (λi t h0 hz=>?_) (λi j t t' _=>max_two_ints hh λh' tk k=>bX.heap I k ?_) (λi j t t' _=>min_two_ints hh λh' tk k=>bX.heap I k ?_) λb _=>IsiPair.bool_bool (bX.tok (t:=s.toks) I (.bool _))
 ·have e3:items=intItems xs.toArray:=by apply Array.ext';rw [e];simp [intItems]
  subst e3
  refine sum_intListG hh (xs:=xs.toArray) g (λh' tk t' k=>bX.heap I k ?_)
  rw [preSum_eq]
  have:(xs.toArray.toList.map (·.1)).take xs.toArray.size=xs.map (·.1):=List.take_of_length_le (Nat.le_of_eq (List.length_map ..))
  rw [this];exact .int _ _
 ·obtain⟨k,rfl⟩:=Int.eq_ofNat_of_zero_le h0
  exact PySem.call_range_1 (bX.new I rfl λW' _ e=>.tX e (hz _ (.head _)))
 ·split<;>rename_i hc
  ·rw [show max _ _=_ from Int.max_eq_right (Int.le_of_lt hc)];exact .int _ _
  ·rw [show max _ _=_ from Int.max_eq_left (Int.not_lt.mp hc)];exact .int _ _
 ·split<;>rename_i hc
  ·rw [show min _ _=_ from Int.min_eq_right (Int.le_of_lt hc)];exact .int _ _
  ·rw [show min _ _=_ from Int.min_eq_left (Int.not_lt.mp hc)];exact .int _ _
end
end
section
open PySem.Builtin PySem.Builtin.Str PySem.StrLaws
section
variable {S:aY} {W W':Wd} {F:Addr->Option Obj} {H:List AO} {fm:Fm} {σ:St} {s:Shared} {A:Around} {E:Value->Shared->Prop}
noncomputable def pZ:SO->String|.lower=>"str.lower" | .join=>"str.join" | .count=>"str.count" | .rfind=>"str.rfind" | .replace=>"str.replace"
theorem KC {o:SO} {x:Str} {t:Tok} {pl:Sem Bool} {Q:Value×List Value->Shared->Prop} (q:Q (.builtin (pZ o),[.str x t]) s) :
  wpAny (MD S) A (getMethod (.str x t) (bY o.nm) pl) Q E s:=by
 cases o with
 |lower=>have q:Q (.builtin "str.lower",[.str x t]) s:=q;rw [show bY SO.lower.nm=Str.ofString "lower" by kernel_rfl];with_reducible exact GM.lower q
 |join=>have q:Q (.builtin "str.join",[.str x t]) s:=q;rw [show bY SO.join.nm=Str.ofString "join" by kernel_rfl];with_reducible exact GM.join q
 |count=>have q:Q (.builtin "str.count",[.str x t]) s:=q;rw [show bY SO.count.nm=Str.ofString "count" by kernel_rfl];with_reducible exact GM.count q
 |rfind=>have q:Q (.builtin "str.rfind",[.str x t]) s:=q;rw [show bY SO.rfind.nm=Str.ofString "rfind" by kernel_rfl];with_reducible exact GM.rfind q
 |replace=>have q:Q (.builtin "str.replace",[.str x t]) s:=q;rw [show bY SO.replace.nm=Str.ofString "replace" by kernel_rfl];with_reducible exact GM.replace q
theorem vk (b n:Nat):(max 0 (if(b:Int)<0 then(b:Int)+n else b)).toNat=b:=by
 rw [if_neg (Int.not_lt.mpr (Int.natCast_nonneg b)),Int.max_eq_right (Int.natCast_nonneg b),Int.toNat_natCast]
theorem sv (x y:Str) (b:Nat) (hb:b<=x.length) (t u v w:Tok):Gives («str.count» ⟨[.str x t,.str y u,.int 0 v,.int b w],[]⟩) (.int (occurrences x y 0 b (x.length+1)).length):=by
 have e1:=vk b x.length
 show Gives (retInt (occurrences x y 0 (min (max 0 (if(b:Int)<0 then(b:Int)+x.length else b)).toNat x.length) (x.length+1)).length) _
 rw [e1,Nat.min_eq_left hb]
 exact .of_eq rfl
theorem sx (x y:Str) (b:Nat) (hb:b<=x.length) (t u v w:Tok):Gives («str.rfind» ⟨[.str x t,.str y u,.int 0 v,.int b w],[]⟩) (.int (y9 (lastOccurrence x y 0 b))):=by
 have e1:=vk b x.length
 show Gives (match lastOccurrence x y 0 (min (max 0 (if(b:Int)<0 then(b:Int)+x.length else b)).toNat x.length)with
  |some i=>retInt i
  |none=>(do rule "str.rfind.not-found";retInt (-1))) _
 rw [e1,Nat.min_eq_left hb]
 cases lastOccurrence x y 0 b with
 |none=>exact .rule (.of_eq rfl)
 |some k=>exact .of_eq rfl
theorem GA {vs:List AV} {l:List (List Nat)} (h:jm vs=some l) {us:List Value} (r:cq S W vs us) :∃xs:List (Str×Tok),us=strValues xs/\xs.map (·.1)=l.map (λa=>⟨a.toArray⟩):=by
 induction vs generalizing l us with
 |nil=>exact r.jP ⟨[],rfl,congrArg (List.map _) (Option.some.inj h)⟩
 |cons v q ih=>exact r.cQ λu us r1 r2=>ar h λi h e=>ig h λl' q e'=>(r1.gU e).gO λt _=>Exists.elim (ih e' r2) λxs z=>⟨(⟨i.toArray⟩,t)::xs,congrArg _ z.1,(congrArg _ z.2).trans (q▸rfl)⟩
theorem Am (l:List (List Nat)) (a:List Nat):(l.map λa=>(⟨a.toArray⟩:Str)).foldl (λacc p=>acc++#[]++p.cps) a.toArray=(a++l.flatten).toArray:=by
 induction l generalizing a with
 |nil=>simp
 |cons b r ih=>
  rw [List.map_cons,List.foldl_cons]
  have:a.toArray++#[]++b.toArray=(a++b).toArray:=by simp
  show List.foldl _ (a.toArray++#[]++b.toArray) _=_
  rw [this,ih];simp
theorem xf (l:List (List Nat)):Txt.join (⟨#[]⟩:Str) (l.map λa=>⟨a.toArray⟩)=⟨l.flatten.toArray⟩:=by
 cases l with
 |nil=>rfl
 |cons a r=>
  show(⟨(r.map λa=>(⟨a.toArray⟩:Str)).foldl (λacc p=>acc++#[]++p.cps) a.toArray⟩:Str)=_
  rw [Am];simp
theorem Br (l:List (List Nat)) (n:Nat):(l.map λa=>(⟨a.toArray⟩:Str)).foldl (λk p=>k+p.length+(⟨#[]⟩:Str).length) n=n+l.flatten.length:=by
 induction l generalizing n with
 |nil=>simp
 |cons b r ih=>
  rw [List.map_cons,List.foldl_cons,ih,qa]
  show n+b.length+0+_=_
  simp;lia
theorem AR (l:List (List Nat)):(l.map λa=>(⟨a.toArray⟩:Str)).toArray.foldl (·+·.length+(⟨#[]⟩:Str).length) 0=l.flatten.length:=by
 rw [List.foldl_toArray,Br,Nat.zero_add]
@[elab_as_elim] theorem zJ {P:Value->Value->Value->AV×List Nat->Prop} {str:List Nat} {p:AV×AV×AV} {f:Nat->Nat->AV} {r:AV×List Nat} {v1 v2 v3:Value} (h:upTo str p f=some r) (r1:VR S W p.1 v1) (r2:VR S W p.2.1 v2) (r3:VR S W p.2.2 v3)
  (k :∀(c k:Nat) (t1 t2 t3:Tok),k<=str.length->P (.str ⟨[c].toArray⟩ t1) (.int 0 t2) (.int (k:Int) t3) (f c k,[])):P v1 v2 v3 r:=
 ar h λl h e=>ar h λc h e1=>ar h λa h e2=>ar h λb h e3=>(jt e1▸r1.gU e:VR S W (.str [c]) v1).gO λt1 _=>(r2.jQ e2).kY λt2=>(r3.jQ e3).kY λt3=>gF h λz q=>by
  obtain rfl:=of_decide_eq_true (bf z).1
  obtain⟨m,rfl⟩:=Int.eq_ofNat_of_zero_le (of_decide_eq_true (bf (bf z).2).1)
  exact q▸k c m t1 t2 t3 (Int.ofNat_le.mp (of_decide_eq_true (bf (bf z).2).2))
theorem Gj {P:SO->List Value->AV×List Nat->Prop} {o:SO} {str:List Nat} {as:List AV} {vs:List Value} {p:AV×List Nat} (h:LM H o str as=some p) (rs:cq S W as vs) (I:b6 S W F H s.heap)
  (lower:P .lower [] (.str (aX str),[(aX str).length])) (join :∀a (ys:List (Str×Tok)) (l:List (List Nat)),str=[]->s.heap.IsList a (strValues ys).toArray->ys.map (·.1)=l.map (λa=>⟨a.toArray⟩)->P .join [.ref a] (.str l.flatten,[l.flatten.length]))
  (count :∀(c k:Nat) t1 t2 t3,k<=str.length->P .count [.str ⟨[c].toArray⟩ t1,.int 0 t2,.int (k:Int) t3] (.int ((str.take k).count c),[])) (rfind :∀(c k:Nat) t1 t2 t3,k<=str.length->P .rfind [.str ⟨[c].toArray⟩ t1,.int 0 t2,.int (k:Int) t3] (.int (dN c (str.take k)),[]))
  (replace :∀c (cs y:List Nat) t1 t2,str.any (Nat.beq c)=false->P .replace [.str ⟨(c::cs).toArray⟩ t1,.str ⟨y.toArray⟩ t2] (.str str,[str.length])):P o vs p:=by
 cases o with
 |lower=>exact gF h λe q=>q▸cq.jP (List.isEmpty_iff.mp e▸rs:cq S W [] vs) lower
 |join=>
  exact ar h λx h e=>rs.jN e λv r1=>ar h λxs h e=>r1.Kt I e λa items g _ _ r=>bR h (λh e=>ig h λl q e'=>Exists.elim (GA e' r) λys z=>q▸join a ys l (List.isEmpty_iff.mp e) (by
   have:items=(strValues ys).toArray:=by apply Array.ext';rw [z.1]
   exact this▸g) z.2) λh _=>nn h
 |count=>exact ar h λp h e=>rs.K5 e λv1 v2 v3 r1 r2 r3=>zJ (P:=λv1 v2 v3 p=>P .count [v1,v2,v3] p) h r1 r2 r3 count
 |rfind=>exact ar h λp h e=>rs.K5 e λv1 v2 v3 r1 r2 r3=>zJ (P:=λv1 v2 v3 p=>P .rfind [v1,v2,v3] p) h r1 r2 r3 rfind
 |replace=>
  exact ar h λp h e=>rs.zV e λv1 v2 r1 r2=>ar h λl h e=>ar h λy h e'=>ar h λc h e2=>gF h λz q=>(r1.gU e).gO λt1 _=>(r2.gU e').gO λt2 _=>by
   obtain⟨cs,rfl⟩:=List.head?_eq_some_iff.mp e2
   exact q▸replace c cs y t1 t2 (Bool.not_eq_true' _▸z)
theorem Pk (s:List Nat) (c:Nat) (cs:List Nat) (h:s.any (Nat.beq c)=false) (lim:Nat):occurrences ⟨s.toArray⟩ ⟨(c::cs).toArray⟩ 0 s.length lim=[]:=by
 refine PySem.W.occ_nil_of_no (x:=⟨s.toArray⟩) (y:=⟨(c::cs).toArray⟩) lim (λi hi=>?_)
 rw [StrLaws.subAt_eq]
 refine Bool.eq_false_iff.mpr λe=>?_
 have e2:(s.drop i).take (c::cs).length=c::cs:=eq_of_beq e
 rw [any_beq]at h
 exact of_decide_eq_false h (List.mem_of_mem_drop (List.mem_of_mem_take (e2.symm▸List.Mem.head cs:c∈(s.drop i).take (c::cs).length)))
theorem Gi {m:Nm} {str:List Nat} {as:List AV} {vs:List Value} {p:AV×List Nat} {o:SO} {t:Tok} (h:jJ σ.H m str as=some p) (hi:jK m=some o) (z:str.length<=ew) (rs:cq S W as vs)
  (I:Inv S W F fm σ s.heap) (hz :∀n∈p.2,n<=ew):wpAny (MD S) A (call (.builtin (pZ o)) (.str ⟨str.toArray⟩ t::vs)) (bX S W F fm σ s (VP S p.1)) E s:=by
 revert hz
 refine ar h λo' h e=>?_
 obtain rfl:=Option.some.inj (hi.symm.trans e)
 refine Gj (P:=λo vs p=>(∀n∈p.2,n<=ew)->wpAny (MD S) A (call (.builtin (pZ o)) (.str ⟨str.toArray⟩ t::vs)) (bX S W F fm σ s (VP S p.1)) E s) h rs I.tob6 (λhz=>?_) (λa ys l e g e2 hz=>?_) (λc k t1 t2 t3 hk _=>?_) (λc k t1 t2 t3 hk _=>?_) λc cs y t1 t2 hc _=>?_
 ·have q:Txt.lower ⟨str.toArray⟩=⟨(aX str).toArray⟩:=by simp [aX]
  refine SC.lower (decide_eq_false (Nat.not_lt.mpr (q▸dg (hz _ (.head _))))) (bX.tok I (q▸.str _ _ (hz _ (.head _))))
 ·subst e
  have hz:=hz _ (.head _)
  refine SC.join g e2 ?_ (λt' k=>bX.tok I (xf l▸.str _ _ hz))
  unfold JoinOk
  rw [AR];exact(congrArg (! ·) (decide_eq_false (Nat.not_lt.mpr (dg hz))):(!tooLong l.flatten.length)=true)
 ·refine PySem.call_gives PySem.F.slot_str_count (typeIs_str _ _ _) PySem.F.entry_str_count (PySem.F.args_str_count_4 _ _ _ _) (sv ⟨str.toArray⟩ _ k hk _ _ _ _) (bX.tok I ?_)
  rw [qa,Bc _ _ _ _ hk (Nat.succ_le_succ hk)]
  exact .int _ _
 ·refine PySem.call_gives PySem.F.slot_str_rfind (typeIs_str _ _ _) PySem.F.entry_str_rfind (PySem.F.args_str_rfind_4 _ _ _ _) (sx ⟨str.toArray⟩ _ k hk _ _ _ _) (bX.tok I ?_)
  rw [JD _ _ _ hk]
  exact .int _ _
 ·have ho:=λcs=>Pk str _ cs hc (str.length+1)
  refine PySem.call_gives PySem.F.slot_str_replace (typeIs_str _ _ _) PySem.F.entry_str_replace (PySem.F.args_str_replace_3 _ _ _) (PySem.gives_str_replace _ _ _ t t1 t2 (λhf=>by rw [qa,ho]at hf;cases hf)) ?_
  rw [qa,ho]
  exact bX.tok (t:=s.toks) I (.str _ _ z)
end
end
section
open PySem.Builtin PySem.Builtin.Str PySem.StrLaws
section
variable {S:aY} {W W':Wd} {F:Addr->Option Obj} {H:List AO} {fm:Fm} {σ:St} {s:Shared} {A:Around} {E:Value->Shared->Prop}
noncomputable def sO:LO->String|.append=>"list.append" | .pop=>"list.pop"
theorem JI {o:LO} {a:Addr} {items:Array Value} {n:Nat} {pl:Sem Bool} {Q:Value×List Value->Shared->Prop} (g:s.heap.get? a=some {cls:=.type "list",data:=.seq items n}) (q:Q (.builtin (sO o),[.ref a]) s) :
  wpAny (MD S) A (getMethod (.ref a) (bY o.nm) pl) Q E s:=by
 cases o with
 |append=>
  rw [show bY LO.append.nm=Str.ofString "append" by kernel_rfl]
  exact getMethod_list_append g rfl rfl q
 |pop=>
  rw [show bY LO.pop.nm=Str.ofString "pop" by kernel_rfl]
  exact getMethod_builtin ⟨_,g,rfl⟩ PySem.F.plainAttrs_list PySem.F.slot_list_pop PySem.F.type_list_pop (λa e=>by cases e;exact⟨_,g,rfl⟩) q
theorem JH {m:Nm} {o:LO} {n k:Nat} {a:Addr} {items:Array Value} {xs as:List AV} {vs:List Value} {p:AV×List AV×List Nat} (h:JG m xs as=some p) (hi:lR m=some o)
  (e:W.ρ[n]?=some a) (g:s.heap.get? a=some {cls:=.type "list",data:=.seq items k}) (hs:items.size=xs.length) (z:xs.length<=ew) (rl:cq S W xs items.toList) (rs:cq S W as vs) (ok:gC S fm)
  (I:Inv S W F fm σ s.heap) (hz :∀n∈p.2.2,n<=ew):wpAny (MD S) A (call (.builtin (sO o)) (.ref a::vs)) (bX S W F fm {σ with H:=σ.H.set n (.list p.2.1)} s (VP S p.1)) E s:=by
 revert hz
 refine ar h λo' h e0=>?_
 obtain rfl:=Option.some.inj (hi.symm.trans e0)
 cases o with
 |append=>exact ar h λx h e1=>rs.jN e1 λv r1=>aw h λhz=>append_at g (λh' sb g'=>⟨W,.refl W,.none,I.set e sb g' (.list (List.length_append▸hz _ (.head _)) ((Array.toList_push:(items.push v).toList=_)▸rl.append (.cons r1 .nil))) ok,rfl,rfl⟩) (hs▸dg z)
 |pop=>
  refine ar h λx h e1=>ar h λi h e2=>rs.jN e1 λv r1=>(r1.jQ e2).kY λt=>gF h λc q=>q▸λ_=>?_
  obtain rfl:=of_decide_eq_true (bf c).1
  cases xs with
  |nil=>exact absurd (bf c).2 Bool.false_ne_true
  |cons v0 vs0=>
  obtain⟨l⟩:=items
  refine cq.cQ (P:=λl=>s.heap.get? a=some {cls:=.type "list",data:=.seq l.toArray k}->l.toArray.size=_->_) rl (λy q r1 r2 g hs=>?_) g hs
  refine PySem.call_meets PySem.F.slot_list_pop ⟨_,g,rfl⟩ PySem.F.entry_list_pop (PySem.F.args_list_pop_2 _ _) (PySem.MeetsSeq.list_pop_at a _ k _ t 0 y (by decide) (by simp [seqIndex?]) rfl (hs▸dg z)) ⟨g,W,.refl W,r1,?_,rfl,rfl⟩
  have u:=PySem.IsL.update (g:IsL s.heap a (y::q).toArray k) (λxs=>xs.eraseIdxIfInBounds 0)
  have e2:(y::q).toArray.eraseIdxIfInBounds 0=q.toArray:=by simpa using kl_erase [] q y
  rw [e2]at u
  exact I.set e (Heap.SameBut.update ..) u (.list (Nat.le_of_succ_le z) r2) ok
end
end
structure qP (S:aY) (G:cy) (c:Cl):Prop where
 ga:findIn S.K (.ref (S.ca c)) "__getattribute__" = some (some (.builtin "object.__getattribute__"))
 gt:findIn S.K (.ref (S.ca c)) "__getattr__" = some none
 sa:findIn S.K (.ref (S.ca c)) "__setattr__" = some (some (.builtin "object.__setattr__"))
 cd :∃cd,clsIn S.K (S.ca c)=some cd/\cd.hasDict=true
 po:plainOver S.K (S.ca c)=true
 mak:makesIn S.K (S.ca c)=true
 ini:findIn S.K (.ref (S.ca c)) "__init__" = some (some (.ref (S.fa (G.init c))))
 bD :∀a f,G.bD c a=some f->findIn S.K (.ref (S.ca c)) (bY a)=some (some (.ref (S.fa f)))/\typeIn S.K (.ref (S.fa f))=some (.type "function")
 cat :∀a v,G.cP c a=some v->∃i t,v=.int i/\findIn S.K (.ref (S.ca c)) (bY a)=some (some (.int i t))
 E6 :∀a,G.bD c a=none->G.cP c a=none->findIn S.K (.ref (S.ca c)) (bY a)=some none
theorem pK (a:Nm):copiedNames.contains (bY a)=false:=by simpa using OG (p:=λa=>!copiedNames.contains (bY a)) (by decide +kernel) a
section
variable {S:aY} {G:cy} {W W':Wd} {F:Addr->Option Obj} {H:List AO} {fm:Fm} {σ:St} {s:Shared} {A:Around} {E:Value->Shared->Prop}
theorem b6.K {h:Heap} (I:b6 S W F H h):S.K.In h:=λa o e=>I.p a o (I.base a o e)
theorem jR.lookIn {o:Obj} {ps:List (Str×Value)} (d:jR S o ps) (x:Str):PySem.W.lookIn x o=some (valueAt ps x):=by
 obtain⟨_,es,ep,e,k,p,_⟩:=d
 unfold PySem.W.lookIn
 rw [e]
 have hf:(es.toList.find? λe=>(PySem.strKind S.prog S.w).is x e.key).map (·.val)=valueAt ps x:=p.find x
 have he:(λe:DictEntry=>(PySem.strKind S.prog S.w).is x e.key)=λe=>e.key.isStr x:=by
  funext e
  show Value.isStrOf x e.key=e.key.isStr x
  cases e.key<;>rfl
 rw [he]at hf
 dsimp only
 cases hq:es.toList.find? (·.key.isStr x)with
 |some e'=>rw [hq]at hf;rw [<-hf];rfl
 |none=>
  rw [hq]at hf
  rw [<-hf]
  have:es.toList.any (·.refKey)=false:=by
   rw [List.any_eq_false]
   intro e' he'
   obtain⟨k',hk',_⟩:=k e' (Array.mem_toList_iff.mp he')
   obtain⟨t,ht⟩:=Value.isStrOf_shape hk'
   simp [DictEntry.refKey,ht]
  rw [this];rfl
theorem VR.handed {a:AV} {v:Value} (h:VR S W a v):handedIn v=true:=by
 cases a with
 |none=>exact h.lU rfl
 |bool=>exact h.qS rfl
 |int=>exact h.kY λ_=>rfl
 |str=>exact h.gO λ_ _=>rfl
 |tup=>exact h.qh λ_ _ _ _ _ _ _ _=>rfl
 |lst=>exact h.xn λ_ _ _ _ _ _ _ _=>rfl
 |ck=>exact h.Ac λ_ _ _ _ _ _ _ _=>rfl
 |tX=>exact h.Ks λ_ _ _ _ _ _=>rfl
 |a5=>exact h.A3 λ_ _=>rfl
 |fn=>exact h.X1 rfl
 |cls=>exact h.Ik rfl
 |bi b=>exact h.Rn (by cases b<;>decide +kernel)
 |bD=>exact h.pH λ_ _ _ _=>rfl
 |inst=>exact h.uT λ_ _ _ _=>rfl
theorem wR {f:Addr} (h:typeIn S.K (.ref f)=some (.type "function")):specialIn S.K (.ref f) "__get__" = some (some (.builtin "function.__get__"))/\takesIn S.K (.ref f)=some false:=by
 have e1:fastLookup "function" "__get__" = some (some (.builtin "function.__get__")):=by decide +kernel
 have e2:fastLookup "function" "__set__" = some none:=by decide +kernel
 have e3:fastLookup "function" "__delete__" = some none:=by decide +kernel
 constructor
 ·unfold specialIn;rw [h];exact e1
 ·have a:specialIn S.K (.ref f) "__set__" = some none:=by unfold specialIn;rw [h];exact e2
  have b:specialIn S.K (.ref f) "__delete__" = some none:=by unfold specialIn;rw [h];exact e3
  unfold takesIn;rw [a,b];rfl
theorem uU {i:Int} {t:Tok}:specialIn S.K (.int i t) "__get__" = some none:=by
 have e1:fastLookup "int" "__get__" = some none:=by decide +kernel
 unfold specialIn
 show(pureOf (typeOf (.int i t))).bind _=_
 exact e1
@[elab_as_elim] theorem VR.yW {P:Value->Prop} {c:Cl} {n:Nat} {v:Value} {aR:List (Nm×AV)} (h:VR S W (.inst c n) v) (I:b6 S W F H s.heap) (e:iO H n=some aR)
  (k :∀x d od ps,W.ρ[n]?=some d->s.heap.get? d=some od->jR S od ps->fK S W aR ps->aR.length<=ew->InstAt s.heap x (instObj (S.ca c) d) (S.ca c) (some od)->VR S W (.inst c n) (.ref x)->P (.ref x)):P v:=
 h.uT λx d q r=>ar e λao hf e=>Exists.elim (I.hs _ _ _ r e) λo g=>g.2.yH hf λps dd z rs=>k x d o ps r g.1 dd rs z ⟨I.p _ _ q,rfl,rfl,g.1⟩ (.inst q r)
section
variable {c:Cl} {od:Obj} {ps:List (Str×Value)} {name:Str} {v:Value}
theorem xw (cd:ClassData) (hd:cd.hasDict=true) (d:jR S od ps):PySem.W.ownOf cd (some od) name=some (valueAt ps name):=by
 unfold PySem.W.ownOf
 rw [hd,if_pos rfl]
 exact d.lookIn name
theorem IV {a g:Value} (C:qP S G c) (d:jR S od ps) (h1:findIn S.K (.ref (S.ca c)) name=some (some a)) (h2:specialIn S.K a "__get__" = some (some g)) (h3:takesIn S.K a=some false) (hc:copiedNames.contains name=false) (hv:valueAt ps name=none):findObj S.K (S.ca c) (some od) name=some (.bind g a):=by
 obtain⟨cd,hcd,hd⟩:=C.cd
 unfold findObj
 rw [hcd,h1]
 show(specialIn S.K a "__get__").bind _=_
 rw [h2]
 show(takesIn S.K a).bind _=_
 rw [h3]
 show(PySem.W.ownOf cd (some od) name).bind _=_
 rw [xw cd hd d,hv]
 show(if(_&&_)=true then _ else _)=_
 rw [hc];rfl
theorem NM {a:Value} (C:qP S G c) (d:jR S od ps) (h1:findIn S.K (.ref (S.ca c)) name=some (some a)) (h2:specialIn S.K a "__get__" = some none) (h3:handedIn a=true) (hc:copiedNames.contains name=false) (hv:valueAt ps name=none):findObj S.K (S.ca c) (some od) name=some (.value a):=by
 obtain⟨cd,hcd,hd⟩:=C.cd
 unfold findObj
 rw [hcd,h1]
 show(specialIn S.K a "__get__").bind _=_
 rw [h2]
 show(PySem.W.ownOf cd (some od) name).bind _=_
 rw [xw cd hd d,hv]
 show(if(_&&_)=true then _ else(if _=true then _ else _))=_
 rw [hc,h3];rfl
theorem NN (C:qP S G c) (d:jR S od ps) (h1:findIn S.K (.ref (S.ca c)) name=some none) (hv:valueAt ps name=some v):findObj S.K (S.ca c) (some od) name=some (.value v):=by
 obtain⟨cd,hcd,hd⟩:=C.cd
 unfold findObj
 rw [hcd,h1]
 show(PySem.W.ownOf cd (some od) name).bind _=_
 rw [xw cd hd d,hv];rfl
end
theorem wI {x:AV} {a:Nm} {r:AV} {o:Value} {ex:Bool} (h:rP G σ.H x a=some r) (hx:VR S W x o) (C :∀c,qP S G c) (I:Inv S W F fm σ s.heap) :
  wpAny (MD S) A (getAttr o (bY a) ex) (bX S W F fm σ s (VP S r)) E s:=
 ar h λq h e=>ar h λaR h e'=>(hx.qp e).yW I.tob6 e' λx d od ps r1 g dd rs z J hx=>MX (P:=λr=>wpAny (MD S) A (getAttr (.ref x) (bY a) ex) (bX S W F fm σ s (VP S r)) E s) h
  (λf hm hl=>have m:=(C q.1).bD a f hm
   have f:=wR m.2
   get_bind I.K J (C q.1).ga (IV (C q.1) dd m.1 f.1 f.2 (pK a) (rs.sN hl)) (C q.1).gt (wpAny_call (fn_get I.K m.2 (wpAny_pure (bX.new I rfl λW' L e=>.bD e (hx.mono L))))))
  (λv hm hl=>Exists.elim ((C q.1).cat a v hm) λi y=>Exists.elim y λt y=>y.1▸get_value I.K J (C q.1).ga (NM (C q.1) dd y.2 uU rfl (pK a) (rs.sN hl)) rfl (bX.tok I (.int _ _)))
  λv hm hc hl=>Exists.elim (rs.lk hl) λu y=>get_value I.K J (C q.1).ga (NN (C q.1) dd ((C q.1).E6 a hm hc) y.1) y.2.handed (bX.tok I y.2)
end
section
variable {S:aY} {G:cy} {W W':Wd} {F:Addr->Option Obj} {H:List AO} {fm:Fm} {σ:St} {s:Shared} {A:Around} {E:Value->Shared->Prop}
theorem u4 (x:Str):(λe:DictEntry=>(PySem.strKind S.prog S.w).is x e.key)=λe=>e.key.isStr x:=by
 funext e
 show Value.isStrOf x e.key=e.key.isStr x
 cases e.key<;>rfl
theorem jR.putName {o:Obj} {ps:List (Str×Value)} (d:jR S o ps) (name:Str) (t:Tok) (v:Value) :
  jR S (Obj.putName name (PyData.keyHash S.w.params name) (.str name t) v o) (stored ps name v):=by
 obtain⟨⟨c1,c2,c3⟩,es,ep,e,k,p,n⟩:=d
 obtain⟨oc,od,dt,sl⟩:=o
 dsimp only at c1 c2 c3 e
 subst c1 c2 c3 e
 have DD:(PySem.strKind S.prog S.w).is name (.str name t)=true:=by show(name==name)=true;exact beq_self_eq_true _
 have hidx:(es.findIdx? λe=>(PySem.strKind S.prog S.w).is name e.key)=ps.findIdx? λkv=>decide (kv.1=name):=by
  rw [<-p.findIdx name];obtain⟨l⟩:=es;simp
 rw [Obj.putName_eq]
 unfold Obj.putNameByArray
 dsimp only
 rw [<-u4 (S:=S)]
 cases hi:es.findIdx? λe=>(PySem.strKind S.prog S.w).is name e.key with
 |some i=>
  refine⟨⟨rfl,rfl,rfl⟩,_,ep,rfl,k.modify _ _,?_,?_⟩
  ·rw [stored,if_pos (any_of_findIdx_some (hidx▸hi))]
   have hl:(es.toList.findIdx? λe=>(PySem.strKind S.prog S.w).is name e.key)=some i:=by rw [<-hi];obtain⟨l⟩:=es;simp
   have:=p.modify n hl v
   obtain⟨l⟩:=es
   simpa using this
  ·rw [stored,if_pos (any_of_findIdx_some (hidx▸hi)),keys_map_store];exact n
 |none=>
  have hnot:name∉ps.map (·.1):=not_mem_of_findIdx_none (hidx▸hi)
  have hany :¬(ps.any λkv=>decide (kv.1=name))=true:=by
   rw [List.any_eq_true];rintro⟨kv,hkv,he⟩
   exact hnot (List.mem_map.mpr ⟨kv,hkv,of_decide_eq_true he⟩)
  refine⟨⟨rfl,rfl,rfl⟩,_,ep+1,rfl,k.push DD _,?_,?_⟩
  ·rw [stored,if_neg hany]
   have:=p.append DD (PyData.keyHash S.w.params name) v
   obtain⟨l⟩:=es
   simpa using this
  ·rw [stored,if_neg hany,List.map_append,List.nodup_append]
   refine⟨n,by simp,?_⟩
   intro a ha b hb
   simp only [List.map_cons,List.map_nil,List.mem_singleton]at hb
   subst hb
   exact λz=>hnot (z▸ha)
theorem fK.keys {aR:List (Nm×AV)} {ps:List (Str×Value)} (h:fK S W aR ps):ps.map (·.1)=aR.map (λp=>bY p.1):=by
 induction aR generalizing ps with
 |nil=>exact h.jP rfl
 |cons p q ih=>exact h.cQ λ_ _ _ r=>congrArg (bY p.1::·) (ih r)
theorem rB {k:Str} {u v:Value} {ps:List (Str×Value)} (n:k∉ps.map (·.1)):stored ((k,u)::ps) k v=(k,v)::ps:=by
 unfold stored
 rw [List.any_cons,decide_eq_true rfl,Bool.true_or,if_pos rfl,List.map_cons,if_pos rfl]
 exact congrArg _ ((List.map_congr_left (g:=id) λ(kv:Str×Value) m=>if_neg λz:kv.1=k=>n (z▸List.mem_map_of_mem m)).trans (List.map_id _))
theorem rC {p:Str×Value} {x:Str} {v:Value} {ps:List (Str×Value)} (e :¬p.1=x):stored (p::ps) x v=p::stored ps x v:=by
 unfold stored
 rw [List.any_cons,decide_eq_false e,Bool.false_or,List.map_cons,if_neg e]
 split<;>rfl
theorem fK.pt {aR:List (Nm×AV)} {ps:List (Str×Value)} (h:fK S W aR ps) (n:(ps.map (·.1)).Nodup) {k:Nm} {a:AV} {v:Value} (r:VR S W a v):fK S W (pt aR k a) (stored ps (bY k) v):=by
 induction aR generalizing ps with
 |nil=>exact h.jP (.cons r .nil)
 |cons p q ih=>
  revert n
  refine h.cQ λu us x y n=>?_
  have n:=List.nodup_cons.mp n
  rw [fD]
  by_cases e:p.1=k
  ·subst e
   rw [if_pos rfl,rB n.1]
   exact .cons r y
  ·rw [if_neg e,rC λz=>e (jB z)]
   exact .cons x (ih y n.2)
theorem fK.WJ {aR:List (Nm×AV)} {ps:List (Str×Value)} (h:fK S W aR ps) (n:(ps.map (·.1)).Nodup) {s:List Nat} {kvs':List (Nm×AV)} {a:AV} {v:Value} (e:WJ aR s a=some kvs') (r:VR S W a v) :
  fK S W kvs' (stored ps ⟨s.toArray⟩ v)/\kvs'.length=aR.length:=by
 induction aR generalizing ps kvs' with
 |nil=>exact nn e
 |cons p q ih=>
  revert n
  refine h.cQ λu us x y n=>?_
  have n:=List.nodup_cons.mp n
  refine bR e (λe c=>aw e ?_) λe c=>ig e λq' e e'=>e▸?_
  ·have c:=pJ.mp c
   rw [<-c,rB n.1]
   exact⟨.cons r y,rfl⟩
  ·rw [rC λz=>Bool.false_ne_true (c.symm.trans (pJ.mpr z))]
   have z:=ih y n.2 e'
   exact⟨.cons x z.1,congrArg (·+1) z.2⟩
theorem PB {α:Type} (V:List (Nm×α)) (x:Nm) (v:α):(pt V x v).length<=V.length+1:=by
 induction V with
 |nil=>exact Nat.le_refl _
 |cons p q ih=>
  rw [fD]
  split
  ·exact Nat.le_succ _
  ·exact Nat.succ_le_succ ih
theorem jR.nd {o:Obj} {ps:List (Str×Value)} (d:jR S o ps):(ps.map (·.1)).Nodup:=by
 obtain⟨_,_,_,_,_,_,n⟩:=d
 exact n
theorem jR.zk {o:Obj} {ps:List (Str×Value)} (d:jR S o ps) :∃es n,o.data=.dict es n/\es.any (·.refKey)=false/\es.size=ps.length:=by
 obtain⟨_,es,ep,e,k,p,_⟩:=d
 refine⟨es,ep,e,?_,p.length⟩
 rw [Array.any_eq_false']
 intro e' he'
 obtain⟨k',hk',_⟩:=k e' he'
 obtain⟨t,ht⟩:=Value.isStrOf_shape hk'
 simp [DictEntry.refKey,ht]
theorem Bb {d:Addr} {od:Obj} {ps:List (Str×Value)} {name:Str} {v:Value} {Q:Unit->Shared->Prop} (g:s.heap.get? d=some od) (dd:jR S od ps)
  (k :∀h' o',Heap.SameBut d s.heap h'->h'.get? d=some o'->jR S o' (stored ps name v)->Q () {s with heap:=h',toks:=s.toks+1}):wpAny (MD S) A (nsSet d name v) Q E s:=by
 obtain⟨es,ne,q1,q2,q3⟩:=dd.zk
 have dd':=dd.putName name s.toks v
 have g':(s.heap.update d (Obj.putName name (PyData.keyHash S.w.params name) (.str name s.toks) v)).get? d=_:=Heap.get?_update_self _ g dd'.oy
 unfold nsSet
 refine wpAny_bind (wpAny_bind (wpAny_askSetting (wpAny_pure (wpAny_bind (wpAny_mkText (wpAny_bind (wpAny_loadPart (s:={s with toks:=s.toks+1}) g ?_)))))))
 rw [q1]
 dsimp only
 have c:(!es.any (·.key.isStr name)&&es.any (·.refKey))=false:=by rw [q2,Bool.and_false]
 rw [aRefKeyMayBeTheName_at,c]
 exact wpAny_updatePart g (k _ _ (Heap.SameBut.update ..) g' dd')
theorem jR.fits {o:Obj} {ps:List (Str×Value)} (d:jR S o ps) (z:ps.length<=ew):o.data.pastItsLine=none:=by
 obtain⟨es,n,w1,_,w3⟩:=d.zk
 rw [w1]
 exact pastItsLine_dict (w3▸Nat.le_succ_of_le (dg z))
theorem vt {x:AV} {a:Nm} {av:AV} {o v:Value} {σ':St} (h:setAt G x a av σ=some σ') (hx:VR S W x o) (hv:VR S W av v) (C :∀c,qP S G c) (ok:gC S fm) (I:Inv S W F fm σ s.heap)
  (hz :∀k∈σ'.O,k<=ew):wpAny (MD S) A (setAttr o (bY a) v) (bX S W F fm σ' s (λ_ _=>True)) E s:=by
 revert hz
 refine ar h λq h e=>ar h λaR h e'=>bR h (λh c=>aw h λhz=>?_) λh _=>nn h
 have C:=C q.1
 have hm:=Option.isNone_iff_eq_none.mp (bf c).1
 have hca:=Option.isNone_iff_eq_none.mp (bf c).2
 have hz:=hz _ (.head _)
 refine(hx.qp e).yW I.tob6 (aA (uD e') rfl) λx d od ps r1 g dd rs z J _=>set_plain I.K J C.sa ?_
 obtain⟨cd,hcd,hdd⟩:=C.cd
 have ht:takerIn S.K (S.ca q.1) (bY a)=some none:=by unfold takerIn;rw [C.E6 a hm hca];rfl
 refine osa_open (s:={s with toks:=s.toks+1}) I.K J C.po ht λb=>?_
 obtain⟨hx1,hcl,hn,-⟩:=J
 refine wpAny_bind (wpAny_pure (wpAny_bind (wpAny_bind (wpAny_loadPart (s:={s with toks:=s.toks+1}) hx1 (wpAny_bind ((looks_clsIn (h:=({s with toks:=s.toks+1}:Shared).heap) I.K hcd).here ?_))))))
 rw [hdd]
 have rs':=rs.pt dd.nd hv (k:=a)
 have lz:(stored ps (bY a) v).length<=ew:=rs'.length▸Nat.le_trans (PB ..) hz
 refine wpAny_pure (a:=some d) (wpAny_bind (wpAny_pure (wpAny_bind (Bb (s:={s with toks:=s.toks+1}) g dd λh' o' sb g' dd'=>wpAny_bind (wpAny_lookBehind g' (dd'.fits lz) ?_)))))
 exact wpAny_pure ⟨W,.refl W,trivial,(I.set r1 sb g' (.dict rfl dd' (rs'.length.symm▸lz) rs') ok).zl,rfl,rfl⟩
end
theorem BC (C:Addr) (rest:List Value):(Code.builtin "type.__call__" ⟨.ref C::rest,[]⟩).weight=1:=by kernel_rfl
theorem Gy (C:Addr) (rest:List Value):(Code.builtin "type.__call__" ⟨.ref C::rest,[]⟩).cUnits=1:=by kernel_rfl
noncomputable def jG (Q:Value->Shared->Prop):Result->Shared->Prop:=λr s=>match r with
 |.ok (.ret v)=>Q v s
 |.ok _=>False
 |.error e=>no e s
noncomputable def fN (l:List Nat):Prop:=∀k∈l,k<=ew
theorem fN.l {a b:List Nat} (h:fN (a++b)):fN a:=λk m=>h k (List.mem_append_left _ m)
theorem fN.r {a b:List Nat} (h:fN (a++b)):fN b:=λk m=>h k (List.mem_append_right _ m)
theorem fN.hd {a:Nat} {b:List Nat} (h:fN (a::b)):a<=ew:=h _ (.head _)
theorem fN.tl {a:Nat} {b:List Nat} (h:fN (a::b)):fN b:=λk m=>h k (.tail _ m)
structure bq (S:aY) (G:cy) (n:Nat):Prop where
 cls :∀c,qP S G c
 call :∀f as H r H' os,G.call f as H=some (r,H',os)->∀(W:Wd) (F:Addr->Option Obj) (A:Around) (s:Shared) (vs:List Value),Ro n A->b6 S W F H s.heap->cq S W as vs->fN os->
  codeAny (MD S) A (.call (.ref (S.fa f)) ⟨vs,[]⟩) (jG (qn S W F H' s (VP S r))) s
 glob :∀x av,G.glob x=some av->∀(W:Wd) (F:Addr->Option Obj) (H:List AO) (h:Heap),b6 S W F H h->∃v,VR S W av v/\
  ((∃mg,h.Ns mainGlobals mg/\mg (bY x)=some v)\/(∃mg mb,h.Ns mainGlobals mg/\mg (bY x)=none/\h.Ns builtinsNs mb/\mb (bY x)=some v))
 kf :∀f,keepIn S.K (.ref (S.fa f))=true/\fnIn S.K (S.fa f)=true
 kc :∀c,keepIn S.K (.ref (S.ca c))=true
 ft :∀c,typeIn S.K (.ref (S.fa (G.init c)))=some (.type "function")
 lim :∀h,S.K.In h->h.NoLimit
 sys :∃o,S.hB sysModules=some o
section
variable {α:Type} {S:aY} {G:cy} {W W':Wd} {F:Addr->Option Obj} {H:List AO} {fm:Fm} {σ:St} {s s':Shared} {A:Around} {E:Value->Shared->Prop} {n:Nat}
theorem Ro.mono {m n:Nat} {A:Around} (r:Ro n A) (h:m<=n):Ro m A:=⟨r.hd,Nat.le_trans (Nat.add_le_add_left (Nat.mul_le_mul_left 8 (Nat.succ_le_succ h)) _) r.dp,Nat.le_trans (Nat.add_le_add_left (Nat.mul_le_mul_left 64 (Nat.succ_le_succ h)) _) r.un⟩
theorem ro_le {a b c n m k:Nat} (h:b<=c) (r:a+(m * (n+1)+c)<=k):a+b+m * (n+1)<=k:=Nat.le_trans (by rw [Nat.add_assoc,Nat.add_comm b];exact Nat.add_le_add_left (Nat.add_le_add_left h _) _) r
theorem Ro.under {n:Nat} {A:Around} {c:Code} (r:Ro (n+1) A) (h:c.weight<=8) (u:c.cUnits<=64):Ro n (A.under c):=⟨r.hd,ro_le h r.dp,ro_le u r.un⟩
noncomputable def nL (fm:Fm) (F:Addr->Option Obj) (h:Heap):Addr->Option Obj:=λa=>if a∈fm.ow then h.get? a else F a
theorem lJ {h:Heap} {a:Addr} (m:a∈fm.ow):nL fm F h a=h.get? a:=if_pos m
theorem jb {h:Heap} {a:Addr} (m:a∉fm.ow):nL fm F h a=F a:=if_neg m
theorem none_of {α:Type} {o q:Option α} (h :∀x,o=some x->q=some x) (n:q=none):o=none:=by
 cases o with
 |none=>rfl
 |some x=>rw [h x rfl]at n;cases n
theorem J8 {α:Type} {o:Option α} (h :∀x,o=some x->False):o=none:=by
 cases o with
 |none=>rfl
 |some x=>exact(h x rfl).elim
theorem Inv.oS {h:Heap} (I:Inv S W F fm σ h) {a:Addr} {o:Obj} (e:F a=some o):nL fm F h a=some o:=(jb λm=>by rw [(I.own a m).2.1]at e;cases e).trans e
theorem Inv.freeze {h:Heap} (I:Inv S W F fm σ h):b6 S W (nL fm F h) σ.H h:=by
 have J:=I.tob6
 refine{J with f:=λa o e=>?_,ρf:=λa m=>(jb λz=>(I.own a z).2.2.1 m).trans (I.ρf a m),pf:=λa o e=>(jb λz=>by rw [(I.own a z).1]at e;cases e).trans (I.pf a o e)}
 by_cases m:a∈fm.ow
 ·exact(lJ m).symm.trans e
 ·exact I.f a o ((jb m).symm.trans e)
theorem Inv.P8 {h h':Heap} {H':List AO} {os:List Nat} (I:Inv S W F fm σ h) (ok:gC S fm) (L:W.Le W') (J:b6 S W' (nL fm F h) H' h'):Inv S W' F fm {σ with H:=H',O:=os} h':=by
 have kow :∀a o,a∈fm.ow->h.get? a=some o->h'.get? a=some o:=λa o m e=>J.f a o ((lJ m).trans e)
 have kF :∀a o,(∃o,F a=some o)->h.get? a=some o->h'.get? a=some o:=λa o l e=>Exists.elim l λo' l=>by
  rw [I.f _ _ l]at e;exact e▸J.f a o' (I.oS l)
 refine{tob6:={J with f:=λa o e=>J.f a o (I.oS e),ρf:=λa m=>none_of (λo q=>I.oS q) (J.ρf a m),pf:=λa o e=>none_of (λo q=>I.oS q) (J.pf a o e)},fr:=I.fr,vars:=(I.vars.mono L).ie (λo=>kow _ o ok.lo) λx c o k l=>(I.fr x c k l).elim (kow c o) (kF c o),own:=λa m=>Exists.elim (I.own a m).2.2.2 λo e=>?_}
 have z:=(lJ (F:=F) m).trans e
 exact⟨J8 λo' q=>(by rw [J.pf a o' q]at z;cases z),(I.own a m).2.1,λy=>(by rw [J.ρf a y]at z;cases z),o,kow a o m e⟩
theorem jG.mono {Q Q':Value->Shared->Prop} {r:Result} (h:jG Q r s) (k :∀v,Q v s->Q' v s):jG Q' r s:=by
 cases r with
 |error e=>exact h
 |ok f=>cases f<;>first|exact k _ h|exact h
theorem jG.init {Q:Value->Shared->Prop} {R:Result->Shared->Prop} {x:Addr} {r:Result} (h:jG Q r s) (k :∀v,Q v s->v=.none/\R (.ok (.ret (.ref x))) s):InitBack x R r s:=by
 cases r with
 |error e=>exact h.elim
 |ok f=>cases f<;>first|exact k _ h|exact h
theorem called {f:Fn} {as:List AV} {vs:List Value} {q:AV×List AO×List Nat} (GO:bq S G n) (h:G.call f as σ.H=some q) (rs:cq S W as vs) (ok:gC S fm) (ro:Ro n A)
  (I:Inv S W F fm σ s.heap) (hz:fN q.2.2) :
  codeAny (MD S) A (.call (.ref (S.fa f)) ⟨vs,[]⟩) (jG (bX S W F fm {σ with H:=q.2.1,O:=q.2.2++σ.O} s (VP S q.1))) s:=
 codeAny_mono (GO.call f as σ.H q.1 q.2.1 q.2.2 h W (nL fm F s.heap) A s vs ro I.freeze rs hz) λres s' z=>z.mono λv z=>by
  cases z with|mk W' L r' J k=>exact⟨W',L,r',I.P8 ok L J,k⟩
noncomputable def rU:AV->Bool
 |.fn _=>true
 |.cls _=>true
 |.bi _=>true
 |.bD ..=>true
 |_=>false
noncomputable def Keeps (S:aY) (W:Wd) (fv:Value):Prop:=∀h,(S.K.In h/\∀a o,W.P a=some o->h.get? a=some o)->∃k,(k=Keeper.frame\/k=Keeper.machine\/k=Keeper.boundFrame)/\Looks (MD S) h (keeperOf fv) k
theorem Eb {b:String}:Keeps S W (.builtin b):=λ_ _=>⟨.machine,.inr (.inl rfl),Looks.now⟩
theorem y6 {fv:Value} {f:AV} (GO:bq S G n) (hf:VR S W f fv) (hc:rU f=true):Keeps S W fv:=by
 cases f with
 |fn=>exact hf.X1 λh q=>keeps_K (GO.kf _).1 h q.1
 |cls=>exact hf.Ik λh q=>keeps_K (GO.kc _) h q.1
 |bi b=>exact hf.Rn (by cases b<;>exact λ_ _=>⟨.machine,.inr (.inl rfl),Looks.now⟩)
 |bD=>exact hf.pH λa w e r h q=>keeps_M (GO.kf _).2 h ⟨q.2 _ _ e,q.1⟩
 |_=>exact absurd hc Bool.false_ne_true
@[elab_as_elim] theorem oj {P:AV×St->Prop} {o:Option (AV×List AO×List Nat)} {f:AV->Option AV} {p:AV×St} (h:m7 o σ f=some p) (k :∀q v,f q.1=some v->o=some q->P (v,{σ with H:=q.2.1,O:=q.2.2++σ.O})):P p:=
 ar h λq h e=>ar h λv h e'=>aw h (k q v e' e)
@[elab_as_elim] theorem oG {P:AV->AV×St->Prop} {v:AV} {as:List AV} {p:AV×St} (h:fG G v as σ=some p)
  (hf :∀f q,G.call f as σ.H=some q->P (.fn f) (q.1,{σ with H:=q.2.1,O:=q.2.2++σ.O}))
  (hm :∀f s q,G.call f (s::as) σ.H=some q->P (.bD f s) (q.1,{σ with H:=q.2.1,O:=q.2.2++σ.O}))
  (hc :∀c q,G.call (G.init c) (.inst c σ.H.length::as) (σ.H++[.dict []])=some q->kA q.1=some ()->P (.cls c) (.inst c σ.H.length,{σ with H:=q.2.1,O:=q.2.2++σ.O}))
  (hb :∀b q,BL σ.H b as=some q->P (.bi b) (q.1,{σ with O:=q.2++σ.O})):P v p:=by
 cases v with
 |fn f=>exact oj h λq v e e'=>aw e (hf f q e')
 |bD f s=>exact oj h λq v e e'=>aw e (hm f s q e')
 |cls c=>
  have h:m7 (G.call (G.init c) (.inst c σ.H.length::as) (σ.H++[.dict []])) σ (λv=>bd (kA v) λ_=>some (.inst c σ.H.length))=some p:=h
  exact oj h λq v e e'=>ar e λ_ e z=>aw e (hc c q e' z)
 |bi b=>exact ar h λq h e=>aw h (hb b q e)
 |_=>exact nn h
theorem C7:jR S emptyDict []:=⟨⟨rfl,rfl,rfl⟩,#[],0,rfl,λ_ h=>absurd h (Array.not_mem_empty _),.nil,.nil⟩
theorem ug {f:AV} {fv:Value} {as:List AV} {vs:List Value} {p:AV×St} (GO:bq S G n) (h:fG G f as σ=some p) (hf:VR S W f fv) (rs:cq S W as vs) (ok:gC S fm) (ro:Ro (n+1) A)
  (I:Inv S W F fm σ s.heap) (hz:fN p.2.O):wpAny (MD S) A (call fv vs) (bX S W F fm p.2 s (VP S p.1)) no s:=by
 have ro1:Ro n A:=ro.mono (Nat.le_succ n)
 refine oG (P:=λf p=>VR S W f fv->fN p.2.O->wpAny (MD S) A (call fv vs) (bX S W F fm p.2 s (VP S p.1)) no s) h (λf q e hf hz=>hf.X1 (wpAny_call (called GO e rs ok ro1 I hz.l)))
  (λf x q e hf hz=>hf.pH λa w e' r'=>wpAny_call (method_call (I.p _ _ e') (called GO e (.cons r' rs) ok ro1 I hz.l))) (λc q e z hf hz=>hf.Ik ?_) (λb q e hf hz=>hf.Rn (wpAny_mono (M1 e rs I ro.hd hz.l) (λ_ _ p=>p.zl) λ_ _ x=>x)) hf hz
 obtain⟨hh,g,d,t,os⟩:=s
 have K:=I.K
 have J:=I.EX (o:=emptyDict) (ao:=.dict []) (.dict rfl C7 (Nat.zero_le _) .nil)
 have J2:=J.1.new (o:=instObj (S.ca c) hh.objs.size)
 have L:=J.2.1.trans J2.2
 have hi:VR S ((W.a5 hh.objs.size).put (hh.push emptyDict).objs.size (instObj (S.ca c) hh.objs.size)) (.inst c σ.H.length) (.ref (hh.objs.size+1)):=Heap.size_push hh emptyDict▸.inst Wd.pL (J2.2.get J.2.2)
 refine wpAny_call (make_core (makes_of K (GO.cls c).mak) (looks_findIn K (GO.cls c).ini) (λself=>bind_fn K self (GO.ft c)) (.inl rfl) ?_)
 have ro':Ro n (A.under (.builtin "type.__call__" ⟨.ref (S.ca c)::vs,[]⟩)):=ro.under (by rw [BC];decide) (by rw [Gy];decide)
 refine codeAny_mono (called (s:=⟨(hh.push emptyDict).push (instObj (S.ca c) hh.objs.size),g,d,t,os⟩) GO e (.cons hi (rs.mono L)) ok ro' J2.1 hz.l) λres s' y=>y.init λv y=>?_
 cases y with|mk W' L' r' J k=>exact⟨(r'.kA z:v=.none),W',L.trans L',hi.mono L',J,k.gens,k.os⟩
end
noncomputable def zi (x:Nm) (s:Str):Bool:=bQ (EY x) s.cps.toList
theorem gM {x:Nm} {s:Str} (h:zi x s=true):s=bY x:=(pJ.mp h).symm
noncomputable abbrev c4:=List (Nm×Kd)
noncomputable def X8:Kd->NameKind
 |.loc=>.local|.qt=>.cell|.cS=>.globalImplicit
noncomputable def readable (x:Nm):Bool:=!(bQ (EY x) [95,95,100,101,98,117,103,95,95])&&!(bQ (EY x) [95,95,99,108,97,115,115,100,105,99,116,95,95])
noncomputable def opM (b:nP) (o:Operator):Bool:=decide (o=nJ b)
theorem Pq {b:nP} {o:Operator} (h:opM b o=true):o=nJ b:=of_decide_eq_true h
noncomputable def cpM (b:nR) (o:CmpOp):Bool:=decide (o=kU b)
theorem Nq {b:nR} {o:CmpOp} (h:cpM b o=true):o=kU b:=of_decide_eq_true h
noncomputable def bindB {α:Type} (o:Option α) (f:α->Bool):Bool:=match o with
 |some x=>f x
 |none=>false
theorem hU {α:Type} {o:Option α} {f:α->Bool} (h:bindB o f=true) :∃x,o=some x/\f x=true:=by
 cases o with
 |none=>cases h
 |some x=>exact⟨x,rfl,h⟩
theorem bg {α:Type} {o:Option α} {f:α->Bool} {P:Prop} (h:bindB o f=true) (k :∀x,f x=true->o=some x->P):P:=Exists.elim (hU h) λx z=>k x z.2 z.1
noncomputable def Nr (v:AV) (c:Const):Bool:=match c with
 |.none=>bindB (kA v) λ_=>true
 |.bool b=>bindB (zW v) λa=>a==b
 |.int b=>bindB (jQ v) λa=>a==b
 |.str b=>bindB (gU v) λa=>bQ a b.cps.toList&&Nat.ble a.length 1000
 |.float _=>false
 |.complex ..=>false
 |.bytes _=>false
 |.ellipsis=>false
noncomputable def D0:Ex->Bool|.no=>true|_=>false
noncomputable def LH (ks:c4) (sc:Scope) (p:Str×NameKind):Bool:=(decide (p.2=.local)&&decide (sc.names.lookup p.1=some .local))||((decide (p.2=.free)&&ks.any λq=>zi q.1 p.1&&decide (lk ks q.1=some .qt))||decide (p.2=.globalImplicit))
noncomputable def kindB (ks:c4) (sc:Scope) (q:Nm×Kd):Bool:=match q.2 with
 |.loc=>decide (sc.names.lookup (bY q.1)=some .local)
 |.qt=>decide (sc.names.lookup (bY q.1)=some .free)&&decide (lk ks q.1=some .qt)
 |.cS=>decide (sc.names.lookup (bY q.1)=some .globalImplicit)
noncomputable def Yi (ks ks':c4) (sc:Scope):Bool:=decide (sc.kind=.function)&&sc.names.all (LH ks sc)&&ks'.all (kindB ks sc)
noncomputable def vd:tZ->List Nm
 |.nil=>[]
 |.cons k _ r=>k::vd r
noncomputable def k8 (l:List Nm):Bool:=decide l.Nodup
theorem mY {l:List Nm} (h:k8 l=true):l.Nodup:=of_decide_eq_true h
structure Pt where
 n:Nat
 a:Expr
 b:Expr
 c:Expr
 l:List Expr
 ol:List (Option Expr)
 u:Option Expr
 v:Option Expr
 s:Str
 k:Nat
 cst:Const
 bo:BoolOp
 op:Operator
 uo:UnaryOp
 co:List CmpOp
 g:List Comprehension
 sc:Scope
 kw:List Keyword
 p:Pos
noncomputable def qL (e:Expr):Pt:=⟨0,e,e,e,[],[],none,none,⟨#[]⟩,0,.none,.And,.Add,.Not,[],[],⟨.function,[],false,false,[]⟩,[],⟨0,0,0,0⟩⟩
noncomputable def cz (e:Expr):Pt:=match e with
 |.Constant c k p=>{qL e with n:=1,cst:=c,k:=k,p:=p}
 |.Name s p=>{qL e with n:=2,s:=s,p:=p}
 |.Attribute v s p=>{qL e with n:=3,a:=v,s:=s,p:=p}
 |.Subscript v s p=>{qL e with n:=4,a:=v,b:=s,p:=p}
 |.Slice _ _ (some _) _=>{qL e with n:=16}
 |.Starred ..=>{qL e with n:=17}
 |.Set ..=>{qL e with n:=18}
 |.SetComp ..=>{qL e with n:=19}
 |.DictComp ..=>{qL e with n:=20}
 |.Slice l u none p=>{qL e with n:=5,u:=l,v:=u,p:=p}
 |.BinOp l o r p=>{qL e with n:=6,a:=l,op:=o,b:=r,p:=p}
 |.Compare l o c p=>{qL e with n:=7,a:=l,co:=o,l:=c,p:=p}
 |.BoolOp o v p=>{qL e with n:=8,bo:=o,l:=v,p:=p}
 |.UnaryOp o x p=>{qL e with n:=9,uo:=o,a:=x,p:=p}
 |.IfExp a b c p=>{qL e with n:=10,a:=a,b:=b,c:=c,p:=p}
 |.Tuple l k p=>{qL e with n:=11,l:=l,k:=k,p:=p}
 |.List l p=>{qL e with n:=12,l:=l,p:=p}
 |.Dict a b p=>{qL e with n:=13,ol:=a,l:=b,p:=p}
 |.Call g as ks p=>{qL e with n:=14,a:=g,l:=as,kw:=ks,p:=p}
 |.ListComp e' gs sc p=>{qL e with n:=15,a:=e',g:=gs,sc:=sc,p:=p}
 |e=>qL e
noncomputable def Yw (n:Nat) (q:Pt):Expr:=match n with
 |1=>.Constant q.cst q.k q.p
 |2=>.Name q.s q.p
 |3=>.Attribute q.a q.s q.p
 |4=>.Subscript q.a q.b q.p
 |5=>.Slice q.u q.v none q.p
 |6=>.BinOp q.a q.op q.b q.p
 |7=>.Compare q.a q.co q.l q.p
 |8=>.BoolOp q.bo q.l q.p
 |9=>.UnaryOp q.uo q.a q.p
 |10=>.IfExp q.a q.b q.c q.p
 |11=>.Tuple q.l q.k q.p
 |12=>.List q.l q.p
 |13=>.Dict q.ol q.l q.p
 |14=>.Call q.a q.l q.kw q.p
 |15=>.ListComp q.a q.g q.sc q.p
 |_=>q.a
theorem M5 (e:Expr):Yw (cz e).n (cz e)=e:=by
 cases e with
 |Slice l u st p=>cases st<;>rfl
 |_=>rfl
noncomputable def iy (n:Nat) (e:Expr):Bool:=Nat.beq (cz e).n n
theorem d4 {n:Nat} {e:Expr} (h:iy n e=true):Yw n (cz e)=e:=Nat.eq_of_beq_eq_true h▸M5 e
theorem iQ {n:Nat} {e:Expr} {P:Expr->Prop} (h:iy n e=true) (f:P (Yw n (cz e))):P e:=d4 h▸f
noncomputable def gN (e:Expr):Bool:=!iy 18 e
noncomputable def jj (e:Expr):Bool:=!iy 5 e&&!iy 16 e
noncomputable def notAttr (e:Expr):Bool:=!iy 3 e
noncomputable def notStar (e:Expr):Bool:=!iy 17 e
noncomputable def lV (e:Expr):Bool:=!iy 14 e
noncomputable def iK (e:Expr):Bool:=!iy 15 e&&!iy 19 e&&!iy 20 e
noncomputable def oh (e:Expr):Bool:=!iy 11 e
noncomputable def Pp (g:List Comprehension):Option Comprehension:=match g with
 |[]=>none
 |g::r=>(match r with|_::_=>none|[]=>(match decide (g.is_async=0)with|true=>some g|false=>none))
theorem Ka {g:List Comprehension} {x:Comprehension} (h:Pp g=some x):g=[⟨x.target,x.iter,x.ifs,0⟩]:=by
 cases g with
 |nil=>exact nn h
 |cons g r=>
  cases r with
  |cons _ _=>exact nn h
  |nil=>
   obtain⟨tg,i,ifs,a⟩:=g
   by_cases z:a=0
   ·subst z;cases h;rfl
   ·simp [Pp,z]at h
noncomputable def u0 (o:Option Kd):Bool:=decide (o=some .loc)
noncomputable def Lo (o:Option Kd):Bool:=decide (o=some .cS)
noncomputable def isVar (o:Option Kd):Bool:=u0 o||decide (o=some .qt)
theorem o5 {o:Option Kd} (h:u0 o=true):o=some .loc:=of_decide_eq_true h
theorem DX {o:Option Kd} (h:Lo o=true):o=some .cS:=of_decide_eq_true h
noncomputable def tgM (x:Nm) (e:Expr):Bool:=iy 2 e&&zi x (cz e).s
noncomputable def xY:List Nm->List Expr->Bool
 |[],l=>l.isEmpty
 |x::xs,l=>(match l with|[]=>false|e::es=>tgM x e&&xY xs es)
noncomputable def nj (ks:c4) (t:List Nm) (e:Expr):Bool:=match jN t with
 |some x=>iy 2 e&&zi x (cz e).s&&u0 (lk ks x)
 |none=>iy 11 e&&xY t (cz e).l&&t.all λx=>u0 (lk ks x)
noncomputable def YM (f:Expr->Bool) (no:Bool):Option Expr->Bool|none=>no|some l=>f l&&!no
noncomputable def P2:Const->Option Str|.str s=>some s|_=>none
theorem Kz {c:Const} {s:Str} (h:P2 c=some s):c=.str s:=by cases c<;>first|exact nn h|(cases h;rfl)
noncomputable section
mutual
noncomputable def mE:c4->Ex->Expr->Bool
 |_,.bad,_=>true
 |_,.no,_=>false
 |_,.c v,e=>iy 1 e&&Nr v (cz e).cst
 |ks,.v n,e=>iy 2 e&&zi n (cz e).s&&readable n&&isVar (lk ks n)
 |ks,.g n,e=>iy 2 e&&zi n (cz e).s&&readable n&&Lo (lk ks n)
 |ks,.at i a,e=>iy 3 e&&zi a (cz e).s&&mE ks i (cz e).a&&lV (cz e).a
 |ks,.ix a i,e=>iy 4 e&&mE ks a (cz e).a&&mE ks i (cz e).b&&jj (cz e).b
 |ks,.sl a lo hi,e=>iy 4 e&&iy 5 (cz e).b&&mE ks a (cz e).a&&YM (λl=>mE ks lo l) (D0 lo) (cz (cz e).b).u&&YM (λl=>mE ks hi l) (D0 hi) (cz (cz e).b).v
 |ks,.bin o a b,e=>iy 6 e&&opM o (cz e).op&&mE ks a (cz e).a&&mE ks b (cz e).b
 |ks,.cmp a r,e=>iy 7 e&&mE ks a (cz e).a&&mC ks r (cz e).co (cz e).l
 |ks,.and es,e=>iy 8 e&&decide ((cz e).bo=.And)&&kK ks es (cz e).l
 |ks,.or es,e=>iy 8 e&&decide ((cz e).bo=.Or)&&kK ks es (cz e).l
 |ks,.not i,e=>iy 9 e&&decide ((cz e).uo=.Not)&&mE ks i (cz e).a
 |ks,.neg i,e=>iy 9 e&&decide ((cz e).uo=.USub)&&mE ks i (cz e).a
 |ks,.ite t a b,e=>iy 10 e&&mE ks t (cz e).a&&mE ks a (cz e).b&&mE ks b (cz e).c
 |ks,.tup es,e=>iy 11 e&&kK ks es (cz e).l
 |ks,.lst es _,e=>iy 12 e&&kK ks es (cz e).l
 |ks,.ck y7 _,e=>iy 13 e&&(mK ks y7 (cz e).ol (cz e).l&&k8 (vd y7)&&Nat.ble 1 (cz e).ol.length&&Nat.ble (cz e).ol.length 15)
 |ks,.call f as,e=>iy 14 e&&(mE ks f (cz e).a&&kK ks as (cz e).l&&notAttr (cz e).a&&(cz e).kw.isEmpty)
 |ks,.aq o m as,e=>iy 14 e&&iy 3 (cz e).a&&(cz e).kw.isEmpty&&(zi m (cz (cz e).a).s&&mE ks o (cz (cz e).a).a&&kK ks as (cz e).l&&lV (cz (cz e).a).a&&Nat.beq (cz (cz e).a).p.endLine (cz e).p.line&&Nat.ble (cz e).l.length 20)
 |ks,.comp ks' elt t it cs,e=>iy 15 e&&bindB (Pp (cz e).g) λx=>mE ks it x.iter&&mE ks' elt (cz e).a&&kK ks' cs x.ifs&&nj ks' t x.target&&Yi ks ks' (cz e).sc&&gN x.iter
noncomputable def kK:c4->fe->List Expr->Bool
 |_,.nil,l=>l.isEmpty
 |ks,.cons e r,l=>(match l with|[]=>false|x::xs=>mE ks e x&&kK ks r xs&&notStar x)
noncomputable def mC:c4->kz->List CmpOp->List Expr->Bool
 |_,.nil,_,_=>false
 |ks,.cons o e r,ops,cs=>(match ops with|[]=>false|op::ops'=>(match cs with|[]=>false|x::xs=>cpM o op&&mE ks e x&&gN x&&
   (match r with|.nil=>ops'.isEmpty&&xs.isEmpty|.cons _ _ _=>!ops'.isEmpty&&!xs.isEmpty&&mC ks r ops' xs)))
noncomputable def mK:c4->tZ->List (Option Expr)->List Expr->Bool
 |_,.nil,a,b=>a.isEmpty&&b.isEmpty
 |ks,.cons k e r,a,b=>(match a with|[]=>false|x::a'=>(match b with|[]=>false|v::b'=>bindB x λy=>iy 1 y&&bindB (P2 (cz y).cst) λs=>zi k s&&mE ks e v&&mK ks r a' b'))
end
end
noncomputable def qm (ks:c4) (env:Env):Prop:=∀x k,lk ks x=some k->env.kindOf (bY x)=some (X8 k)
section
variable {S:aY} {G:cy} {W W':Wd} {F:Addr->Option Obj} {H:List AO} {fm:Fm} {σ:St} {s:Shared} {A:Around} {E:Value->Shared->Prop} {h:Heap} {α:Type}
theorem wpAny_release {M:Model} {vs keep:List Value} {Q:Unit->Shared->Prop} (h:Q () s):wpAny M A (release vs keep) Q E s:=λΓ p _=>by rw [Sem.wp_release];exact h
theorem fA {M:Model} {vs:List Value} {m:Sem Value} {Q:Value->Shared->Prop} (h:wpAny M A m Q E s):wpAny M A (operate vs m) Q E s:=λΓ p hΓ=>by rw [Sem.wp_operate];exact h Γ p hΓ
end
section
variable {ks:c4} {e:Expr}
section
variable {P:Expr->Prop}
@[elab_as_elim] theorem SD {v:AV} (h:mE ks (.c v) e=true) (f :∀c k pos,Nr v c=true->P (.Constant c k pos)):P e:=
 iQ (bf h).1 (f _ _ _ (bf h).2)
theorem to2 {β:Type} {F:β->Expr} {a b:β} (h:F a=e) (q:a=b) (p:P (F b)):P e:=h▸q▸p
@[elab_as_elim] theorem SI {x:Nm} (h:mE ks (.v x) e=true) (f :∀pos,readable x=true->P (.Name (bY x) pos)):P e:=
 have z:=iW h
 to2 (F:=λs=>.Name s (cz e).p) (d4 z.1) (gM z.2.1) (f _ z.2.2.1)
@[elab_as_elim] theorem SF {x:Nm} (h:mE ks (.g x) e=true) (f :∀pos,readable x=true->lk ks x=some .cS->P (.Name (bY x) pos)):P e:=
 have z:=iW h
 to2 (F:=λs=>.Name s (cz e).p) (d4 z.1) (gM z.2.1) (f _ z.2.2.1 (DX z.2.2.2))
theorem SG (h:mE ks .no e=true):False:=Bool.false_ne_true h
@[elab_as_elim] theorem Lx {i:Ex} {a:Nm} (h:mE ks (.at i a) e=true) (f :∀v pos,mE ks i v=true->lV v=true->P (.Attribute v (bY a) pos)):P e:=
 have z:=iW h
 to2 (F:=λs=>.Attribute (cz e).a s (cz e).p) (d4 z.1) (gM z.2.1) (f _ _ z.2.2.1 z.2.2.2)
@[elab_as_elim] theorem Ly {x i:Ex} (h:mE ks (.ix x i) e=true) (f :∀v s pos,mE ks x v=true->mE ks i s=true->jj s=true->P (.Subscript v s pos)):P e:=
 have z:=iW h
 iQ z.1 (f _ _ _ z.2.1 z.2.2.1 z.2.2.2)
noncomputable def opt (ks:c4) (i:Ex) (o:Option Expr):Prop:=(o=none/\i=.no)\/∃l,o=some l/\mE ks i l=true/\i≠.no
theorem Jp {i:Ex} (h:D0 i=true):i=.no:=by cases i<;>first|rfl|exact absurd h Bool.false_ne_true
theorem Jq {i:Ex} (h:(!D0 i)=true):i≠.no:=λe=>by subst e;cases h
theorem Dc {i:Ex} {o:Option Expr} (h:YM (λl=>mE ks i l) (D0 i) o=true):opt ks i o:=by
 cases o with
 |none=>exact .inl ⟨rfl,Jp h⟩
 |some l=>exact .inr ⟨l,rfl,(bf h).1,Jq (bf h).2⟩
@[elab_as_elim] theorem SH {x lo hi:Ex} (h:mE ks (.sl x lo hi) e=true) (f :∀v l u p pos,mE ks x v=true->opt ks lo l->opt ks hi u->P (.Subscript v (.Slice l u none p) pos)):P e:=
 have z:=iW (bf h).1
 to2 (F:=λs=>.Subscript (cz e).a s (cz e).p) (d4 z.1) (d4 z.2.1).symm (f _ _ _ _ _ z.2.2.1 (Dc z.2.2.2) (Dc (bf h).2))
@[elab_as_elim] theorem Oi {o:nP} {a b:Ex} (h:mE ks (.bin o a b) e=true) (f :∀l r pos,mE ks a l=true->mE ks b r=true->P (.BinOp l (nJ o) r pos)):P e:=
 have z:=iW h
 to2 (F:=λs=>.BinOp (cz e).a s (cz e).b (cz e).p) (d4 z.1) (Pq z.2.1) (f _ _ _ z.2.2.1 z.2.2.2)
@[elab_as_elim] theorem EI {a:Ex} {r:kz} (h:mE ks (.cmp a r) e=true) (f :∀l ops cs pos,mE ks a l=true->mC ks r ops cs=true->P (.Compare l ops cs pos)):P e:=
 have z:=fL h
 iQ z.1 (f _ _ _ _ z.2.1 z.2.2)
theorem EH {o:BoolOp} {b:Bool} (h:(iy 8 e&&decide ((cz e).bo=o)&&b)=true) (f:b=true->P (.BoolOp o (cz e).l (cz e).p)):P e:=
 have z:=fL h
 to2 (F:=λs=>.BoolOp s (cz e).l (cz e).p) (d4 z.1) (of_decide_eq_true z.2.1) (f z.2.2)
theorem LA {o:UnaryOp} {b:Bool} (h:(iy 9 e&&decide ((cz e).uo=o)&&b)=true) (f:b=true->P (.UnaryOp o (cz e).a (cz e).p)):P e:=
 have z:=fL h
 to2 (F:=λs=>.UnaryOp s (cz e).a (cz e).p) (d4 z.1) (of_decide_eq_true z.2.1) (f z.2.2)
@[elab_as_elim] theorem EG {es:fe} (h:mE ks (.and es) e=true) (f :∀vs pos,kK ks es vs=true->P (.BoolOp .And vs pos)):P e:=EH h (f _ _)
@[elab_as_elim] theorem Lz {es:fe} (h:mE ks (.or es) e=true) (f :∀vs pos,kK ks es vs=true->P (.BoolOp .Or vs pos)):P e:=EH h (f _ _)
@[elab_as_elim] theorem EK {i:Ex} (h:mE ks (.not i) e=true) (f :∀x pos,mE ks i x=true->P (.UnaryOp .Not x pos)):P e:=LA h (f _ _)
@[elab_as_elim] theorem Om {i:Ex} (h:mE ks (.neg i) e=true) (f :∀x pos,mE ks i x=true->P (.UnaryOp .USub x pos)):P e:=LA h (f _ _)
@[elab_as_elim] theorem EJ {t a b:Ex} (h:mE ks (.ite t a b) e=true) (f :∀t' a' b' pos,mE ks t t'=true->mE ks a a'=true->mE ks b b'=true->P (.IfExp t' a' b' pos)):P e:=
 have z:=iW h
 iQ z.1 (f _ _ _ _ z.2.1 z.2.2.1 z.2.2.2)
@[elab_as_elim] theorem Oo {es:fe} (h:mE ks (.tup es) e=true) (f :∀elts k pos,kK ks es elts=true->P (.Tuple elts k pos)):P e:=
 iQ (bf h).1 (f _ _ _ (bf h).2)
@[elab_as_elim] theorem Ol {es:fe} {z:Bool} (h:mE ks (.lst es z) e=true) (f :∀elts pos,kK ks es elts=true->P (.List elts pos)):P e:=
 iQ (bf h).1 (f _ _ (bf h).2)
@[elab_as_elim] theorem Oj {y7:tZ} {y:Bool} (h:mE ks (.ck y7 y) e=true) (f :∀keys vals pos,mK ks y7 keys vals=true->k8 (vd y7)=true->1<=keys.length->keys.length<=15->P (.Dict keys vals pos)):P e:=
 have z:=iW (bf h).2
 iQ (bf h).1 (f _ _ _ z.1 z.2.1 (Nat.le_of_ble_eq_true z.2.2.1) (Nat.le_of_ble_eq_true z.2.2.2))
@[elab_as_elim] theorem zc {g':Ex} {as:fe} (h:mE ks (.call g' as) e=true) (f :∀g args pos,mE ks g' g=true->kK ks as args=true->notAttr g=true->P (.Call g args [] pos)):P e:=
 have z:=iW (bf h).2
 to2 (F:=λs=>.Call (cz e).a (cz e).l s (cz e).p) (d4 (bf h).1) (List.isEmpty_iff.mp z.2.2.2) (f _ _ _ z.1 z.2.1 z.2.2.1)
@[elab_as_elim] theorem vh {o:Ex} {m:Nm} {as:fe} (h:mE ks (.aq o m as) e=true) (f :∀v apos args pos,mE ks o v=true->kK ks as args=true->lV v=true->apos.endLine=pos.line->args.length<=20->P (.Call (.Attribute v (bY m) apos) args [] pos)):P e:=
 have y:=iW h
 have z:=t9 y.2.2.2
 to2 (F:=λs=>.Call (cz e).a (cz e).l s (cz e).p) (d4 y.1) (List.isEmpty_iff.mp y.2.2.1) (to2 (P:=λx=>P (.Call x (cz e).l [] (cz e).p)) (F:=λs=>.Attribute (cz (cz e).a).a s (cz (cz e).a).p) (d4 y.2.1) (gM z.1)
  (f _ _ _ _ z.2.1 z.2.2.1 z.2.2.2.1 (Nat.eq_of_beq_eq_true z.2.2.2.2.1) (Nat.le_of_ble_eq_true z.2.2.2.2.2)))
@[elab_as_elim] theorem zd {ks':c4} {elt it:Ex} {t:List Nm} {cs:fe} (h:mE ks (.comp ks' elt t it cs) e=true) (f :∀e' tg i ifs sc pos,mE ks it i=true->mE ks' elt e'=true->kK ks' cs ifs=true->nj ks' t tg=true->Yi ks ks' sc=true->gN i=true->P (.ListComp e' [⟨tg,i,ifs,0⟩] sc pos)):P e:=
 let ⟨_,q,h'⟩:=hU (bf h).2
 have z:=t9 h'
 to2 (F:=λs=>.ListComp (cz e).a s (cz e).sc (cz e).p) (d4 (bf h).1) (Ka q) (f _ _ _ _ _ _ z.1 z.2.1 z.2.2.1 z.2.2.2.1 z.2.2.2.2.1 z.2.2.2.2.2)
end
theorem iJ {es:List Expr} (h:kK ks .nil es=true):es=[]:=List.isEmpty_iff.mp h
@[elab_as_elim] theorem gz {P:List Expr->Prop} {i:Ex} {r:fe} {es:List Expr} (h:kK ks (.cons i r) es=true) (f :∀x xs,mE ks i x=true->kK ks r xs=true->notStar x=true->P (x::xs)):P es:=by
 cases es with
 |nil=>exact absurd h Bool.false_ne_true
 |cons x xs=>exact f x xs (fL h).1 (fL h).2.1 (fL h).2.2
theorem sQ {a:List (Option Expr)} {b:List Expr} (h:mK ks .nil a b=true):a=[]/\b=[]:=⟨List.isEmpty_iff.mp (bf h).1,List.isEmpty_iff.mp (bf h).2⟩
@[elab_as_elim] theorem ze {P:List (Option Expr)->List Expr->Prop} {k:Nm} {i:Ex} {r:tZ} {a:List (Option Expr)} {b:List Expr} (h:mK ks (.cons k i r) a b=true)
  (f :∀kd p a' v b',mE ks i v=true->mK ks r a' b'=true->P (some (.Constant (.str (bY k)) kd p)::a') (v::b')):P a b:=by
 cases a with
 |nil=>exact absurd h Bool.false_ne_true
 |cons x a'=>
 cases b with
 |nil=>exact absurd h Bool.false_ne_true
 |cons v b'=>
 cases x with
 |none=>exact absurd h Bool.false_ne_true
 |some y=>
  have z:(iy 1 y&&bindB (P2 (cz y).cst) λs=>zi k s&&mE ks i v&&mK ks r a' b')=true:=h
  obtain⟨s,q2,h⟩:=hU (bf z).2
  have w:=fL h
  exact to2 (P:=λy=>P (some y::a') (v::b')) (F:=λc=>.Constant c (cz y).k (cz y).p) (d4 (bf z).1) ((Kz q2).trans (congrArg _ (gM w.1))) (f _ _ _ _ _ w.2.1 w.2.2)
@[elab_as_elim] theorem JK {P:kz->List CmpOp->List Expr->Prop} {o:nR} {i:Ex} {r:kz} {ops:List CmpOp} {cs:List Expr} (h:mC ks (.cons o i r) ops cs=true)
  (f :∀x,mE ks i x=true->gN x=true->P .nil [kU o] [x])
  (f' :∀x o' i' r' op' ops' x' xs,mE ks i x=true->gN x=true->mC ks (.cons o' i' r') (op'::ops') (x'::xs)=true->P (.cons o' i' r') (kU o::op'::ops') (x::x'::xs)):P r ops cs:=by
 cases ops with
 |nil=>exact absurd h Bool.false_ne_true
 |cons op ops=>
 cases cs with
 |nil=>exact absurd h Bool.false_ne_true
 |cons x xs=>
  have z:=iW h
  rw [Nq z.1]
  have w:=z.2.2.2
  cases r with
  |nil=>
   have w:(ops.isEmpty&&xs.isEmpty)=true:=w
   cases ops with
   |cons _ _=>exact absurd w Bool.false_ne_true
   |nil=>
   cases xs with
   |cons _ _=>exact absurd w Bool.false_ne_true
   |nil=>exact f x z.2.1 z.2.2.1
  |cons o' i' r'=>
   have v:=fL w
   cases ops with
   |nil=>exact absurd v.1 Bool.false_ne_true
   |cons op' ops'=>
   cases xs with
   |nil=>exact absurd v.2.1 Bool.false_ne_true
   |cons x' xs'=>exact f' _ _ _ _ _ _ _ _ z.2.1 z.2.2.1 v.2.2
end
noncomputable def Mon {α:Type} (L:List Nat) (o:Option (α×St)):Prop:=∀r,o=some r->fN r.2.O->fN L
noncomputable def c6 (L:List Nat) (o:Option St):Prop:=∀r,o=some r->fN r.O->fN L
section
variable {α β γ:Type} {L:List Nat} {σ:St}
theorem Mon.bd {o:Option (α×St)} {f:α×St->Option (β×St)} (h:Mon L o) (k :∀p,Mon p.2.O (f p)):Mon L (bd o f):=λr e z=>ar e λp e e'=>h p e' (k p r e z)
theorem Mon.oD {o:Option (α×St)} {f:α×St->Option St} (h:Mon L o) (k :∀p,c6 p.2.O (f p)):c6 L (Mine.bd o f):=λr e z=>ar e λp e e'=>h p e' (k p r e z)
theorem c6.bd {o:Option St} {f:St->Option (β×St)} (h:c6 L o) (k :∀p,Mon p.O (f p)):Mon L (bd o f):=λr e z=>ar e λp e e'=>h p e' (k p r e z)
theorem c6.oD {o:Option St} {f:St->Option St} (h:c6 L o) (k :∀p,c6 p.O (f p)):c6 L (Mine.bd o f):=λr e z=>ar e λp e e'=>h p e' (k p r e z)
theorem Mon.opt {o:Option γ} {f:γ->Option (β×St)} (k :∀x,Mon L (f x)):Mon L (Mine.bd o f):=λr e z=>ar e λx e _=>k x r e z
theorem c6.opt {o:Option γ} {f:γ->Option St} (k :∀x,c6 L (f x)):c6 L (Mine.bd o f):=λr e z=>ar e λx e _=>k x r e z
theorem Mon.alt {o:Option γ} {f:γ->Option (β×St)} {b:Option (β×St)} (k :∀x,Mon L (f x)) (h:Mon L b):Mon L (Mine.alt o f b):=λr e z=>b7 e (λx e _=>k x r e z) λe=>h r e z
theorem c6.alt {o:Option γ} {f:γ->Option St} {b:Option St} (k :∀x,c6 L (f x)) (h:c6 L b):c6 L (Mine.alt o f b):=λr e z=>b7 e (λx e _=>k x r e z) λe=>h r e z
theorem Mon.cond {b:Bool} {x y:Option (β×St)} (h:Mon L x) (k:Mon L y):Mon L (cond b x y):=λr e z=>bR e (λe _=>h r e z) λe _=>k r e z
theorem Mon.no:Mon L (none:Option (β×St)):=λ_ e=>nn e
theorem c6.no:c6 L none:=λ_ e=>nn e
theorem Mon.ret {a:β}:Mon σ.O (some (a,σ)):=λ_ e=>aw e id
theorem Mon.st {a:β} {H:List AO} {V:List (Nm×AV)}:Mon L (some (a,St.mk H V L)):=λ_ e=>aw e id
theorem Mon.app {p:β} {H:List AO} {V:List (Nm×AV)} {l:List Nat}:Mon L (some (p,St.mk H V (l++L))):=λ_ e=>aw e λz=>z.r
theorem Mon.one {p:β} {H:List AO} {V:List (Nm×AV)} {l:Nat}:Mon L (some (p,St.mk H V (l::L))):=λ_ e=>aw e λz=>z.tl
theorem c6.ret {H:List AO} {V:List (Nm×AV)}:c6 L (some (St.mk H V L)):=λ_ e=>aw e id
theorem c6.one {H:List AO} {V:List (Nm×AV)} {l:Nat}:c6 L (some (St.mk H V (l::L))):=λ_ e=>aw e λz=>z.tl
theorem c6.app {H:List AO} {V:List (Nm×AV)} {l:List Nat}:c6 L (some (St.mk H V (l++L))):=λ_ e=>aw e λz=>z.r
theorem c6.trans {l:Nat} {o:Option St} (h:c6 (l::L) o):c6 L o:=λr e z=>(h r e z).tl
theorem Mon.ua {o:Option (β×St)} {l:List Nat} (h:Mon (l++L) o):Mon L o:=λr e z=>(h r e z).r
theorem c6.ua {o:Option St} {l:List Nat} (h:c6 (l++L) o):c6 L o:=λr e z=>(h r e z).r
variable {G:cy}
theorem pQ {o:Option (AV×List AO×List Nat)} {f:AV->Option AV}:Mon σ.O (m7 o σ f):=.opt λ_=>.opt λ_=>.app
theorem iY {v:AV} {as:List AV}:Mon σ.O (fG G v as σ):=by
 cases v with
 |fn f=>exact pQ
 |bD f s=>exact pQ
 |cls c=>exact(pQ:Mon σ.O (m7 (G.call (G.init c) (.inst c σ.H.length::as) (σ.H++[.dict []])) σ λv=>bd (kA v) λ_=>some (.inst c σ.H.length)))
 |bi b=>exact .opt λ_=>.app
 |_=>exact .no
theorem ka {f:Sum AV (AV×Nm)} {as:List AV}:Mon σ.O (iX G f as σ):=by
 cases f with
 |inl v=>exact iY
 |inr p=>exact .alt (λ_=>.opt λ_=>.app) (.opt λ_=>.opt λ_=>.opt λ_=>.app)
theorem jS {t:List Nm} {b:Bool} {v:AV}:c6 σ.O (hK t b v σ):=by
 cases b with
 |true=>exact .opt λ_=>.opt λ_=>.ret
 |false=>exact .opt λ_=>.ret
theorem mB {asg:AV->St->Option St} {t:St->Option (Bool×St)} {b:St->Option (AV×St)} (ha :∀v σ,c6 σ.O (asg v σ)) (ht :∀σ,Mon σ.O (t σ)) (hb :∀σ,Mon σ.O (b σ)) :∀(vs:List AV) (σ:St),Mon σ.O (jI asg t b vs σ):=by
 intro vs
 induction vs with
 |nil=>exact λ_=>.ret
 |cons v vs ih=>exact λσ=>(ha v σ).bd λτ=>(ht τ).bd λp=>.cond ((hb p.2).bd λx=>(ih x.2).bd λy=>.ret) (ih p.2)
theorem px {p:Fl×St} {k:St->Option (Fl×St)} (h :∀σ,Mon σ.O (k σ)):Mon p.2.O (lp p k):=by
 obtain⟨f,σ⟩:=p
 cases f with
 |nx=>exact h σ
 |bk=>exact .ret
 |rt v=>exact .ret
theorem sY {p:Fl×St} {k:St->Option (Fl×St)} (h :∀σ,Mon σ.O (k σ)):Mon p.2.O (Fb p k):=by
 obtain⟨f,σ⟩:=p
 cases f with
 |nx=>exact h σ
 |bk=>exact .ret
 |rt v=>exact .ret
theorem nk {t:St->Option (Bool×St)} {b:St->Option (Fl×St)} (ht :∀σ,Mon σ.O (t σ)) (hb :∀σ,Mon σ.O (b σ)) :∀(k:Nat) (σ:St),Mon σ.O (fc k t b σ):=by
 intro k
 induction k with
 |zero=>exact λ_=>.no
 |succ k ih=>exact λσ=>(ht σ).bd λp=>.cond ((hb p.2).bd λq=>px ih) .ret
theorem ra {asg:AV->St->Option St} {b:St->Option (Fl×St)} (ha :∀v σ,c6 σ.O (asg v σ)) (hb :∀σ,Mon σ.O (b σ)) :∀(vs:List AV) (σ:St),Mon σ.O (jY asg b vs σ):=by
 intro vs
 induction vs with
 |nil=>exact λ_=>.ret
 |cons v vs ih=>exact λσ=>(ha v σ).bd λτ=>(hb τ).bd λq=>px ih
structure ME (G:cy) (e:Ex):Prop where
 v :∀σ,Mon σ.O (ev G e σ)
 t :∀σ,Mon σ.O (cZ G e σ)
structure Hy (G:cy) (es:fe):Prop where
 e :∀σ,Mon σ.O (qZ G es σ)
 a :∀σ,Mon σ.O (rO G es σ)
 o :∀σ,Mon σ.O (Yg G es σ)
 at_ :∀σ,Mon σ.O (wA G es σ)
 ot :∀σ,Mon σ.O (Pu G es σ)
 ts :∀σ,Mon σ.O (mh G es σ)
theorem zM {L:List Nat} {o:Option (AV×St)} (h:Mon L o):Mon L (bd o λr=>bd (bW r.2.H r.1) λb=>some (b,r.2)):=h.bd λ_=>.opt λ_=>.ret
theorem Hy.nil:Hy G .nil:=⟨λ_=>.ret,λ_=>.no,λ_=>.no,λ_=>.ret,λ_=>.ret,λ_=>.ret⟩
theorem Hy.cons {e:Ex} {r:fe} (h:ME G e) (k:Hy G r):Hy G (.cons e r) where
 e:=λσ=>(h.v σ).bd λp=>(k.e p.2).bd λq=>.ret
 a:=λσ=>(h.v σ).bd λp=>by cases r<;>first|exact .ret|exact .opt λb=>.cond (k.a p.2) .ret
 o:=λσ=>(h.v σ).bd λp=>by cases r<;>first|exact .ret|exact .opt λb=>.cond .ret (k.o p.2)
 at_:=λσ=>(h.t σ).bd λp=>.cond (k.at_ p.2) .ret
 ot:=λσ=>(h.t σ).bd λp=>.cond .ret (k.ot p.2)
 ts:=λσ=>(h.t σ).bd λp=>.cond (k.ts p.2) .ret
theorem yk {o:nR} {e:Ex} {r:kz} (h:ME G e) (k :∀x σ,Mon σ.O (uj G x r σ)) (x:AV) (σ:St):Mon σ.O (uj G x (.cons o e r) σ):=
 (h.v σ).bd λp=>.opt λb=>by cases r<;>first|exact .ret|exact .cond (k p.1 p.2) .ret
theorem yN {k:Nm} {e:Ex} {r:tZ} (h:ME G e) (j :∀σ,Mon σ.O (Ai G r σ)) (σ:St):Mon σ.O (Ai G (.cons k e r) σ):=
 (h.v σ).bd λp=>(j p.2).bd λq=>.ret
theorem CM {ks:List (Nm×Kd)} {elt it:Ex} {t:List Nm} {cs:fe} (h1:ME G elt) (h2:ME G it) (h3:Hy G cs) (σ:St):Mon σ.O (ev G (.comp ks elt t it cs) σ):=
 (h2.v σ).bd λp=>.opt λvs=>Mon.bd (L:=p.2.O) (mB (λ_ _=>jS) h3.ts h1.v vs ⟨p.2.H,ji ks p.2.V,p.2.O⟩) λq=>.one
theorem br (e:Ex):ME G e:=
 Ex.rec (motive_1:=λe=>ME G e) (motive_2:=λes=>Hy G es) (motive_3:=λr=>∀x σ,Mon σ.O (uj G x r σ)) (motive_4:=λks=>∀σ,Mon σ.O (Ai G ks σ))
  (λv=>⟨λ_=>.ret,λ_=>.opt λ_=>.ret⟩) (λx=>⟨λ_=>.opt λ_=>.ret,λ_=>.opt λ_=>.opt λ_=>.ret⟩) (λx=>⟨λ_=>.opt λ_=>.ret,λ_=>.opt λ_=>.opt λ_=>.ret⟩) ⟨λ_=>.ret,λ_=>.no⟩ ⟨λ_=>.no,λ_=>.no⟩
  (λe a h=>⟨λσ=>(h.v σ).bd λ_=>.opt λ_=>.ret,λσ=>(h.v σ).bd λ_=>.opt λ_=>.opt λ_=>.ret⟩)
  (λe i h k=>⟨λσ=>(h.v σ).bd λp=>(k.v p.2).bd λ_=>.opt λ_=>.ret,λσ=>(h.v σ).bd λp=>(k.v p.2).bd λ_=>.opt λ_=>.opt λ_=>.ret⟩)
  (λe lo hi h1 h2 h3=>⟨λσ=>(h1.v σ).bd λp=>(h2.v p.2).bd λq=>(h3.v q.2).bd λ_=>.opt λ_=>.ret,λ_=>.no⟩) (λo a b h k=>⟨λσ=>(h.v σ).bd λp=>(k.v p.2).bd λ_=>.opt λ_=>.app,λ_=>.no⟩)
  (λa r h k=>⟨λσ=>(h.v σ).bd λp=>(k p.1 p.2).bd λ_=>.ret,λσ=>(h.v σ).bd λp=>k p.1 p.2⟩) (λes h=>⟨h.a,h.at_⟩) (λes h=>⟨h.o,h.ot⟩) (λe h=>⟨λσ=>(h.v σ).bd λ_=>.opt λ_=>.ret,λσ=>(h.t σ).bd λ_=>.ret⟩)
  (λe h=>⟨λσ=>(h.v σ).bd λ_=>.opt λ_=>.ret,λ_=>.no⟩) (λt a b h1 h2 h3=>⟨λσ=>(h1.t σ).bd λp=>.cond (h2.v p.2) (h3.v p.2),λσ=>(h1.t σ).bd λp=>.cond (h2.t p.2) (h3.t p.2)⟩)
  (λes h=>⟨λσ=>(h.e σ).bd λ_=>.one,λ_=>.no⟩) (λes f h=>⟨λσ=>(h.e σ).bd λ_=>.cond .one .one,λ_=>.no⟩) (λks f h=>⟨λσ=>(h σ).bd λ_=>.cond .one .one,λ_=>.no⟩)
  (λf as h k=>⟨λσ=>(h.v σ).bd λp=>(k.e p.2).bd λq=>iY,λσ=>(h.v σ).bd λp=>(k.e p.2).bd λq=>zM iY⟩)
  (λo m as h k=>⟨λσ=>(h.v σ).bd λp=>.opt λf=>(k.e p.2).bd λq=>ka,λσ=>(h.v σ).bd λp=>.opt λf=>(k.e p.2).bd λq=>zM ka⟩) (λks elt t it cs h1 h2 h3=>⟨CM h1 h2 h3,λ_=>.no⟩)
  .nil (λe r h k=>Hy.cons h k) (λ_ _=>.no) (λo e r h k=>yk h k) (λ_=>.ret) (λk e r h j=>yN h j) e
theorem fQ :∀es:fe,Hy G es
 |.nil=>.nil
 |.cons e r=>.cons (br e) (fQ r)
theorem fJ {x k r:AV}:c6 σ.O (vu x k r σ):=.opt λ_=>.alt (λ_=>.opt λ_=>.opt λ_=>.ret) (.opt λ_=>.opt λ_=>.opt λ_=>.ret)
theorem g9 {x r:AV} {a:Nm}:c6 σ.O (setAt G x a r σ):=.opt λq=>.opt λaR=>λr e=>bR e (λe _=>c6.one r e) λe _=>nn e
theorem oC {t:Tg} {v:AV} (σ:St):c6 σ.O (iN G t v σ):=by
 cases t with
 |v x=>exact .ret
 | «at» e a=>exact((br e).v σ).oD λp=>g9
 |ix e i=>exact((br e).v σ).oD λp=>((br i).v p.2).oD λq=>fJ
 |bad=>exact .no
theorem mx {ts:List Tg} :∀{vs:List AV} (σ:St),c6 σ.O (jH G ts vs σ):=by
 induction ts with
 |nil=>exact λ_=>.opt λ_=>.ret
 |cons t ts ih=>
  intro vs σ
  cases vs with
  |nil=>exact .no
  |cons v vs=>exact(oC σ).oD λp=>ih p
theorem Cu {t:Tg} {o:nP} {e:Ex}:c6 σ.O (Rl G t o σ (ev G e)):=by
 cases t with
 |v x=>exact .opt λ_=>((br e).v σ).oD λp=>.opt λ_=>.app
 | «at» e1 a=>exact((br e1).v σ).oD λp=>.opt λx=>((br e).v p.2).oD λq=>.opt λr=>.ua g9
 |ix e1 i=>exact((br e1).v σ).oD λp=>((br i).v p.2).oD λk=>.opt λx=>((br e).v k.2).oD λq=>.opt λr=>.ua fJ
 |bad=>exact .no
theorem wO (s:Sx) :∀σ,Mon σ.O (ex G s σ):=
 Sx.rec (motive_1:=λs=>∀σ,Mon σ.O (ex G s σ)) (motive_2:=λl=>∀σ,Mon σ.O (cG G l σ)) (λe σ=>((br e).v σ).bd λ_=>.cond .ret .no) (λt e σ=>((br e).v σ).bd λp=>(oC p.2).bd λ_=>.ret) (λx e σ=>((br e).v σ).bd λ_=>.st)
  (λts e σ=>((br e).v σ).bd λp=>.opt λvs=>(mx p.2).bd λ_=>.ret) (λt o e σ=>Cu.bd λ_=>.ret) (λt a b h k σ=>((br t).t σ).bd λp=>.cond (h p.2) (k p.2)) (λt b h σ=>nk (br t).t h _ σ)
  (λts tup e b h σ=>((br e).v σ).bd λp=>.opt λvs=>ra (λ_ _=>jS) h vs p.2) (λe σ=>((br e).v σ).bd λ_=>.ret) (λ_=>.ret) (λ_=>.ret) (λe σ=>((br e).t σ).bd λ_=>.cond .ret .no) (λ_=>.no)
  (λ_=>.ret) (λs r h k σ=>(h σ).bd λp=>sY k) s
theorem eT :∀(l:c5) σ,Mon σ.O (cG G l σ)
 |.nil,_=>.ret
 |.cons s r,σ=>(wO s σ).bd λ_=>sY (eT r)
end
structure Cx (S:aY) (n:Nat) where
 fm:Fm
 ks:c4
 F:Addr->Option Obj
 A:Around
 ok:gC S fm
 kd:qm ks fm.env
 ro:Ro (n+1) A
noncomputable def Cx.fz {S:aY} {n:Nat} (c:Cx S n) (F:Addr->Option Obj):Cx S n:={c with F:=F}
section
variable {S:aY} {n:Nat} {α β γ δ:Type}
noncomputable def At (c:Cx S n) (W:Wd) (s:Shared) (o:Option (α×St)) (t:Sem β) (R:Wd->α->β->Prop):Prop:=
 ∀p,o=some p->fN p.2.O->wpAny (MD S) c.A t (bX S W c.F c.fm p.2 s (λW=>R W p.1)) no s
noncomputable abbrev Cx.I (c:Cx S n) (W:Wd) (σ:St) (s:Shared):Prop:=Inv S W c.F c.fm σ s.heap
variable {c:Cx S n} {W:Wd} {s:Shared} {σ:St} {o:Option (α×St)} {t:Sem β} {R:Wd->α->β->Prop} {R':Wd->γ->δ->Prop}
theorem At.seq {f:α×St->Option (γ×St)} {r:γ×St} {Q:β->Shared->Prop} (h:At c W s o t R) (m :∀p,Mon p.2.O (f p)) (e:bd o f=some r) (hz:fN r.2.O)
  (k :∀W1 p b s1,f p=some r->W.Le W1->R W1 p.1 b->c.I W1 p.2 s1->Kp s s1->Q b s1):wpAny (MD S) c.A t Q no s:=
 ar e λp e e'=>Mine.seq (h p e' (m p r e hz)) λW1 b s1 L r I k'=>k W1 p b s1 e L r I k'
theorem At.bd {f:α×St->Option (γ×St)} {k:β->Sem δ} (h:At c W s o t R) (m :∀p,Mon p.2.O (f p)) (q :∀W1 p b s1,W.Le W1->R W1 p.1 b->c.I W1 p.2 s1->At c W1 s1 (f p) (k b) R'):At c W s (Mine.bd o f) (t >>= k) R':=
 λ_ e hz=>wpAny_bind (h.seq m e hz λW1 p b s1 e L r I kp=>jz L kp (q W1 p b s1 L r I _ e hz))
theorem At.opt {x:Option δ} {f:δ->Option (α×St)} (k :∀y,x=some y->At c W s (f y) t R):At c W s (Mine.bd x f) t R:=λp e hz=>ar e λy e e'=>k y e' p e hz
theorem At.cond {b:Bool} {x y:Option (α×St)} (h:b=true->At c W s x t R) (k:b=false->At c W s y t R):At c W s (cond b x y) t R:=λp e hz=>bR e (λe q=>h q p e hz) λe q=>k q p e hz
theorem At.ret {p:α×St} (h:fN p.2.O->wpAny (MD S) c.A t (bX S W c.F c.fm p.2 s (λW=>R W p.1)) no s):At c W s (some p) t R:=λ_ e=>aw e h
theorem At.E6:At c W s none t R:=λ_ e=>nn e
theorem At.map {R2:Wd->γ->β->Prop} {f:α×St->Option (γ×St)} (h:At c W s o t R) (k :∀p r,f p=some r->p.2=r.2/\∀W b,R W p.1 b->R2 W r.1 b):At c W s (Mine.bd o f) t R2:=
 λr e hz=>ar e λp e e'=>have z:=k p r e;wpAny_mono (h p e' (z.1▸hz)) (λb s' q=>z.1▸q.map λW _ r=>z.2 W b r) λ_ _ x=>x
theorem At.eq {t':Sem β} (e:t'=t) (h:At c W s o t R):At c W s o t' R:=e▸h
theorem At.same {o':Option (α×St)} (e:o'=o) (h:At c W s o t R):At c W s o' t R:=e▸h
theorem At.pre {t':Sem β} (g :∀Q,wpAny (MD S) c.A t Q no s->wpAny (MD S) c.A t' Q no s) (h:At c W s o t R):At c W s o t' R:=λp e hz=>g _ (h p e hz)
theorem At.nH {k:Unit->Sem β} {p:Pos} (h:At c W s o (k ()) R):At c W s o (standAt p >>= k) R:=h.pre λ_ q=>wpAny_bind (wpAny_standAt q)
theorem At.hold {vs:List Value} (h:At c W s o t R):At c W s o (holding vs t) R:=h.pre λ_ q=>wpAny_holding q
theorem VR.truth {G:cy} {F:Addr->Option Obj} {fm:Fm} {A:Around} {E:Value->Shared->Prop} {x:AV} {b:Bool} {u:Value} {Q:Bool->Shared->Prop} (GO:bq S G n) (h:bW σ.H x=some b) (hx:VR S W x u) (I:Inv S W F fm σ s.heap)
  (hq :∀s',Inv S W F fm σ s'.heap->Kp s s'->Q b s'):wpAny (MD S) A (truthy u) Q E s:=
 BE h hx I.tob6 GO.sys λ_=>hq _ I ⟨rfl,rfl⟩
noncomputable def SE (S:aY) (G:cy) (n:Nat) (i:Ex):Prop:=∀(c:Cx S n) (e:Expr),mE c.ks i e=true->∀W σ s,c.I W σ s->At c W s (ev G i σ) (eval e c.fm.env) (VR S)
noncomputable def ST (S:aY) (G:cy) (n:Nat) (i:Ex):Prop:=∀(c:Cx S n) (e:Expr),mE c.ks i e=true->∀W σ s,c.I W σ s->At c W s (cZ G i σ) (isTrue e c.fm.env (eval e c.fm.env)) (λ_ b r=>r=b)
noncomputable def Cb (S:aY) (G:cy) (n:Nat) (i:fe):Prop:=∀(c:Cx S n) (e:List Expr),kK c.ks i e=true->∀W σ s pos,c.I W σ s->At c W s (qZ G i σ) (spliced (backTo pos (starEach e c.fm.env))) (cq S)
noncomputable def B9 (S:aY) (G:cy) (n:Nat) (i:fe):Prop:=∀(c:Cx S n) (e:List Expr),kK c.ks i e=true->∀W σ s pos,c.I W σ s->At c W s (rO G i σ) (boolOp pos .And (evalEach e c.fm.env)) (VR S)
noncomputable def QV (S:aY) (G:cy) (n:Nat) (i:fe):Prop:=∀(c:Cx S n) (e:List Expr),kK c.ks i e=true->∀W σ s pos,c.I W σ s->At c W s (Yg G i σ) (boolOp pos .Or (evalEach e c.fm.env)) (VR S)
noncomputable def t6 (S:aY) (G:cy) (n:Nat) (i:fe):Prop:=∀(c:Cx S n) (e:List Expr),kK c.ks i e=true->∀W σ s,c.I W σ s->At c W s (wA G i σ) (allTrue .And e c.fm.env) (λ_ b r=>r=b)
noncomputable def Cc (S:aY) (G:cy) (n:Nat) (i:fe):Prop:=∀(c:Cx S n) (e:List Expr),kK c.ks i e=true->∀W σ s,c.I W σ s->At c W s (Pu G i σ) (allTrue .Or e c.fm.env) (λ_ b r=>r=b)
noncomputable def Qh (S:aY) (G:cy) (n:Nat) (i:kz):Prop:=∀(c:Cx S n) (ops:List CmpOp) (cs:List Expr),mC c.ks i ops cs=true->∀W σ s x v pos,VR S W x v->c.I W σ s->
 At c W s (uj G x i σ) (compareChain pos v ops (markedEach ops cs (evalEach cs c.fm.env))) (λ_ b r=>r=.bool b)/\At c W s (uj G x i σ) (testChain pos v ops (markedEach ops cs (evalEach cs c.fm.env))) (λ_ b r=>r=b)
noncomputable def SK (S:aY) (G:cy) (n:Nat) (i:tZ):Prop:=∀(c:Cx S n) (a:List (Option Expr)) (b:List Expr),mK c.ks i a b=true->∀W σ s pos,c.I W σ s->
 At c W s (Ai G i σ) (evalPairs (pairTrees a b c.fm.env pos)) (λW aR us=>∃ps,Carries (PySem.strKind S.prog S.w) us ps/\fK S W aR ps)
variable {G:cy}
theorem dunder (x:Nm) {l:List Nat} {t:Str} (h:(!bQ (EY x) l)=true) (e:t=⟨l.toArray⟩):(bY x==t)=false:=by
 rw [e,bY,tP]
 exact Bool.not_eq_true' _▸h
theorem lY {x:Nm} (h:readable x=true):(bY x==("__debug__":Str))=false:=dunder x (bf h).1 (by kernel_rfl)
theorem Gl {a:List Nat} {b:Str} (h:bQ a b.cps.toList=true):b=⟨a.toArray⟩:=by
 rw [fC]at h
 obtain⟨⟨l⟩⟩:=b
 rw [eq_of_beq h]
theorem Nt {v:AV} {k:Const} (hc:Nr v k=true) (I:c.I W σ s):At c W s (some (v,σ)) (constValue c.fm.env k) (VR S):=by
 cases k with
 |none=>exact bg hc λ_ _ e=>wG e (.ret λ_=>wpAny_pure (bX.ret I .none))
 |bool b=>exact bg hc λa h e=>wD e (.ret λ_=>eq_of_beq h▸wpAny_pure (bX.ret I (.bool _)))
 |int b=>exact bg hc λa h e=>wF e (.ret λ_=>eq_of_beq h▸wpAny_mkInt (bX.tok I (.int _ _)))
 |str b=>exact bg hc λa h e=>Cp e (.ret λ_=>Gl (bf h).1▸wpAny_mkText (bX.tok I (.str _ _ (Nat.le_trans (Nat.le_of_ble_eq_true (bf h).2) (by decide)))))
 |_=>exact absurd hc Bool.false_ne_true
theorem c_c {v:AV}:SE S G n (.c v):=λc e h W σ s I=>SD h λk _ _ hc=>.eq (eval_Constant ..) (Nt hc I)
theorem Rt:SE S G n .bad:=λ_ _ _ _ _ _ _=>.E6
theorem Yy:SE S G n .no:=λ_ _ h=>(SG h).elim
theorem c_v {x:Nm}:SE S G n (.v x):=λc e h W σ s I=>SI h λpos hr=>.opt λv e=>.ret λ_=>wpAny_Name (I.load c.ok e λv r=>bX.ret I r) (lY hr)
theorem c_g {x:Nm} (GO:bq S G n):SE S G n (.g x):=λc e h W σ s I=>SF h λpos hr hk=>.opt λv e=>.ret λ_=>by
 obtain⟨u,r,w⟩:=GO.glob x _ e W c.F σ.H s.heap I.tob6
 refine Name_function_global c.ok.kf (c.kd x _ hk) ?_ (lY hr)
 rcases w with⟨mg,a,b⟩|⟨mg,mb,a,b,d,d'⟩
 ·exact loadGlobal_global (by rw [c.ok.gl];exact a) b (bX.ret I r)
 ·exact loadGlobal_builtin (by rw [c.ok.gl];exact a) b (by rw [c.ok.bu];exact d) d' (bX.ret I r)
theorem yc {v:Expr} {a:Str} {env:Env} {t:Sem Value} (h:lV v=true):attributeBase v a env t=t:=by
 cases v<;>first|rfl|exact absurd h Bool.false_ne_true
theorem sub_eq {s:Expr} {o i:Value} (h:jj s=true):subscripted s false o i=operate [o,i] (getItem o i):=by
 cases s with
 |Slice l u st p=>cases st<;>exact absurd h Bool.false_ne_true
 |_=>rfl
theorem Ru {o:nP} {a b:Ex} (ha:SE S G n a) (hb:SE S G n b):SE S G n (.bin o a b):=λc e h W σ s I=>Oi h λl r pos h1 h2=>.eq (arm_eval_BinOp ..) ((ha c l h1 W σ s I).bd (λp=>((br b).v _).bd λq=>.opt λx=>.app) λW1 p u s1 L1 r1 I1=>(hb c r h2 W1 _ s1 I1).hold.bd (λq=>.opt λx=>.app) λW2 q v s2 L2 r2 I2=>.nH (.opt λx e=>.ret λhz=>fA (HY e (r1.mono L2) r2 I2.zl hz.l)))
theorem Rr {i:Ex} {a:Nm} (GO:bq S G n) (hi:SE S G n i):SE S G n (.at i a):=λc e h W σ s I=>Lx h λv pos h1 h2=>.eq (arm_eval_Attribute ..) ((At.eq (yc h2) (hi c v h1 W σ s I)).bd (λp=>.opt λr=>.ret) λW1 p u s1 L1 r1 I1=>.nH (.opt λr e=>.ret λhz=>wpAny_bind (wpAny_holding (wpAny_mono (wI e r1 GO.cls I1) (λr s2 p=>wpAny_bind (wpAny_letTemporaryGo (wpAny_pure p))) λ_ _ x=>x))))
theorem RA {x i:Ex} (hx:SE S G n x) (hi:SE S G n i):SE S G n (.ix x i):=λc e h W σ s I=>Ly h λv sl pos h1 h2 h3 p q hz=>Subscript_ ((hx c v h1 W σ s I).seq (λp=>((br i).v _).bd λq=>.opt λx=>.ret) q hz λW1 p u s1 q L1 r1 I1 k1=>(hi c sl h2 W1 _ s1 I1).seq (λq=>.opt λx=>.ret) q hz λW2 p' w s2 q L2 r2 I2 k2=>ar q λr q e=>aw q (Exists.elim (D5 (A:=c.A) (E:=no) e (r1.mono L2) r2 I2.tob6 λv t rv=>(bX.tok (σ:=p'.2) (R:=λW=>VR S W r) I2 rv).lift (L1.trans L2) (k1.trans k2)) λT z=>Exists.elim z λid z=>tail_any z.1 z.2.1 z.2.2 (sub_eq h3)))
theorem zo {i:Ex} (hi:SE S G n i) {l:Option Expr} (h:opt c.ks i l) (I:c.I W σ s):At c W s (ev G i σ) (evalPart l c.fm.env) (VR S):=by
 rcases h with⟨rfl,rfl⟩|⟨l,rfl,h,_⟩
 ·exact .ret λ_=>wpAny_pure (bX.ret I .none)
 ·exact hi c l h W σ s I
theorem YA {x lo hi:Ex} (hx:SE S G n x) (hl:SE S G n lo) (hh:SE S G n hi):SE S G n (.sl x lo hi):=λc e h W σ s I=>SH h λv l u p pos h1 h2 h3 _ q hz=>Subscript_ ((hx c v h1 W σ s I).seq (λp=>((br lo).v _).bd λq=>((br hi).v _).bd λr=>.opt λx=>.ret) q hz λW1 p o s1 q L1 r1 I1 k1=>wpAny_Slice ((zo hl h2 I1).seq (λp=>((br hi).v _).bd λr=>.opt λx=>.ret) q hz λW2 p' lv s2 q L2 r2 I2 k2=>(zo hh h3 I2).seq (λp=>.opt λx=>.ret) q hz λW3 p'' uv s3 q L3 r3 I3 k3=>ar q λr q e=>aw q (wpAny_pure (Exists.elim (PW (A:=c.A) (E:=no) e (r1.mono (L2.trans L3)) (r2.mono L3) r3 I3) λT z=>Exists.elim z λid z=>tail_any (ops:=[.ref s3.heap.objs.size,o]) (z.1 _ _ _ _ _) z.2.1 (wpAny_mono z.2.2 (λ_ _ p=>p.lift ((L1.trans L2).trans L3) ((k1.trans k2).trans k3)) λ_ _ x=>x) rfl))))
theorem RD {i:Ex} (GO:bq S G n) (hi:SE S G n i):SE S G n (.not i):=λc e h W σ s I=>EK h λx pos h1=>.eq (arm_eval_UnaryOp ..) ((hi c x h1 W σ s I).bd (λp=>.opt λx=>.ret) λW1 p u s1 L1 r1 I1=>.nH (.opt λb e=>.ret λ_=>wpAny_holding (not_of (VR.truth GO e r1 I1 λs2 I2 k2=>⟨W1,.refl W1,.bool _,I2,k2⟩))))
theorem RC {i:Ex} (hi:SE S G n i):SE S G n (.neg i):=λc e h W σ s I=>Om h λx pos h1=>.eq (arm_eval_UnaryOp ..) ((hi c x h1 W σ s I).bd (λp=>.opt λx=>.ret) λW1 p u s1 L1 r1 I1=>.nH (.opt λb e=>.ret λ_=>wpAny_holding ((r1.jQ e).kY (P:=λu=>wpAny (MD S) c.A (unaryOp .USub u) (bX S W1 c.F c.fm p.2 s1 (λW=>VR S W (.int (-b)))) no s1) λt=>P.neg_int (bX.tok I1 (.int _ _)))))
theorem D2 {x y:Option (α×St)} {p:Bool×St} {u:Bool} {t t':Sem β} (r:u=p.1) (h:At c W s x t R) (k:At c W s y t' R):At c W s (cond p.1 x y) (if u then t else t') R:=by
 rw [r]
 generalize p.1=b
 cases b
 ·exact k
 ·exact h
theorem Rz {t a b:Ex} (ht:ST S G n t) (ha:SE S G n a) (hb:SE S G n b):SE S G n (.ite t a b):=λc e h W σ s I=>EJ h λt' a' b' pos h1 h2 h3=>.eq (arm_eval_IfExp ..) ((ht c t' h1 W σ s I).bd (λp=>.cond ((br a).v _) ((br b).v _)) λW1 p u s1 L1 r1 I1=>D2 r1 (ha c a' h2 W1 _ s1 I1) (hb c b' h3 W1 _ s1 I1))
theorem RI {es:fe} (hs:Cb S G n es):SE S G n (.tup es):=λc e h W σ s I=>Oo h λelts k pos h1 p q hz=>wpAny_Tuple ((hs c elts h1 W σ s pos I).seq (λp=>.one) q hz λW1 p us s1 q L1 r1 I1 k1=>aw (P:=λp=>fN p.2.O->_/\bX S W c.F c.fm p.2 s (λW=>VR S W p.1) _ _) q (λhz=>⟨r1.length▸dg hz.hd,(bX.new (t:=s1.toks) (R:=λW=>VR S W (.tup p.1)) I1.zl rfl λW' L e=>.tup e hz.hd (r1.mono L)).lift L1 k1⟩) hz)
theorem J0 {vs:List AV} {us:List Value} (r:cq S W vs us) (z:vs.length<=ew) (I:c.I W σ s):bX S W c.F c.fm {σ with O:=vs.length::σ.O} s (λW=>VR S W (.lst vs)) (.ref s.heap.objs.size) {s with heap:=s.heap.push {cls:=.type "list",data:=.seq us.toArray}}:=
 bX.new (t:=s.toks) I.zl rfl λW' L e=>.lst e z (r.mono L)
theorem JZ {ao:AO} {o:Obj} {os:List Nat} (r:OR S W ao o) (I:c.I W σ s):bX S W c.F c.fm {σ with H:=σ.H++[ao],O:=os} s (λW=>VR S W (.a5 σ.H.length)) (.ref s.heap.objs.size) {s with heap:=s.heap.push o}:=
 have J:=I.EX r
 ⟨_,J.2.1,.a5 J.2.2,J.1.zl,rfl,rfl⟩
theorem RB {es:fe} {f:Bool} (hs:Cb S G n es):SE S G n (.lst es f):=λc e h W σ s I=>Ol h λelts pos h1 p q hz=>wpAny_List ((hs c elts h1 W σ s pos I).seq (λp=>.cond .one .one) q hz λW1 p us s1 q L1 r1 I1 k1=>bR q (λq _=>aw (P:=λp=>fN p.2.O->_/\bX S W c.F c.fm p.2 s (λW=>VR S W p.1) _ _) q (λhz=>⟨r1.length▸dg hz.hd,(J0 r1 hz.hd I1).lift L1 k1⟩) hz)
  λq _=>aw (P:=λp=>fN p.2.O->_/\bX S W c.F c.fm p.2 s (λW=>VR S W p.1) _ _) q (λhz=>⟨r1.length▸dg hz.hd,(JZ (.list hz.hd r1) I1).lift L1 k1⟩) hz)
end
section
variable {S:aY} {G:cy} {n:Nat} {c:Cx S n} {W:Wd} {σ:St} {s:Shared}
theorem Nc:Cb S G n .nil:=λc e h W σ s pos I=>by
 rw [iJ h]
 exact .ret λ_=>spliced_nil (bX.ret I .nil)
theorem nh {x:Expr} {xs:List Expr} {env:Env} (h:notStar x=true):starEach (x::xs) env=(false,eval x env)::starEach xs env:=by
 cases x<;>first|rfl|exact absurd h Bool.false_ne_true
theorem Ia {i:Ex} {r:fe} (hi:SE S G n i) (hr:Cb S G n r):Cb S G n (.cons i r):=λc e h W σ s pos I=>gz h λx xs h1 h2 h3 p q hz=>wpAny_items_cons ((hi c x h1 W σ s I).seq (λp=>((fQ r).e _).bd λq=>.ret) q hz λW1 p u s1 q L1 r1 I1 k1=>(hr c xs h2 W1 _ s1 pos I1).seq (λq=>.ret) q hz λW2 p' w s2 q L2 r2 I2 k2=>aw q ⟨W2,L1.trans L2,.cons (r1.mono L2) r2,I2,k1.trans k2⟩) (nh h3)
theorem Nd:SK S G n .nil:=λc a b h W σ s pos I=>by
 rw [(sQ h).1,(sQ h).2]
 exact .ret λ_=>pairTrees_nil_walk (bX.ret I ⟨[],trivial,.nil⟩)
theorem Ib {k:Nm} {i:Ex} {r:tZ} (mr :∀σ,Mon σ.O (Ai G r σ)) (hi:SE S G n i) (hr:SK S G n r):SK S G n (.cons k i r):=λc a b h W σ s pos I=>ze h λkd p a' v b' h1 h2 p q hz=>pairTrees_cons_walk (Constant_str
 ((hi c v h1 W σ {s with toks:=s.toks+1} I).seq (λp=>(mr _).bd λq=>.ret) q hz λW1 p u s1 q L1 r1 I1 k1=>(hr c a' b' h2 W1 _ s1 pos I1).seq (λq=>.ret) q hz λW2 p' w s2 q L2 r2 I2 k2=>aw q
  (Exists.elim r2 λps y=>⟨W2,L1.trans L2,⟨(bY k,u)::ps,⟨strKind_is _ _ _ _,rfl,y.1⟩,.cons (r1.mono L2) y.2⟩,I2,(k1.trans k2).gens,(k1.trans k2).os⟩)))
theorem xo {ks:c4} {r:tZ} {a:List (Option Expr)} {b:List Expr} (h:mK ks r a b=true):a.all (·.isSome)=true/\a.length=b.length:=by
 match r with
 |.nil=>rw [(sQ h).1,(sQ h).2];exact⟨rfl,rfl⟩
 |.cons k i r=>exact ze h λkd p a' v b' h1 h2=>⟨(xo h2).1,congrArg (·+1) (xo h2).2⟩
theorem uJ {r:tZ} {σ:St} {p:List (Nm×AV)×St} (q:Ai G r σ=some p):p.1.map (·.1)=vd r:=by
 match r with
 |.nil=>exact aw q rfl
 |.cons k i r=>exact ar q λx q e1=>ar q λy q e2=>aw q (congrArg (k::·) (uJ e2))
theorem Inv.sW {F:Addr->Option Obj} {fm:Fm} {h:Heap} (I:Inv S W F fm σ h) (GO:bq S G n):(h.objs.size==sysModules)=false:=by
 obtain⟨o,hb⟩:=GO.sys
 have h1:=Heap.lt_size (I.p _ _ (I.base _ _ hb))
 exact Bool.eq_false_iff.mpr λz=>Nat.lt_irrefl _ ((beq_iff_eq.mp z:h.objs.size=sysModules)▸h1)
theorem uE {y7:tZ} {keys:List (Option Expr)} {vals:List Expr} {pos:Pos} {p:List (Nm×AV)×St} {Q:Value->Shared->Prop} (GO:bq S G n) (hk:SK S G n y7) (h1:mK c.ks y7 keys vals=true) (h2:k8 (vd y7)=true) (h3:1<=keys.length) (h4:keys.length<=15)
  (e:Ai G y7 σ=some p) (hz:fN p.2.O) (I:c.I W σ s) (k :∀W1 s1 a o ps,W.Le W1->c.I W1 p.2 s1->Kp s s1->Un W1 c.F c.fm a->s1.heap.get? a=some o->jR S o ps->fK S W1 p.1 ps->(a==sysModules)=false->Q (.ref a) s1) :
  wpAny (MD S) c.A (eval (.Dict keys vals pos) c.fm.env) Q no s:=by
 have m:=xo h1
 refine wpAny_Dict_walk (knd:=PySem.strKind S.prog S.w) m.1 m.2 (λz=>by rw [z]at h3;exact absurd h3 (Nat.not_succ_le_zero _)) h4 ?_
 have u:=I.un
 have I0:Inv S W (gD c.F s.heap.objs.size emptyDict) c.fm σ (s.heap.push emptyDict):=(I.push emptyDict).hold u (Heap.get?_push_size _ rfl)
 refine Mine.seq (s:={s with heap:=s.heap.push emptyDict}) (hk (c.fz (gD c.F s.heap.objs.size emptyDict)) keys vals h1 W σ {s with heap:=s.heap.push emptyDict} pos I0 p e hz) λW1 us s1 L1 r1 I1 k1=>Exists.elim r1 λps y=>?_
 have J:=I1.free u.f (λx d kx l=>u.ne (I.nC kx l))
 refine⟨ps,y.1,C7.at J.2.2,λh' d sb=>?_⟩
 have hn:(ps.map (·.1)).Nodup:=by
  rw [y.2.keys,show p.1.map (λp=>bY p.1)=(p.1.map (·.1)).map bY from(by rw [List.map_map];rfl),uJ e]
  exact List.Pairwise.map _ (λa b ne e=>ne (jB e)) (mY h2)
 rw [merged_nil_of_nodup _ hn]at d
 exact jR.of d λo' g3 d3=>k W1 {s1 with heap:=h',toks:=s1.toks+us.length} _ o' ps L1 (J.1.other c.ok J.2.1 sb) ⟨k1.gens,k1.os⟩ J.2.1 g3 d3 y.2 (I.sW GO)
theorem Ry {y7:tZ} {f:Bool} (GO:bq S G n) (hk:SK S G n y7):SE S G n (.ck y7 f):=λc e h W σ s I=>Oj h λkeys vals pos h1 h2 h3 h4 p q hz=>ar q λp' q e1=>bR q
 (λq _=>aw (P:=λp=>fN p.2.O->wpAny (MD S) c.A (eval (.Dict keys vals pos) c.fm.env) (bX S W c.F c.fm p.2 s λW=>VR S W p.1) no s) q (λhz=>uE GO hk h1 h2 h3 h4 e1 hz.tl I λW1 s1 a o ps L1 I1 k1 u g d rs ns=>have J:=I1.zl.wd u g
  ⟨_,L1.trans J.2,.ck Wd.pL d ns hz.hd (rs.mono J.2),J.1,k1⟩) hz)
 λq _=>aw (P:=λp=>fN p.2.O->wpAny (MD S) c.A (eval (.Dict keys vals pos) c.fm.env) (bX S W c.F c.fm p.2 s λW=>VR S W p.1) no s) q (λhz=>uE GO hk h1 h2 h3 h4 e1 hz.tl I λW1 s1 a o ps L1 I1 k1 u g d rs ns=>have J:=I1.zE (ao:=.dict p'.1) u g (.dict rfl d hz.hd rs)
  ⟨_,L1.trans J.2.1,.a5 J.2.2,J.1.zl,k1⟩) hz
end
section
variable {S:aY} {G:cy} {n:Nat} {α β:Type} {c:Cx S n} {W:Wd} {σ:St} {s:Shared} {R:Wd->α->β->Prop}
theorem Na:B9 S G n .nil:=λ_ _ _ _ _ _ _ _=>.E6
theorem RH:QV S G n .nil:=λ_ _ _ _ _ _ _ _=>.E6
theorem yd {o:Option α}:bd o some=o:=by cases o<;>rfl
theorem nu {pos:Pos} {op:BoolOp} {x y:Sem Value} {r:List (Sem Value)}:boolOp pos op (x::y::r)=(do
  let v<-x
  standAt pos
  let t<-holding [v] (truthy v)
  match op,t with
  |.And,false|.Or,true=>pure v
  |_,_=>boolOp pos op (y::r)):=rfl
theorem At.test {x:AV} {u:Value} {b:Bool} {o:Option (α×St)} {k:Bool->Sem β} (GO:bq S G n) (e:bW σ.H x=some b) (r:VR S W x u) (I:c.I W σ s) (h :∀s2,c.I W σ s2->At c W s2 o (k b) R):At c W s o (holding [u] (truthy u) >>= k) R:=
 λp e' hz=>wpAny_bind (wpAny_holding (VR.truth GO e r I λs2 I2 k2=>jz (.refl W) k2 (h s2 I2 p e' hz)))
theorem M9 {i:Ex} {r:fe} (GO:bq S G n) (hi:SE S G n i) (hr:B9 S G n r):B9 S G n (.cons i r):=λc e h W σ s pos I=>gz h λx xs h1 h2 h3=>by
 cases r with
 |nil=>rw [iJ h2];exact .same yd (hi c x h1 W σ s I)
 |cons i' r'=>
  cases xs with
  |nil=>exact absurd h2 Bool.false_ne_true
  |cons x' xs'=>exact .eq nu ((hi c x h1 W σ s I).bd (λp=>.opt λb=>.cond ((fQ _).a _) .ret) λW1 p u s1 L1 r1 I1=>.nH (.opt λb e=>.test GO e r1 I1 λs2 I2=>by
   cases b
   ·exact .ret λ_=>wpAny_pure (bX.ret I2 r1)
   ·exact hr c _ h2 W1 _ s2 pos I2))
theorem RF {i:Ex} {r:fe} (GO:bq S G n) (hi:SE S G n i) (hr:QV S G n r):QV S G n (.cons i r):=λc e h W σ s pos I=>gz h λx xs h1 h2 h3=>by
 cases r with
 |nil=>rw [iJ h2];exact .same yd (hi c x h1 W σ s I)
 |cons i' r'=>
  cases xs with
  |nil=>exact absurd h2 Bool.false_ne_true
  |cons x' xs'=>exact .eq nu ((hi c x h1 W σ s I).bd (λp=>.opt λb=>.cond .ret ((fQ _).o _)) λW1 p u s1 L1 r1 I1=>.nH (.opt λb e=>.test GO e r1 I1 λs2 I2=>by
   cases b
   ·exact hr c _ h2 W1 _ s2 pos I2
   ·exact .ret λ_=>wpAny_pure (bX.ret I2 r1)))
theorem Rq {es:fe} (hs:B9 S G n es):SE S G n (.and es):=λc e h W σ s I=>EG h λvs pos h1=>.eq (arm_eval_BoolOp ..) (hs c vs h1 W σ s pos I)
theorem Yz {es:fe} (hs:QV S G n es):SE S G n (.or es):=λc e h W σ s I=>Lz h λvs pos h1=>.eq (arm_eval_BoolOp ..) (hs c vs h1 W σ s pos I)
theorem H9:t6 S G n .nil:=λc e h W σ s I=>by
 rw [iJ h]
 exact .ret λ_=>wpAny_pure (bX.ret I rfl)
theorem Nh:Cc S G n .nil:=λc e h W σ s I=>by
 rw [iJ h]
 exact .ret λ_=>wpAny_pure (bX.ret I rfl)
theorem H8 {i:Ex} {r:fe} (hi:ST S G n i) (hr:t6 S G n r):t6 S G n (.cons i r):=λc e h W σ s I=>gz h λx xs h1 h2 h3=>.eq (arm_allTrue_cons ..) ((hi c x h1 W σ s I).bd (λp=>.cond ((fQ r).at_ _) .ret) λW1 p u s1 L1 r1 I1=>by
 obtain⟨b,σ1⟩:=p
 obtain rfl:u=b:=r1
 cases u
 ·exact .ret λ_=>wpAny_pure (bX.ret I1 rfl)
 ·exact hr c xs h2 W1 σ1 s1 I1)
theorem Ng {i:Ex} {r:fe} (hi:ST S G n i) (hr:Cc S G n r):Cc S G n (.cons i r):=λc e h W σ s I=>gz h λx xs h1 h2 h3=>.eq (arm_allTrue_cons ..) ((hi c x h1 W σ s I).bd (λp=>.cond .ret ((fQ r).ot _)) λW1 p u s1 L1 r1 I1=>by
 obtain⟨b,σ1⟩:=p
 obtain rfl:u=b:=r1
 cases u
 ·exact hr c xs h2 W1 σ1 s1 I1
 ·exact .ret λ_=>wpAny_pure (bX.ret I1 rfl))
theorem xq {op:CmpOp} {x:Expr} {t:Sem Value} (h:gN x=true):markedBehindIn op x t=t:=
 markedBehindIn_of_false (by cases x<;>first|rfl|exact absurd h Bool.false_ne_true)
noncomputable def gc (S:aY):Prop:=∀(W:Wd) (F:Addr->Option Obj) (H:List AO) (A:Around) (s:Shared) (o:nR) (x y:AV) (b:Bool) (u v:Value) (Q:Value->Shared->Prop),jU H o x y=some b->VR S W x u->VR S W y v->
 b6 S W F H s.heap->A.units+64<=9900->Q (.bool b) s->wpAny (MD S) A (compareOp (kU o) u v) Q no s
theorem Rw:Qh S G n .nil:=λ_ _ _ _ _ _ _ _ _ _ _ _=>⟨.E6,.E6⟩
theorem Ro.cmp {A:Around} (r:Ro (n+1) A):A.units+64<=9900:=Nat.le_trans (Nat.add_le_add_left (Nat.le_mul_of_pos_right 64 (Nat.succ_pos _)) _) r.un
theorem At.link {o:nR} {x:AV} {v:Value} {x0:Option (AV×St)} {t:Sem Value} {pos:Pos} {K:Value->Sem β} {f:AV×St->Bool->Option (α×St)} (CA:gc S) (rv:VR S W x v) (h:At c W s x0 t (VR S)) (m :∀p b,Mon p.2.O (f p b))
  (q :∀W1 p w s1 b,(∀Q,Q (.bool b) s1->wpAny (MD S) c.A (compareOp (kU o) v w) Q no s1)->VR S W1 p.1 w->c.I W1 p.2 s1->At c W1 s1 (f p b) (K w) R):At c W s (Mine.bd x0 λp=>Mine.bd (jU p.2.H o x p.1) λb=>f p b) (do let w<-holding [v] t;standAt pos;K w) R:=
 h.hold.bd (λp=>.opt λb=>m p b) λW1 p w s1 L1 r1 I1=>.nH (.opt λb e=>q W1 p w s1 b (λQ z=>CA W1 c.F _ c.A s1 o _ _ _ _ _ _ e (rv.mono L1) r1 I1.tob6 c.ro.cmp z) r1 I1)
theorem vj {op op':CmpOp} {ops':List CmpOp} {y x':Expr} {xs:List Expr} {env:Env} :∃t ts,markedEach (op'::ops') (x'::xs) (evalEach (x'::xs) env)=t::ts/\markedEach (op::op'::ops') (y::x'::xs) (evalEach (y::x'::xs) env)=eval y env::t::ts:=by
 cases ops'<;>cases xs<;>exact⟨_,_,rfl,rfl⟩
theorem Rv {o:nR} {i:Ex} {r:kz} (CA:gc S) (hi:SE S G n i) (mr :∀x σ,Mon σ.O (uj G x r σ)) (hr:Qh S G n r):Qh S G n (.cons o i r):=λc ops cs h W σ s x v pos rv I=>by
 revert hr mr
 refine JK h (λy h1 h2 _ _=>?_) λy o' i' r' op' ops' x' xs h1 h2 h4 mr hr=>?_
 ·show At c W s _ (compareChain pos v [kU o] [markedBehindIn (kU o) y (eval y c.fm.env)]) _/\At c W s _ (testChain pos v [kU o] [markedBehindIn (kU o) y (eval y c.fm.env)]) _
  rw [xq h2]
  exact⟨.link CA rv (hi c y h1 W σ s I) (λ_ _=>.ret) λW1 p w s1 b k r1 I1=>.ret λ_=>fA (k _ (bX.ret I1 rfl)),.link CA rv (hi c y h1 W σ s I) (λ_ _=>.ret) λW1 p w s1 b k r1 I1=>.ret λ_=>wpAny_bind (fA (k _ (wpAny_holding (wpAny_truthy_bool (bX.ret I1 rfl)))))⟩
 ·obtain⟨t,ts,ht,hm⟩:=vj (op:=kU o) (op':=op') (ops':=ops') (y:=y) (x':=x') (xs:=xs) (env:=c.fm.env)
  have hr:=λW σ s x v rv I=>hr c _ _ h4 W σ s x v pos rv I
  rw [ht]at hr
  rw [hm]
  exact⟨.link CA rv (hi c y h1 W σ s I) (λp _=>.cond (mr _ _) .ret) λW1 p w s1 b k r1 I1 q e hz=>wpAny_bind (wpAny_holding (k _ (wpAny_bind (wpAny_release (wpAny_bind (wpAny_holding (wpAny_truthy_bool (by
    cases b
    ·exact aw e (wpAny_pure (bX.ret I1 rfl))
    ·exact(hr W1 _ s1 _ w r1 I1).1 q e hz)))))))),.link CA rv (hi c y h1 W σ s I) (λp _=>.cond (mr _ _) .ret) λW1 p w s1 b k r1 I1 q e hz=>wpAny_bind (wpAny_holding (k _ (wpAny_bind (wpAny_release (wpAny_bind (wpAny_holding (wpAny_truthy_bool (by
    cases b
    ·exact aw e (wpAny_pure (bX.ret I1 rfl))
    ·exact(hr W1 _ s1 _ w r1 I1).2 q e hz))))))))⟩
theorem Rx {a:Ex} {r:kz} (ha:SE S G n a) (mr :∀x σ,Mon σ.O (uj G x r σ)) (hr:Qh S G n r):SE S G n (.cmp a r):=λc e h W σ s I=>EI h λl ops cs pos h1 h2=>.eq (arm_eval_Compare ..) ((ha c l h1 W σ s I).bd (λp=>(mr _ _).bd λq=>.ret) λW1 p w s1 L1 r1 I1=>(hr c ops cs h2 W1 _ s1 _ w pos r1 I1).1.map λp r e=>aw (P:=λr:AV×St=>p.2=r.2/\∀W b,b=.bool p.1->VR S W r.1 b) e ⟨rfl,λ_ _ e=>e▸.bool _⟩)
theorem Xc {a:Ex} {r:kz} (ha:SE S G n a) (mr :∀x σ,Mon σ.O (uj G x r σ)) (hr:Qh S G n r):ST S G n (.cmp a r):=λc e h W σ s I=>EI h λl ops cs pos h1 h2=>.eq (arm_isTrue_Compare ..) ((ha c l h1 W σ s I).bd (λp=>mr _ _) λW1 p w s1 L1 r1 I1=>(hr c ops cs h2 W1 _ s1 _ w pos r1 I1).2)
theorem Xe {i:Ex} (hi:ST S G n i):ST S G n (.not i):=λc e h W σ s I=>EK h λx pos h1=>.eq (arm_isTrue_UnaryOp ..) ((hi c x h1 W σ s I).bd (λp=>.ret) λW1 p u s1 L1 r1 I1=>.ret λ_=>wpAny_pure (bX.ret I1 (congrArg _ r1)))
theorem Xb {es:fe} (hs:t6 S G n es):ST S G n (.and es):=λc e h W σ s I=>EG h λvs pos h1=>.eq (arm_isTrue_BoolOp ..) (hs c vs h1 W σ s I)
theorem ZR {es:fe} (hs:Cc S G n es):ST S G n (.or es):=λc e h W σ s I=>Lz h λvs pos h1=>.eq (arm_isTrue_BoolOp ..) (hs c vs h1 W σ s I)
theorem Xd {t a b:Ex} (ht:ST S G n t) (ha:ST S G n a) (hb:ST S G n b):ST S G n (.ite t a b):=λc e h W σ s I=>EJ h λt' a' b' pos h1 h2 h3=>.eq (arm_isTrue_IfExp ..) ((ht c t' h1 W σ s I).bd (λp=>.cond ((br a).t _) ((br b).t _)) λW1 p u s1 L1 r1 I1=>D2 r1 (ha c a' h2 W1 _ s1 I1) (hb c b' h3 W1 _ s1 I1))
theorem qc {i:Ex} (GO:bq S G n) (hi:SE S G n i) (hs :∀ks e,mE ks i e=true->∀env whole,isTrue e env whole=(do let v<-whole;standAt e.pos;holding [v] (truthy v)))
  (ht :∀σ p,cZ G i σ=some p->∃v,ev G i σ=some (v,p.2)/\bW p.2.H v=some p.1):ST S G n i:=λc e h W σ s I p q hz=>Exists.elim (ht σ p q) λv z=>isTrue_plain (Mine.seq (hi c e h W σ s I _ z.1 hz) λW1 u s1 L1 r1 I1 k1=>VR.truth GO z.2 r1 I1 λs2 I2 k2=>
 ⟨W1,L1,rfl,I2,k1.trans k2⟩) (hs _ _ h _ _)
theorem jD {i:Ex} (h :∀σ,cZ G i σ=none):ST S G n i:=λ_ _ _ _ σ _ _ p e=>nn ((h σ).symm.trans e)
end
section
variable {S:aY} {G:cy} {n:Nat} {W W':Wd} {F:Addr->Option Obj} {fm:Fm} {σ:St} {s:Shared} {A:Around} {E:Value->Shared->Prop}
noncomputable def MR (S:aY) (W:Wd) (m:Sum AV (AV×Nm)) (f:Value) (vs:List Value):Prop:=match m with
 |.inl v=>(VR S W v f/\vs=[])\/(∃g x u,v=.bD g x/\VR S W x u/\f=.ref (S.fa g)/\vs=[u])
 |.inr p=>(∃l o t,p.1=.str l/\jK p.2=some o/\l.length<=ew/\f=.builtin (pZ o)/\vs=[.str ⟨l.toArray⟩ t])\/(∃k o a,p.1=.a5 k/\lR p.2=some o/\W.ρ[k]?=some a/\f=.builtin (sO o)/\vs=[.ref a])
theorem MR.mono {m:Sum AV (AV×Nm)} {f:Value} {vs:List Value} (L:W.Le W') (h:MR S W m f vs):MR S W' m f vs:=by
 cases m with
 |inl v=>exact h.imp (λz=>⟨z.1.mono L,z.2⟩) (.imp λg=>.imp λx=>.imp λu z=>⟨z.1,z.2.1.mono L,z.2.2⟩)
 |inr p=>exact h.imp id (.imp λk=>.imp λo=>.imp λa z=>⟨z.1,z.2.1,L.get z.2.2.1,z.2.2.2⟩)
theorem xt {C x:Addr} {ox:Obj} {od:Option Obj} {name:Str} {pl:Sem Bool} {Q:Value×List Value->Shared->Prop} (X:S.K.In s.heap) (I:InstAt s.heap x ox C od)
  (hga:findIn S.K (.ref C) "__getattribute__" = some (some (.builtin "object.__getattribute__"))) (hk:findIn S.K (.ref C) "__getattr__" = some none)
  (hf:findIn S.K (.ref C) name=some none) (h:wpAny (MD S) A (getAttr (.ref x) name) (λv s'=>Q (v,[]) s') E s) :
  wpAny (MD S) A (getMethod (.ref x) name pl) Q E s:=by
 have hcan:=PySem.F.canon_object_ga
 unfold getMethod specialOf
 refine wpAny_bind (wpAny_bind (I.type.here ((looks_findIn X hga).here ?_)))
 dsimp only
 rw [hcan,if_neg (by decide)]
 refine wpAny_bind (wpAny_bind (I.type.here ((looks_findIn X hk).here ?_)))
 refine wpAny_bind (wpAny_bind (I.type.here ((looks_findIn X hf).here ?_)))
 exact wpAny_bind (wpAny_mono h (λv s' q=>wpAny_pure q) λ_ _ z=>z)
theorem Gm {m:Nm} {o:SO} {x:Str} {t:Tok} {pl:Sem Bool} {Q:Value×List Value->Shared->Prop} (h:jK m=some o) (q:Q (.builtin (pZ o),[.str x t]) s):wpAny (MD S) A (getMethod (.str x t) (bY m) pl) Q E s:=Gk h▸KC q
theorem EE {m:Nm} {o:LO} {a:Addr} {items:Array Value} {n:Nat} {pl:Sem Bool} {Q:Value×List Value->Shared->Prop} (h:lR m=some o) (g:s.heap.get? a=some {cls:=.type "list",data:=.seq items n}) (q:Q (.builtin (sO o),[.ref a]) s):wpAny (MD S) A (getMethod (.ref a) (bY m) pl) Q E s:=ED h▸JI g q
theorem EU {x:AV} {m:Nm} {f:Sum AV (AV×Nm)} {o:Value} {pl:Sem Bool} (h:gS G σ.H x m=some f) (hx:VR S W x o) (GO:bq S G n) (I:Inv S W F fm σ s.heap) :
  wpAny (MD S) A (getMethod o (bY m) pl) (bX S W F fm σ s (λW p=>MR S W f p.1 p.2)) no s:=
 b7 h (λq h e=>ar h λaR h e'=>(hx.qp e).yW I.tob6 e' λx d od ps r1 g dd rs z J hx=>have C:=GO.cls q.1
   EV (P:=λf=>wpAny (MD S) A (getMethod (.ref x) (bY m) pl) (bX S W F fm σ s (λW p=>MR S W f p.1 p.2)) no s) h
    (λg hm hl=>method_fn I.K J C.ga C.gt (C.bD m g hm).1 (C.bD m g hm).2 (show(PySem.W.lookIn (bY m) od).map (·.isSome)=some false by rw [dd.lookIn,rs.sN hl];rfl) (bX.ret I (.inr ⟨g,_,_,rfl,hx,rfl,rfl⟩)))
    λv hm hc hl=>xt I.K J C.ga C.gt (C.E6 m hm hc) (wpAny_mono (wI (G:=G) (x:=.inst q.1 q.2) (aA rfl (aA e' ((Ct hm hc).trans hl))) hx GO.cls I) (λu s' p=>p.map (R':=λW (p:Value×List Value)=>MR S W (.inl v) p.1 p.2) (b:=(u,[])) λ_ _ r=>.inl ⟨r,rfl⟩) λ_ _ x=>x)) λh=>
 b7 h (λl h e=>ar h λop h e'=>(hx.gU e).gO λt z=>aw h (Gm e' (bX.ret I (.inl ⟨l,op,t,rfl,e',z,rfl,rfl⟩)))) λh=>
 ar h λk h e=>ar h λop h e'=>ar h λvs h e2=>(hx.eZ e).A4 I.tob6 e2 λa items j r g _ _ _=>aw h (EE e' g (bX.ret I (.inr ⟨k,op,a,rfl,e',r,rfl,rfl⟩)))
theorem CE {q:AV×Nm} {fv:Value} {first:List Value} {as:List AV} {vs:List Value} {p:AV×St} (h:CC q as σ=some p) (hf:MR S W (.inr q) fv first) (rs:cq S W as vs) (ok:gC S fm) (I:Inv S W F fm σ s.heap) (hz:fN p.2.O) :
  wpAny (MD S) A (call fv (first++vs)) (bX S W F fm p.2 s (VP S p.1)) no s:=by
 obtain⟨v,m⟩:=q
 revert hz
 rcases hf with⟨l,o,t,rfl,e,z,rfl,rfl⟩|⟨k,o,a,rfl,e,r,rfl,rfl⟩
 ·exact ar (h:bd (jJ σ.H m l as) _=_) λq h e'=>aw h λhz=>wpAny_mono (Gi e' e z rs I hz.l) (λ_ _ p=>p.zl) λ_ _ x=>x
 ·exact ar (h:bd (fb σ.H k) _=_) λxs h e1=>ar h λq h e2=>aw h λhz=>Exists.elim (I.hs k a _ r (pA e1)) λob g=>(OR.listE (P:=λob=>s.heap.get? a=some ob->_) g.2 λitems j z rl g=>wpAny_mono (JH e2 e r g rl.size z rl rs ok I hz.l) (λ_ _ p=>p.zl) λ_ _ x=>x) g.1
theorem CF {f:Sum AV (AV×Nm)} {fv:Value} {first:List Value} {as:List AV} {vs:List Value} {p:AV×St} (GO:bq S G n) (h:iX G f as σ=some p) (hf:MR S W f fv first) (rs:cq S W as vs) (ok:gC S fm) (ro:Ro (n+1) A)
  (I:Inv S W F fm σ s.heap) (hz:fN p.2.O):wpAny (MD S) A (call fv (first++vs)) (bX S W F fm p.2 s (VP S p.1)) no s:=by
 cases f with
 |inr q=>exact CE h hf rs ok I hz
 |inl v=>
  revert hz
  rcases hf with⟨hv,rfl⟩|⟨g,x,u,rfl,r,rfl,rfl⟩
  ·exact λhz=>ug GO h hv rs ok ro I hz
  ·have h:m7 (G.call g (x::as) σ.H) σ some=some p:=h
   exact oj h λq v e e'=>aw e λhz=>wpAny_call (called GO e' (.cons r rs) ok (ro.mono (Nat.le_succ n)) I hz.l)
theorem lu {v:AV} {as:List AV} {p:AV×St} (h:fG G v as σ=some p):rU v=true:=
 oG (P:=λv _=>rU v=true) h (λ_ _ _=>rfl) (λ_ _ _ _=>rfl) (λ_ _ _ _=>rfl) λ_ _ _=>rfl
theorem Ea {f:Sum AV (AV×Nm)} {fv:Value} {first:List Value} {as:List AV} {r:AV×St} (GO:bq S G n) (hf:MR S W f fv first) (hc:iX G f as σ=some r):Keeps S W fv:=by
 cases f with
 |inl v=>
  rcases hf with⟨hv,_⟩|⟨g,x,u,_,_,rfl,_⟩
  ·exact y6 GO hv (lu (G:=G) (σ:=σ) hc)
  ·exact λh q=>keeps_K (GO.kf _).1 h q.1
 |inr p=>rcases hf with⟨l,o,t,_,_,_,rfl,_⟩|⟨k,o,a,_,_,_,rfl,_⟩<;>exact Eb
theorem la {ks:c4} {r:fe} {es:List Expr} {pos:Pos} {env:Env} (h:kK ks r es=true):(backTo pos (starEach es env)).any (·.1)=false:=by
 match r with
 |.nil=>rw [iJ h];rfl
 |.cons i r=>
  refine gz h λx xs h1 h2 h3=>?_
  rw [nh h3]
  exact la (pos:=pos) h2
theorem HS {M:Model} {ks:c4} {r:fe} {es:List Expr} {pos:Pos} {env:Env} {f:Value} {Q:Args->Shared->Prop} (h:kK ks r es=true)
  (q:wpAny M A (spliced (backTo pos (starEach es env))) (λvs s'=>Q ⟨vs,[]⟩ s') E s):wpAny M A (evalArgs f true (backTo pos (starEach es env)) []) Q E s:=by
 cases r with
 |nil=>
  obtain rfl:=iJ h
  unfold evalArgs
  show wpAny M A (spliced [] >>= _) Q E s
  refine wpAny_bind (wpAny_mono q (λvs s' h'=>?_) λ_ _ x=>x)
  refine wpAny_holding ?_
  exact wpAny_bind (wpAny_pure (wpAny_bind (wpAny_pure (wpAny_pure h'))))
 |cons i r=>
  revert q
  refine gz h λx xs h1 h2 h3 q=>?_
  rw [nh h3]at q ⊢
  exact evalArgs_plain q
theorem NJ {ks:c4} {as:fe} {args:List Expr} {pos:Pos} {env:Env} (h2:kK ks as args=true) (h5:args.length<=20):methodCallForm (args.length+0) (backTo pos (starEach args env)) []=true:=by
 unfold methodCallForm
 have:(backTo pos (starEach args env)).all (λx=>!x.1)=true:=by
  have:=la (pos:=pos) (env:=env) h2
  rw [List.any_eq_false]at this
  rw [List.all_eq_true]
  intro y hy
  have:=this y hy
  simpa using this
 rw [this]
 simp;lia
theorem JV {v:Expr} {env:Env} {apos pos:Pos} (h4:apos.endLine=pos.line):methodCallPos true v env apos pos=pure pos:=by
 unfold methodCallPos
 rw [h4];simp
theorem Ih {g:Expr} {args:List Expr} {pos:Pos} {env:Env} (h:notAttr g=true):eval (.Call g args [] pos) env=(do callWith pos (<-eval g env) [] (backTo pos (starEach args env)) []):=by
 cases g<;>first|rfl|exact absurd h Bool.false_ne_true
end
section
variable {S:aY} {G:cy} {n:Nat} {α:Type} {c:Cx S n} {W:Wd} {σ:St} {s:Shared}
theorem At.args {r:fe} {es:List Expr} {pos pos':Pos} {f:Value} {first:List Value} {g:List AV×St->Option (α×St)} {R:Wd->α->Value->Prop} (hs:Cb S G n r) (h:kK c.ks r es=true) (m :∀p,Mon p.2.O (g p)) (I:c.I W σ s) (hk :∀p q,g p=some q->Keeps S W f)
  (k :∀W1 p vs s1,W.Le W1->cq S W1 p.1 vs->c.I W1 p.2 s1->At c W1 s1 (g p) (call f (first++vs)) R):At c W s (Mine.bd (qZ G r σ) g) (callWith pos' f first (backTo pos (starEach es c.fm.env)) []) R:=λq e hz=>ar e λp e e'=>
 callWith_of (P:=λh=>S.K.In h/\∀a o,W.P a=some o->h.get? a=some o) (by rw [la h];rfl) (hk p q e) (HS h (Mine.seq (hs c es h W σ s pos I p e' (m p q e hz)) λW1 vs s1 L1 r1 I1 k1=>⟨⟨I1.K,λa o e=>I1.p a o (L1.P a o e)⟩,jz L1 k1 (k W1 p vs s1 L1 r1 I1 q e hz)⟩))
theorem CB {f:Ex} {as:fe} (GO:bq S G n) (hf:SE S G n f) (hs:Cb S G n as):SE S G n (.call f as):=λc e h W σ s I=>zc h λg args pos h1 h2 h3=>.eq (Ih h3) ((hf c g h1 W σ s I).bd (λp=>((fQ as).e _).bd λq=>iY) λW1 p w s1 L1 r1 I1=>.args hs h2 (λq=>iY) I1 (λq r e=>y6 GO r1 (lu e)) λW2 q us s2 L2 r2 I2 r e hz=>ug GO e (r1.mono L2) r2 c.ok c.ro I2 hz)
theorem At.aq {v:Expr} {m:Nm} {apos pos:Pos} {w:Value} {ks:c4} {as:fe} {args:List Expr} {o:Option (α×St)} {R:Wd->α->Value->Prop} {R1:Wd->Value×List Value->Prop} (h2:kK ks as args=true) (h4:apos.endLine=pos.line) (h5:args.length<=20)
  (p :∀pl,wpAny (MD S) c.A (getMethod w (bY m) pl) (bX S W c.F c.fm σ s R1) no s) (k :∀W1 fx s1,W.Le W1->R1 W1 fx->c.I W1 σ s1->At c W1 s1 o (callWith pos fx.1 fx.2 (backTo pos (starEach args c.fm.env)) []) R) :
  At c W s o (methodCall v (bY m) apos pos c.fm.env w (args.length+0) (backTo pos (starEach args c.fm.env)) []) R:=λq e hz=>by
 unfold methodCall
 rw [NJ h2 h5]
 refine wpAny_bind (wpAny_holding (Mine.seq (p _) λW1 fx s1 L1 r1 I1 k1=>?_))
 obtain⟨fv,first⟩:=fx
 dsimp only
 rw [JV h4]
 exact wpAny_bind (wpAny_pure (jz L1 k1 (k W1 (fv,first) s1 L1 r1 I1 q e hz)))
theorem yh {o:Ex} {m:Nm} {as:fe} (GO:bq S G n) (ho:SE S G n o) (hs:Cb S G n as):SE S G n (.aq o m as):=λc e h W σ s I=>vh h λv apos args pos h1 h2 h3 h4 h5=>.eq (arm_eval_Call ..) ((At.eq (yc h3) (ho c v h1 W σ s I)).bd (λp=>.opt λf=>((fQ as).e _).bd λq=>ka) λW1 p w s1 L1 r1 I1=>.nH (.opt λf e=>.aq h2 h4 h5 (λpl=>EU e r1 GO I1) λW2 fx s2 L2 r2 I2=>.args hs h2 (λq=>ka) I2 (λq r e=>Ea GO r2 e) λW3 q us s3 L3 r3 I3 r e hz=>CF GO e (r2.mono L3) r3 c.ok c.ro I3 hz))
end
noncomputable def ij:List String:=["list_iterator","tuple_iterator","str_iterator","str_ascii_iterator","range_iterator"]
structure wm (S:aY) (W:Wd) (HC:List AO->Prop) (xs:List AV) (I:Addr) (St:Nat->Heap->Prop):Prop where
 obj :∀i h,St i h->∃o T,h.get? I=some o/\o.cls=.type T/\T∈ij
 frame :∀i (h h':Heap),St i h->(∀o,h.get? I=some o->h'.get? I=some o)->St i h'
 item :∀(W':Wd) (F:Addr->Option Obj) (H:List AO) (A:Around) (s:Shared) (i:Nat) (Q:Option Value->Shared->Prop),W.Le W'->b6 S W' F H s.heap->HC H->A.handled=none->St i s.heap->i<xs.length->
  (∀v h' tk,VR S W' (xs.getD i .none) v->St (i+1) h'->Heap.ExtBut I s.heap h'->Q (some v) {s with heap:=h',toks:=tk})->wpAny (MD S) A (pyNext (.ref I)) Q no s
 done :∀(W':Wd) (F:Addr->Option Obj) (H:List AO) (A:Around) (s:Shared) (Q:Option Value->Shared->Prop),W.Le W'->b6 S W' F H s.heap->HC H->A.handled=none->St xs.length s.heap->
  (∀h' tk,Heap.ExtBut I s.heap h'->Q none {s with heap:=h',toks:=tk})->wpAny (MD S) A (pyNext (.ref I)) Q no s
 self :∀i (A:Around) (s:Shared) (Q:Value->Shared->Prop),St i s.heap->Q (.ref I) s->wpAny (MD S) A (pyIter (.ref I)) Q no s
section
variable {S:aY} {G:cy} {n:Nat} {W W':Wd} {F:Addr->Option Obj} {fm:Fm} {σ:St} {s:Shared} {A:Around} {E:Value->Shared->Prop} {h h':Heap}
theorem Ds {I:Addr} {o:Obj} {T:String} {tg:Expr} {v:Value} {Q:Unit->Shared->Prop} (e:s.heap.get? I=some o) (hc:o.cls=.type T) (hT:T∈ij) (q:Q () s) :
  wpAny (MD S) A (letOwnedTupleGo tg (.ref I) v) Q E s:=by
 have hn:(["enumerate","zip","dict_itemiterator","dict_reverseitemiterator","odict_iterator","itertools.zip_longest","itertools.pairwise"]:List String).contains T=false:=by
  simp only [ij,List.mem_cons,List.not_mem_nil,or_false]at hT
  rcases hT with rfl|rfl|rfl|rfl|rfl<;>decide +kernel
 obtain⟨oc,od,dt,sl⟩:=o
 dsimp only at hc
 subst hc
 have step :∀a:Addr,wpAny (MD S) A (do
   let o<-load I
   match o.cls,o.data with
   |.type n,.fields vs=>
    if(["enumerate","zip","dict_itemiterator","dict_reverseitemiterator","odict_iterator","itertools.zip_longest","itertools.pairwise"]:List String).contains n&&vs[0]?==some (rawInt a)then
     rule "for.unpacks-the-owned-tuple"
     updateField I 0 .none
   |_,_=>pure ()) Q E s:=λa=>by
  refine wpAny_bind (wpAny_load e ?_)
  cases dt<;>first|exact wpAny_pure q|skip
  dsimp only
  rw [hn]
  exact wpAny_pure q
 cases tg<;>first|exact wpAny_pure q|skip
 ·cases v<;>first|exact wpAny_pure q|exact step _
 ·cases v<;>first|exact wpAny_pure q|exact step _
theorem wm.go {HC:List AO->Prop} {xs:List AV} {I:Addr} {St:Nat->Heap->Prop} {i:Nat} {tg:Expr} {v:Value} {Q:Unit->Shared->Prop} (It:wm S W HC xs I St) (st:St i s.heap) (q:Q () s):wpAny (MD S) A (letOwnedTupleGo tg (.ref I) v) Q no s:=
 Exists.elim (It.obj i _ st) λo z=>Exists.elim z λT z=>Ds z.1 z.2.1 z.2.2 q
theorem o6 {T:String} {h:Heap} {I:Addr} {P:Obj->Prop} (m:T∈ij) (q :∃o,h.get? I=some o/\o.cls=.type T/\P o) :∃o T,h.get? I=some o/\o.cls=.type T/\T∈ij:=Exists.elim q λo z=>⟨o,T,z.1,z.2.1,m⟩
theorem D1 {vs:List AV} {items:Array Value} (rs:cq S W vs items.toList):items[vs.length]?=none:=Array.getElem?_eq_none (Nat.le_of_eq rs.size)
theorem wm.list {vs:List AV} {ax I:Addr} (HC:List AO->Prop)
  (hl :∀(W':Wd) (F:Addr->Option Obj) (H:List AO) (h:Heap),W.Le W'->b6 S W' F H h->HC H->∃items,h.IsList ax items/\cq S W' vs items.toList) :
  wm S W HC vs I (λi h=>h.IsListIter I ax i) where
 obj:=λi h q=>o6 (.head _) q
 frame:=λi h h' q k=>q.at k
 item:=λW' F H A s i Q L J hc hh q hi k=>Exists.elim (hl W' F H s.heap L J hc) λitems z=>Exists.elim (z.2.get hi) λv y=>wpAny_pyNext_list_item q z.1 (Array.getElem?_toList.symm.trans y.1) λh' q' sb=>k v h' s.toks y.2 q' sb.extBut
 done:=λW' F H A s Q L J hc hh q k=>Exists.elim (hl W' F H s.heap L J hc) λitems z=>wpAny_pyNext_list_end hh q z.1 (D1 z.2) λh' sb=>k h' s.toks sb
 self:=λi A s Q q k=>wpAny_pyIter_listiter q k
theorem wm.tuple {vs:List AV} {ax I:Addr}
  (hl :∀(W':Wd) (F:Addr->Option Obj) (H:List AO) (h:Heap),W.Le W'->b6 S W' F H h->∃items,h.IsTuple ax items/\cq S W' vs items.toList) :
  wm S W (λ_=>True) vs I (λi h=>h.IsTupleIter I ax i) where
 obj:=λi h q=>o6 (.tail _ (.head _)) q
 frame:=λi h h' q k=>q.at k
 item:=λW' F H A s i Q L J hc hh q hi k=>Exists.elim (hl W' F H s.heap L J) λitems z=>Exists.elim (z.2.get hi) λv y=>wpAny_pyNext_tuple_item q z.1 (Array.getElem?_toList.symm.trans y.1) λh' q' sb=>k v h' s.toks y.2 q' sb.extBut
 done:=λW' F H A s Q L J hc hh q k=>Exists.elim (hl W' F H s.heap L J) λitems z=>wpAny_pyNext_tuple_end hh q z.1 (D1 z.2) λh' sb=>k h' s.toks sb
 self:=λi A s Q q k=>wpAny_pyIter_tupleiter q k
theorem wm.range {k:Nat} {I:Addr}:wm S W (λ_=>True) ((List.range k).map λ(i:Nat)=>.int i) I (λi h=>IsRangeIter h I (i:Int) ((k:Int)-(i:Int)) 1) where
 obj:=λi h q=>⟨_,_,q,rfl,.tail _ (.tail _ (.tail _ (.tail _ (.head _))))⟩
 frame:=λi h h' q k=>k _ q
 item:=λW' F H A s i Q L J hc hh q hi kk=>by
  have hi':i<k:=by simpa using hi
  refine wpAny_pyNext_range_item q (Int.sub_pos_of_lt (Int.ofNat_lt.mpr hi')) λh' q' sb=>kk _ h' _ ?_ ?_ sb.extBut
  ·have:((List.range k).map λ(i:Nat)=>AV.int i).getD i .none=.int i:=by simp [hi']
   rw [this];exact .int _ _
  ·have e2:(k:Int)-((i+1:Nat):Int)=(k:Int)-(i:Int)-1:=by lia
   rw [e2];exact q'
 done:=λW' F H A s Q L J hc hh q kk=>by
  rw [List.length_map,List.length_range]at q
  exact wpAny_pyNext_range_end hh q (Int.le_of_eq (Int.sub_self _)) λh' sb=>kk h' s.toks sb
 self:=λi A s Q q k=>wpAny_pyIter_rangeiter q k
theorem wm.str {str:List Nat} {t:Tok} {I:Addr} (T:String) (hT:T = "str_ascii_iterator"\/T = "str_iterator"):wm S W (λ_=>True) (str.map λc=>.str [c]) I (λi h=>h.IsStrIter I T ⟨str.toArray⟩ t i) where
 obj:=λi h q=>o6 (by rcases hT with rfl|rfl<;>decide) q
 frame:=λi h h' q k=>Exists.elim q λo r=>⟨o,k o r.1,r.2⟩
 item:=λW' F H A s i Q L J hc hh q hi kk=>by
  have hi':i<str.length:=by simpa using hi
  have hr:VR S W' ((str.map λc=>AV.str [c]).getD i .none) (.str ⟨#[str[i]]⟩ s.toks):=by
   have:(str.map λc=>AV.str [c]).getD i .none=.str [str[i]]:=by simp [hi']
   rw [this];exact .str [_] _ tc
  rcases hT with rfl|rfl
  ·exact wpAny_pyNext_ascii_item q (c:=str[i]) (by simp [hi']) λh' q' sb=>kk _ h' _ hr q' sb.extBut
  ·exact wpAny_pyNext_wide_item q (c:=str[i]) (by simp [hi']) λh' q' sb=>kk _ h' _ hr q' sb.extBut
 done:=λW' F H A s Q L J hc hh q kk=>by
  rw [List.length_map]at q
  rcases hT with rfl|rfl
  ·exact wpAny_pyNext_ascii_end hh q (by simp) λh' sb=>kk h' s.toks sb
  ·exact wpAny_pyNext_wide_end hh q (by simp) λh' sb=>kk h' s.toks sb
 self:=λi A s Q q k=>by
  rcases hT with rfl|rfl
  ·exact wpAny_pyIter_striter_ascii q k
  ·exact wpAny_pyIter_striter_wide q k
theorem nG {m:Nat} (z:m<=ew):Builtin.Range.rangeSize 0 m 1=m/\Builtin.Range.small 0 m 1=true:=by
 have e1:Builtin.Range.rangeSize 0 m 1=m:=by
  unfold Builtin.Range.rangeSize
  rw [if_pos (by decide)]
  split<;>lia
 refine⟨e1,?_⟩
 unfold Builtin.Range.small
 rw [e1]
 have:=js z
 have q :∀i:Int,0<=i->i<=m->Builtin.Range.rangeFitsLong i=true:=λi a b=>Bool.and_eq_true_iff.mpr ⟨decide_eq_true (by lia),decide_eq_true (by lia)⟩
 have q1:Builtin.Range.rangeFitsLong 1=true:=by decide +kernel
 rw [q 0 (Int.le_refl _) (Int.natCast_nonneg m),q m (Int.natCast_nonneg m) (Int.le_refl _),q1,if_pos (by decide),q (m+(1-1)) (by lia) (by lia)]
 rw [Bool.or_true];rfl
theorem yY {x:AV} {xs:List AV} {u:Value} {Q:Value->Shared->Prop} (hx:nA x=some xs) (hv:VR S W x u) (I:Inv S W F fm σ s.heap)
  (k :∀o St,o.isFreed=false->wm S W (λ_=>True) xs s.heap.objs.size St->St 0 (s.heap.push o)->Q (.ref s.heap.objs.size) {s with heap:=s.heap.push o}) :
  wpAny (MD S) A (pyIter u) Q no s:=by
 cases x with
 |str l=>
  cases hx
  refine hv.gO λt z=>?_
  cases ha:(⟨l.toArray⟩:Str).cps.all (·<128)
  ·exact wpAny_pyIter_wide ha (k _ _ rfl (.str _ (.inr rfl)) ⟨_,Heap.get?_push_size _ rfl,rfl,rfl⟩)
  ·exact wpAny_pyIter_ascii ha (k _ _ rfl (.str _ (.inl rfl)) ⟨_,Heap.get?_push_size _ rfl,rfl,rfl⟩)
 |tup vs=>
  cases hx
  exact hv.qh λa items m d sl e z r=>wpAny_pyIter_tuple ⟨_,I.p _ _ e,rfl,m,rfl⟩ (k _ _ rfl (.tuple λW' F H h L J=>⟨items,⟨_,J.p _ _ (L.P _ _ e),rfl,m,rfl⟩,r.mono L⟩) ⟨_,Heap.get?_push_size _ rfl,rfl,rfl⟩)
 |lst vs=>
  cases hx
  exact hv.xn λa items m d sl e z r=>wpAny_pyIter_list ⟨_,I.p _ _ e,rfl,m,rfl⟩ (k _ _ rfl (.list _ λW' F H h L J _=>⟨items,⟨_,J.p _ _ (L.P _ _ e),rfl,m,rfl⟩,r.mono L⟩) ⟨_,Heap.get?_push_size _ rfl,rfl,rfl⟩)
 |tX m=>
  cases hx
  refine hv.Ks λa _ _ _ e z=>wpAny_pyIter_range (I.p _ _ e) (nG z).2 ?_
  rw [(nG z).1]
  exact k _ _ rfl .range (Heap.get?_push_size _ rfl)
 |_=>exact nn hx
end
section
variable {S:aY} {G:cy} {n:Nat} {W W':Wd} {F:Addr->Option Obj} {fm:Fm} {σ:St} {s:Shared} {A:Around} {E:Value->Shared->Prop} {h h':Heap}
theorem nt {x:Nm} {av:AV} {v:Value} {pos:Pos} {Q:Unit->Shared->Prop} (ok:gC S fm) (os:fm.env.kindOf (bY x)=some .cell->B2 S fm) (I:Inv S W F fm σ s.heap) (r:VR S W av v)
  (k:fm.env.kindOf (bY x)=some .local\/fm.env.kindOf (bY x)=some .cell)
  (q :∀s',Inv S W F fm {σ with V:=pt σ.V x av} s'.heap->Kp s s'->Q () s'):wpAny (MD S) A (assign (.Name (bY x) pos) fm.env v) Q E s:=by
 rw [arm_assign_Name]
 exact wpAny_bind (wpAny_standAt (wpAny_bindName (I.store ok os r k q)))
theorem jv {x:Nm} {av:AV} {v:Value} {pos:Pos} {Q:Unit->Shared->Prop} (ok:gC S fm) (I:Inv S W F fm σ s.heap) (r:VR S W av v) (k:fm.env.kindOf (bY x)=some .local)
  (q :∀s',Inv S W F fm {σ with V:=pt σ.V x av} s'.heap->Kp s s'->Q () s'):wpAny (MD S) A (assign (.Name (bY x) pos) fm.env v) Q E s:=
 nt ok (λz=>by rw [k]at z;cases z) I r (.inl k) q
@[elab_as_elim] theorem rI {P:List Expr->Prop} {x:Nm} {xs:List Nm} {l:List Expr} (h:xY (x::xs) l=true) (f :∀pos es,xY xs es=true->P (.Name (bY x) pos::es)):P l:=by
 cases l with
 |nil=>exact absurd h Bool.false_ne_true
 |cons e es=>exact to2 (P:=λe=>P (e::es)) (F:=λs=>.Name s (cz e).p) (d4 (bf (bf h).1).1) (gM (bf (bf h).1).2) (f _ _ (bf h).2)
theorem KH {env:Env} {ts:List Nm} {es:List Expr} (h:xY ts es=true):(assignEach es env).length=ts.length/\(assignEach es env).findIdx? (·.1)=none:=by
 induction ts generalizing es with
 |nil=>rw [List.isEmpty_iff.mp h];exact⟨rfl,rfl⟩
 |cons x xs ih=>
  refine rI h λpos es h2=>⟨congrArg (·+1) (ih h2).1,?_⟩
  show List.findIdx? (λx:Bool×(Value->Sem Unit)=>x.1) ((false,assign (.Name (bY x) pos) env)::assignEach es env)=none
  rw [List.findIdx?_cons,(ih h2).2];rfl
theorem x7 {α:Type} {l:List α} {u:Unit} (h:Xo l=some u):l=[]:=by cases l<;>first|rfl|exact nn h
theorem zY {ts:List Nm} {vs:List AV} {V V':List (Nm×AV)} (h:yb ts vs V=some V'):ts.length=vs.length:=by
 induction ts generalizing vs V with
 |nil=>exact ar h λ_ _ e=>by rw [x7 e];rfl
 |cons x xs ih=>
  cases vs with
  |nil=>exact nn h
  |cons v vs=>exact congrArg (·+1) (ih h)
theorem Cs {ks:c4} (ok:gC S fm) (kd:qm ks fm.env) {ts:List Nm} {es:List Expr} {vs:List AV} {us:List Value} {V':List (Nm×AV)} {Q:Unit->Shared->Prop}
  (h:yb ts vs σ.V=some V') (ht:xY ts es=true) (hk :∀x∈ts,lk ks x=some .loc) (rs:cq S W vs us) (I:Inv S W F fm σ s.heap) (q :∀s',Inv S W F fm {σ with V:=V'} s'.heap->Kp s s'->Q () s') :
  wpAny (MD S) A (assignInOrder ((assignEach es fm.env).map (·.2)) us) Q E s:=by
 induction ts generalizing es vs us σ s with
 |nil=>
  rw [List.isEmpty_iff.mp ht]
  exact ar h λ_ h e=>cq.jP (x7 e▸rs:cq S W [] us) (wpAny_pure (q s (aw (P:=λV=>Inv S W F fm {σ with V:=V} s.heap) h I) (.refl s)))
 |cons x xs ih=>
  refine rI ht λpos es h2=>?_
  cases vs with
  |nil=>exact nn h
  |cons v vs=>exact rs.cQ λu us r rs=>wpAny_bind (wpAny_holding (jv ok I r (kd x _ (hk x (.head _))) λs' I' k'=>ih (σ:={σ with V:=pt σ.V x v}) h h2 (λy m=>hk y (.tail _ m)) rs I' λs'' I'' k''=>q s'' I'' (k'.trans k'')))
theorem E7 {t:List Nm} (e:jN t=none):isTup t=true:=congrArg Option.isNone e
@[elab_as_elim] theorem zG {P:List Nm->Expr->Prop} {ks:c4} {t:List Nm} {tg:Expr} (h:nj ks t tg=true) (f :∀x pos,lk ks x=some .loc->P [x] (.Name (bY x) pos))
  (f' :∀t es k pos,isTup t=true->xY t es=true->(∀x∈t,lk ks x=some .loc)->P t (.Tuple es k pos)):P t tg:=by
 unfold nj at h
 generalize q:jN t=o at h
 cases o with
 |some x=>
  have z:=fL h
  rw [jt q]
  exact to2 (P:=λe=>P [x] e) (F:=λs=>.Name s (cz tg).p) (d4 z.1) (gM z.2.1) (f x _ (o5 z.2.2))
 |none=>
  have z:=fL h
  exact iQ (P:=λe=>P t e) z.1 (f' t _ _ _ (E7 q) z.2.1 λx m=>o5 (List.all_eq_true.mp z.2.2 x m))
end
section
variable {S:aY} {G:cy} {n:Nat} {W:Wd} {σ:St} {s:Shared} {c:Cx S n} {E:Value->Shared->Prop}
theorem ya {t:List Nm} {tg:Expr} {v:AV} {u:Value} {σ':St} {Q:Unit->Shared->Prop} (h:hK t (isTup t) v σ=some σ') (ht:nj c.ks t tg=true)
  (r:VR S W v u) (I:c.I W σ s) (q :∀s',c.I W σ' s'->Kp s s'->Q () s'):wpAny (MD S) c.A (assign tg c.fm.env u) Q E s:=by
 revert h
 refine zG ht (λx pos hk h=>jv c.ok I r (c.kd x _ hk) λs' I'=>q s' (aw (P:=λσ=>c.I W σ s') h I')) λt es k pos it hm hk h=>?_
 rw [it]at h
 refine ar h λvs h e=>ar h λV' h e'=>(r.nI e).tupI I.tob6 λa items g hs z rs=>?_
 have l:=KH (env:=c.fm.env) hm
 exact wpAny_assign_Tuple c.ro.hd g (l.1.trans ((zY e').trans hs.symm)) l.2 λh' sb=>Cs c.ok c.kd e' hm hk rs (s:={s with heap:=h'}) (I.fresh c.ok sb) λs' I' k'=>q s' (aw (P:=λσ=>c.I W σ s') h I') ⟨k'.gens,k'.os⟩
noncomputable def K1 (S:aY) (G:cy) (n:Nat) (i:fe):Prop:=∀(c:Cx S n) (e:List Expr),kK c.ks i e=true->∀W σ s,c.I W σ s->
 At c W s (mh G i σ) (forIn e true λd r=>if r=true then do let ok<-isTrue d c.fm.env (eval d c.fm.env);pure (ForInStep.yield ok)else pure (ForInStep.yield r)) (λ_ b r=>r=b)
theorem Ie:K1 S G n .nil:=λc e h W σ s I=>by
 rw [iJ h]
 exact .ret λ_=>wpAny_pure (bX.ret I rfl)
theorem rF {M:Model} {A:Around} {env:Env} {Q:Bool->Shared->Prop} :∀(e:List Expr),Q false s->wpAny M A (forIn e false λc r=>if r=true then do let ok<-isTrue c env (eval c env);pure (ForInStep.yield ok)else pure (ForInStep.yield r)) Q E s
 |[],q=>by rw [List.forIn_nil];exact wpAny_pure q
 |x::xs,q=>by
  rw [List.forIn_cons,if_neg (by decide)]
  exact wpAny_bind (wpAny_pure (rF xs q))
theorem Ic {i:Ex} {r:fe} (hi:ST S G n i) (hr:K1 S G n r):K1 S G n (.cons i r):=λc e h W σ s I=>gz h λx xs h1 h2 h3 p q hz=>by
 rw [List.forIn_cons,if_pos rfl]
 refine wpAny_bind (wpAny_bind ((hi c x h1 W σ s I).seq (λp=>.cond ((fQ r).ts _) .ret) q hz λW1 p' u s1 q L1 r1 I1 k1=>wpAny_pure ?_))
 obtain⟨b,σ1⟩:=p'
 obtain rfl:u=b:=r1
 cases u
 ·exact aw q (rF xs ⟨W1,L1,rfl,I1,k1⟩)
 ·exact jz L1 k1 (hr c xs h2 W1 σ1 s1 I1 p q hz)
end
section
variable {α β:Type}
theorem pw (g:Str->α->β) (x:Str) :∀l:List (Str×α),(l.map λp=>(p.1,g p.1 p.2)).lookup x=(l.lookup x).map (g x)
 |[]=>rfl
 |p::r=>by
  rw [List.map_cons,List.lookup_cons,List.lookup_cons]
  cases hb:x==p.1 with
  |true=>rw [eq_of_beq hb];rfl
  |false=>exact pw g x r
theorem pv (g:Str->α) (x:Str) :∀l:List Str,(l.map λy=>(y,g y)).lookup x=if x∈l then some (g x)else none
 |[]=>rfl
 |y::r=>by
  rw [List.map_cons,List.lookup_cons,pv g x r]
  cases hb:x==y with
  |true=>
   obtain rfl:=eq_of_beq hb
   exact(if_pos (.head _)).symm
  |false=>
   have e:x≠y:=ne_of_beq_false hb
   by_cases m:x∈r
   ·rw [if_pos m,if_pos (.tail _ m)]
   ·rw [if_neg m,if_neg λz=>(List.mem_cons.mp z).elim e m]
theorem lookup_mem {x:Str} {k:α} :∀{l:List (Str×α)},l.lookup x=some k->(x,k)∈l
 |[],h=>nn h
 |p::r,h=>by
  rw [List.lookup_cons]at h
  cases hb:x==p.1 with
  |true=>rw [hb]at h;rw [eq_of_beq hb,<-Option.some.inj h];exact .head _
  |false=>rw [hb]at h;exact .tail _ (lookup_mem h)
theorem sM {x:Nm} {k:α} :∀{l:List (Nm×α)},lk l x=some k->(x,k)∈l
 |[],h=>nn h
 |p::r,h=>by
  rw [dT]at h
  by_cases e:p.1=x
  ·rw [if_pos e]at h;rw [<-e,<-Option.some.inj h];exact .head _
  ·rw [if_neg e]at h;exact .tail _ (sM h)
end
noncomputable def AQ (p:Str×NameKind):Option Str:=if p.2==.free then some p.1 else none
noncomputable def nK (cells:List (Str×Addr)) (names:List (Str×NameKind)):List (Str×Addr):=(names.filterMap AQ).reverse.map λy=>(y,(cells.lookup y).getD 0)
theorem OC {names:List (Str×NameKind)} {x:Str}:x∈(names.filterMap AQ).reverse↔(x,.free)∈names:=by
 rw [List.mem_reverse,List.mem_filterMap]
 constructor
 ·rintro⟨⟨y,k⟩,m,e⟩
  unfold AQ at e
  split at e
  ·rename_i z
   rw [<-Option.some.inj e,<-eq_of_beq z];exact m
  ·exact nn e
 ·exact λm=>⟨_,m,rfl⟩
theorem CJ {cells:List (Str×Addr)} {names:List (Str×NameKind)} {x:Str}:(nK cells names).lookup x=if(x,.free)∈names then some ((cells.lookup x).getD 0)else none:=by
 unfold nK
 rw [pv]
 simp only [OC]
theorem wU {α β:Type} {l:List α} {f:α->β->Sem (ForInStep β)} (g:β->α->β) (c:β) (h :∀x∈l,∀c,f x c=pure (.yield (g c x))):forIn l c f=pure (l.foldl g c):=by
 induction l generalizing c with
 |nil=>rfl
 |cons x l ih=>
  rw [List.forIn_cons,h x List.mem_cons_self,pure_bind]
  exact ih _ λy hy=>h y (List.mem_cons_of_mem _ hy)
theorem yR (look:Str->Addr) :∀(names:List (Str×NameKind)) (acc:List (Str×Addr)),names.foldl (λcs p=>if(p.2==.free)=true then(p.1,look p.1)::cs else cs) acc=((names.filterMap AQ).reverse.map λy=>(y,look y))++acc
 |[],_=>rfl
 |p::r,acc=>by
  rw [List.foldl_cons,yR look r]
  cases hk:(p.2==NameKind.free)with
  |true=>rw [if_pos rfl,List.filterMap_cons_some (show AQ p=some p.1 from if_pos hk),List.reverse_cons,List.map_append,List.append_assoc];rfl
  |false=>rw [if_neg Bool.false_ne_true,List.filterMap_cons_none (show AQ p=none from if_neg (by rw [hk];exact Bool.false_ne_true))]
theorem wK {sc:Scope} {env:Env} (hf :∀p∈sc.names,p.2=.free->∃c,env.cells.lookup p.1=some c):closureFor sc env=pure (nK env.cells sc.names):=by
 simp only [closureFor]
 rw [wU (λcs p=>if(p.2==.free)=true then(p.1,(env.cells.lookup p.1).getD 0)::cs else cs) [] (λx hx c=>by
  cases hk:(x.2==NameKind.free)with
  |true=>
   obtain⟨a,e⟩:=hf _ hx (eq_of_beq hk)
   have hc:cellOf env x.1=pure a:=by unfold cellOf;rw [e]
   rw [if_pos rfl,if_pos rfl,hc,e];rfl
  |false=>rw [if_neg Bool.false_ne_true,if_neg Bool.false_ne_true])]
 exact(pure_bind _ _).trans (congrArg pure ((yR (λy=>(env.cells.lookup y).getD 0) sc.names []).trans (List.append_nil _)))
noncomputable def FY (env:Env) (x:Str) (k:NameKind):NameKind:=if(k==NameKind.free&&env.scope.kind==.function&&env.kindOf x==some .cell)then .cell else k
theorem pP {env:Env} {sc:Scope} {x:Str}:(relabel sc env).names.lookup x=(sc.names.lookup x).map (FY env x):=by
 rw [<-pw (FY env)]
 unfold relabel
 refine congrArg (List.lookup x) (List.map_congr_left λp _=>?_)
 obtain⟨y,k⟩:=p
 unfold FY
 dsimp only
 split<;>rfl
theorem pn {ks:c4} {x:Nm} {v:AV} :∀{V:List (Nm×AV)},lk (ji ks V) x=some v->lk V x=some v/\lk ks x=some .qt
 |[],h=>nn h
 |p::r,h=>by
  unfold ji at h
  rw [List.filter_cons]at h
  rw [dT]
  cases hb:N0 (lk ks p.1)with
  |true=>
   rw [hb,if_pos rfl,dT]at h
   by_cases e:p.1=x
   ·rw [if_pos e]at h ⊢
    refine⟨h,e▸?_⟩
    revert hb
    cases lk ks p.1 with
    |none=>exact λz=>absurd z Bool.false_ne_true
    |some k=>cases k<;>first|exact λ_=>rfl|exact λz=>absurd z Bool.false_ne_true
   ·rw [if_neg e]at h ⊢;exact pn h
  |false=>
   rw [hb,if_neg Bool.false_ne_true]at h
   have z:=pn h
   refine⟨?_,z.2⟩
   by_cases e:p.1=x
   ·rw [e,z.2]at hb;exact absurd hb.symm Bool.false_ne_true
   ·rw [if_neg e];exact z.1
section
variable {S:aY} {G:cy} {n:Nat} {W W':Wd} {F:Addr->Option Obj} {fm:Fm} {σ:St} {s:Shared} {A:Around} {E:Value->Shared->Prop} {h h':Heap} {ks ks':c4} {sc:Scope}
structure qo (ks ks':c4) (sc:Scope):Prop where
 kind:sc.kind=.function
 names :∀p∈sc.names,LH ks sc p=true
 kinds :∀x k,lk ks' x=some k->kindB ks sc (x,k)=true
theorem PN (h:Yi ks ks' sc=true):qo ks ks' sc:=
 have z:=fL h
 ⟨of_decide_eq_true z.1,List.all_eq_true.mp z.2.1,λx k e=>List.all_eq_true.mp z.2.2 _ (sM e)⟩
theorem qo.name (so:qo ks ks' sc) {p:Str×NameKind} {P:Prop} (m:p∈sc.names) (l:p.2=.local->sc.names.lookup p.1=some .local->P) (f :∀x,p.2=.free->p.1=bY x->lk ks x=some .qt->P) (g:p.2=.globalImplicit->P):P:=
 (Bool.or_eq_true_iff.mp (so.names p m)).elim (λz=>l (of_decide_eq_true (bf z).1) (of_decide_eq_true (bf z).2)) λz=>(Bool.or_eq_true_iff.mp z).elim (λz=>Exists.elim (List.any_eq_true.mp (bf z).2) λq y=>f q.1 (of_decide_eq_true (bf z).1) (gM (bf y.2).1) (of_decide_eq_true (bf y.2).2)) λz=>g (of_decide_eq_true z)
noncomputable def compEnv (sc:Scope) (C:Addr) (env:Env) (b:Addr):Env:={newEnv sc C env.globals (nK env.cells sc.names) env.qual none .none (some env) b with scope:=relabel sc env}
theorem qo.free (so:qo ks ks' sc) (kd:qm ks fm.env) {x:Str} (m:(x,NameKind.free)∈sc.names):fm.env.kindOf x=some .cell:=so.name m (λz=>by cases z) (λy _ (e:x=bY y) l=>e▸kd y _ l) λz=>by cases z
theorem um (so:qo ks ks' sc) (kd:qm ks fm.env) (I:Inv S W F fm σ h) {x:Str} {c:Addr} (q:(nK fm.env.cells sc.names).lookup x=some c):fm.env.kindOf x=some .cell/\fm.env.cells.lookup x=some c/\(x,NameKind.free)∈sc.names:=by
 rw [CJ]at q
 split at q
 ·rename_i m
  have k:=so.free kd m
  obtain⟨c',v,l,_⟩:=I.vars.cell x k
  rw [l]at q ⊢
  exact⟨k,q,m⟩
 ·exact nn q
theorem qW (so:qo ks ks' sc) (ok:gC S fm) (kd:qm ks fm.env) {C b:Addr}:qm ks' (compEnv sc C fm.env b):=by
 intro x k e
 show(relabel sc fm.env).names.lookup (bY x)=some (X8 k)
 have z:=so.kinds x k e
 rw [pP]
 cases k with
 |loc=>rw [of_decide_eq_true z];rfl
 |qt=>
  rw [of_decide_eq_true (bf z).1]
  have k1:fm.env.kindOf (bY x)=some .cell:=kd x _ (of_decide_eq_true (bf z).2)
  show some (FY fm.env (bY x) .free)=_
  unfold FY
  rw [k1,ok.kf];rfl
 |cS=>rw [of_decide_eq_true z];rfl
theorem Aa (so:qo ks ks' sc) {x:Str} {C b:Addr} (e:(compEnv sc C fm.env b).kindOf x=some .cell):(x,NameKind.free)∈sc.names:=by
 have e:(relabel sc fm.env).names.lookup x=some .cell:=e
 rw [pP]at e
 cases q:sc.names.lookup x with
 |none=>rw [q]at e;cases e
 |some k=>
  have m:=lookup_mem q
  rw [q]at e
  exact so.name m (λz _=>by obtain rfl:k=.local:=z;cases e) (λ_ z _ _=>(z:k=.free)▸m) λz=>by obtain rfl:k=.globalImplicit:=z;cases e
theorem wL (so:qo ks ks' sc) (ok:gC S fm) (kd:qm ks fm.env) {C b:Addr} (I:Inv S W F fm σ h) (k :∀a o,h.get? a=some o->h'.get? a=some o) (hC:h.objs.size<=C) (m:Str->Option Value) (hn:h'.Ns C m) :
  gC S ⟨compEnv sc C fm.env b,[C]⟩/\Inv S W (nL fm F h) ⟨compEnv sc C fm.env b,[C]⟩ {σ with V:=ji ks' σ.V} h':=by
 have lt :∀a,(∃o,h.get? a=some o)->a≠C:=λa q=>Exists.elim q λo e=>Nat.ne_of_lt (Nat.lt_of_lt_of_le (Heap.lt_size e) hC)
 have cget :∀x c,fm.env.kindOf x=some .cell->fm.env.cells.lookup x=some c->∃o,h.get? c=some o/\nL fm F h c=some o:=λx c kx l=>(I.fr x c kx l).elim (λq=>Exists.elim (I.own c q).2.2.2 λo e=>⟨o,e,(lJ q).trans e⟩) λq=>Exists.elim q λo q=>⟨o,I.f c o q,I.oS q⟩
 have J:=I.freeze.keeps k
 have ab:=I.freeze.above hC
 have has :∀{x c},(x,NameKind.free)∈sc.names->fm.env.cells.lookup x=some c->(compEnv sc C fm.env b).cells.lookup x=some c:=λ{x c} m l=>by
  show(nK fm.env.cells sc.names).lookup x=some c
  rw [CJ,if_pos m,l];rfl
 refine⟨⟨so.kind,ok.gl,ok.bu,.head _,λx c l=>?_⟩,{tob6:=J,own:=λa ma=>?_,fr:=λx c kx l=>?_,vars:=⟨⟨m,hn,λx av e=>?_⟩,λx e=>?_⟩}⟩
 ·have z:=um so kd I l
  exact lt c (Exists.elim (cget x c z.1 z.2.1) λo e=>⟨o,e.1⟩)
 ·rw [List.mem_singleton.mp ma]
  exact⟨ab.1,ab.2.1,ab.2.2,Exists.elim hn λo e=>Exists.elim e λ_ e=>Exists.elim e λ_ e=>⟨o,e.1⟩⟩
 ·have z:=um so kd I l
  exact .inr (Exists.elim (cget x c z.1 z.2.1) λo e=>⟨o,e.2⟩)
 ·have z:=pn e
  obtain⟨m0,hm,hv⟩:=I.vars.ns
  obtain⟨v,r,w⟩:=hv x av z.1
  have kk:=qW (C:=C) (b:=b) so ok kd x _ z.2
  have z':=bf (so.kinds x _ z.2)
  have k1:fm.env.kindOf (bY x)=some .cell:=kd x _ (of_decide_eq_true z'.2)
  refine⟨v,r,?_⟩
  rcases w with⟨k2,_⟩|⟨_,c,lc,d⟩
  ·rw [k1]at k2;cases k2
  ·exact .inr ⟨kk,c,has (lookup_mem (of_decide_eq_true z'.1)) lc,nQ d λo=>k c o⟩
 ·have m:=Aa so e
  have k1:=so.free kd m
  obtain⟨c,v,l,d⟩:=I.vars.cell x k1
  exact⟨c,v,has m l,nQ d λo=>k c o⟩
end
section
variable {S:aY} {G:cy} {n:Nat} {W W':Wd} {σ:St} {s:Shared} {A:Around} {E:Value->Shared->Prop} {h h':Heap}
theorem zj {M:Model} {env:Env} {R:Result->Shared->Prop} {α:Type} {t:Sem α} {Q:α->Shared->Prop} (h:wpAny M A t Q no s):wpAny M A t Q (notedBy M A env λe s'=>R (.error e) s') s:=
 wpAny_mono h (λ_ _ q=>q) λ_ _ x=>x.elim
theorem rV {elt target iter:Expr} {ifs:List Expr} {scope:Scope} {pos:Pos} {it acc:Value} {env:Env} {R:Result->Shared->Prop} (I:Nat->Shared->Prop)
  (turn :∀n s,I n s->wpAny (MD S) A (pyNext it) (λr s₁=>match r with
   |none=>R (.ok .next) s₁
   |some v=>wpAny (MD S) A (letOwnedTupleGo target it v) (λ_ s₁'=>wpAny (MD S) A (assign target env v) (λ_ s₂=>wpAny (MD S) A (forIn ifs true λc r=>if r=true then do let ok<-isTrue c env (eval c env);pure (ForInStep.yield ok)else pure (ForInStep.yield r)) (λok s₃=>if ok=true then wpAny (MD S) A (eval elt env) (λx s₄=>wpAny (MD S) A (call (.builtin "list.append") [acc,x]) (λ_ s₅=>∃m,m<n/\I m s₅) no s₄) no s₃
      else∃m,m<n/\I m s₃) no s₂) no s₁') no s₁) no s)
  (n:Nat) (h:I n s) :
  codeAny (MD S) A (.compLoop (.ListComp elt [⟨target,iter,ifs,0⟩] scope pos) 0 it acc env) R s:=by
 refine codeAny_loop rfl I (λn s hI=>?_) n h
 show wpAny _ A ((compTurn (.ListComp elt [⟨target,iter,ifs,0⟩] scope pos) 0 it acc env).onRaise (λx=>do noteFrame x env;theTreesLotGoes x)) _ _ s
 refine wpAny_noted (zj ?_)
 rw [compTurn_list]
 refine wpAny_bind (wpAny_standAt (wpAny_bind (wpAny_mono (turn n s hI) (λr s₁ h₁=>?_) λ_ _ h'=>h')))
 cases r with
 |none=>exact wpAny_pure h₁
 |some v=>
  refine wpAny_bind (wpAny_mono h₁ (λ_ s₁' h₁'=>?_) λ_ _ h'=>h')
  refine wpAny_bind (wpAny_mono h₁' (λ_ s₂ h₂=>wpAny_bind (wpAny_mono h₂ (λok s₃ h₃=>?_) λ_ _ h'=>h')) λ_ _ h'=>h')
  cases ok with
  |false=>exact wpAny_pure ⟨rfl,h₃⟩
  |true=>
   exact wpAny_bind (wpAny_bind (wpAny_mono h₃ (λx s₄ h₄=>wpAny_bind (wpAny_mono h₄ (λ_ s₅ h₅=>wpAny_pure (wpAny_pure ⟨rfl,h₅⟩)) λ_ _ h'=>h')) λ_ _ h'=>h'))
structure Turn (c:Cx S n) (St':Nat->Heap->Prop) (a1 a2:Addr) (W:Wd) (σ:St) (i:Nat) (ys:List AV) (h:Heap):Prop where
 inv:Inv S W c.F c.fm σ h
 u1:Un W c.F c.fm a1
 u2:Un W c.F c.fm a2
 st:St' i h
 acc :∃items m,h.get? a2=some {cls:=.type "list",data:=.seq items m}/\cq S W ys items.toList
variable {c:Cx S n} {St':Nat->Heap->Prop} {a1 a2:Addr} {i:Nat} {ys vs xs:List AV} {HC:List AO->Prop} {Wx:Wd}
theorem Turn.held {P:Prop} (T:Turn c St' a1 a2 W σ i ys h) (It:wm S Wx HC vs a1 St') (ne:a2≠a1)
  (k :∀F',Inv S W F' c.fm σ h->(∀W' σ' h',W.Le W'->Inv S W' F' c.fm σ' h'->Turn c St' a1 a2 W' σ' i ys h')->P):P:=
 Exists.elim (It.obj i _ T.st) λo1 z=>Exists.elim z λ_ z=>Exists.elim T.acc λitems y=>Exists.elim y λm y=>k (gD (gD c.F a1 o1) a2 {cls:=.type "list",data:=.seq items m}) ((T.inv.hold T.u1 z.1).hold (T.u2.gD ne) y.1) λW' σ' h' L J=>have J1:=J.free ((kl ne).trans T.u2.f) λx d k l=>T.u2.ne (T.inv.nC k l)
  have J2:=J1.1.free T.u1.f λx d k l=>T.u1.ne (T.inv.nC k l)
  ⟨J2.1,J2.2.1,⟨J1.2.1.P,T.u2.f,J1.2.1.ρ,J1.2.1.ow⟩,It.frame i _ _ T.st λo e=>Option.some.inj (z.1.symm.trans e)▸J2.2.2,items,m,J1.2.2,y.2.mono L⟩
theorem Turn.next {j:Nat} (T:Turn c St' a1 a2 W σ i ys h) (ne:a2≠a1) (sb:Heap.ExtBut a1 h h') (st:St' j h'):Turn c St' a1 a2 W σ j ys h':=
 ⟨T.inv.ext c.ok T.u1 sb,T.u1,T.u2,st,Exists.elim T.acc λitems y=>Exists.elim y λm y=>⟨items,m,sb a2 _ ne y.1,y.2⟩⟩
theorem Turn.push {v:AV} {u:Value} {items:Array Value} {m:Nat} (T:Turn c St' a1 a2 W σ i ys h) (It:wm S Wx HC vs a1 St') (ne:a2≠a1) (sb:Heap.SameBut a2 h h') (g:h'.get? a2=some {cls:=.type "list",data:=.seq (items.push u) m}) (rs:cq S W ys items.toList) (r:VR S W v u):Turn c St' a1 a2 W σ i (ys++[v]) h':=
 ⟨T.inv.other c.ok T.u2 sb,T.u1,T.u2,It.frame _ _ _ T.st λo e=>(sb.2 a1 ne.symm).trans e,_,_,g,(Array.toList_push:(items.push u).toList=_)▸rs.append (.cons r .nil)⟩
theorem j6 {σ τ:St} (e:σ=τ) (h:fN τ.O):fN σ.O:=e▸h
inductive CL (c:Cx S n) (St':Nat->Heap->Prop) (a1 a2:Addr) (f:List AV->St->Option (List AV×St)) (vs xs:List AV) (HC:List AO->Prop) (W:Wd) (σ':St) (s:Shared) (k:Nat) (s':Shared):Prop
 |mk (i:Nat) (Wi:Wd) (σi:St) (ys:List AV) (p:List AV×St):i+k=vs.length->W.Le Wi->f (vs.drop i) σi=some p->p.2=σ'->ys++p.1=xs->Turn c St' a1 a2 Wi σi i ys s'.heap->HC σi.H->Kp s s'->CL c St' a1 a2 f vs xs HC W σ' s k s'
theorem Ab {elt:Ex} {t:List Nm} {cs:fe} {σ':St} {R:Result->Shared->Prop} {e' i' tg:Expr} {ifs:List Expr} {sc:Scope} {pos:Pos} (hel:SE S G n elt) (hcs:K1 S G n cs)
  (m1:mE c.ks elt e'=true) (m2:kK c.ks cs ifs=true) (m3:nj c.ks t tg=true) (It:wm S W HC vs a1 St') (ne:a2≠a1)
  (hA :∀σ σ' v,hK t (isTup t) v σ=some σ'->HC σ.H->HC σ'.H) (hT :∀σ p,mh G cs σ=some p->HC σ.H->HC p.2.H) (hE :∀σ p,ev G elt σ=some p->HC σ.H->HC p.2.H)
  (hz:fN σ'.O) (hzx:xs.length<=ew) (q:jI (hK t (isTup t)) (mh G cs) (ev G elt) vs σ=some (xs,σ')) (T:Turn c St' a1 a2 W σ 0 [] s.heap) (hc:HC σ.H)
  (fin :∀W2 s2,W.Le W2->c.I W2 σ' s2->Un W2 c.F c.fm a2->(∃items m,s2.heap.get? a2=some {cls:=.type "list",data:=.seq items m}/\cq S W2 xs items.toList)->Kp s s2->R (.ok .next) s2) :
  codeAny (MD S) c.A (.compLoop (.ListComp e' [⟨tg,i',ifs,0⟩] sc pos) 0 (.ref a1) (.ref a2) c.fm.env) R s:=by
 refine rV (CL c St' a1 a2 (jI (hK t (isTup t)) (mh G cs) (ev G elt)) vs xs HC W σ' s) ?_ vs.length (.mk 0 W σ [] (xs,σ') (Nat.zero_add _) (.refl W) q rfl rfl T hc (.refl s))
 intro k s1 I1
 cases I1 with|mk i Wi σi ys p hk Li qi hp hy Ti hci ki=>?_
 have mon:=mB (λv τ=>jS (t:=t) (b:=isTup t) (v:=v) (σ:=τ)) (fQ (G:=G) cs).ts (br (G:=G) elt).v
 rcases Nat.lt_or_ge i vs.length with hi|hi
 ·obtain⟨k,rfl⟩ :∃k',k=k'+1:=⟨vs.length-(i+1),by lia⟩
  have hk':i+1+k=vs.length:=(Nat.succ_add_eq_add_succ i k).trans hk
  rw [List.drop_eq_getElem_cons hi]at qi
  refine It.item Wi c.F σi.H c.A s1 i _ Li Ti.inv.tob6 hci c.ro.hd Ti.st hi λv h1 tk r1 st1 sb1=>?_
  rw [show vs.getD i .none=vs[i]by simp [hi]]at r1
  have T1:=Ti.next ne sb1 st1
  refine It.go (s:={s1 with heap:=h1,toks:=tk}) st1 (T1.held It ne λF' I2 back=>ar qi λσa q ea=>ar q λpb q eb=>?_)
  refine ya (c:=c.fz F') (s:={s1 with heap:=h1,toks:=tk}) ea m3 r1 I2 λs2 I2 k2=>?_
  have lim2:fN pb.2.O:=bR q (λq _=>ar q λx q ex=>(br elt).v _ _ ex (ar q λy q ey=>mon _ _ _ ey (j6 ((congrArg (·.2) (Option.some.inj q)).trans hp) hz))) λq _=>mon _ _ _ q (j6 hp hz)
  refine Mine.seq (hcs (c.fz F') ifs m2 Wi σa s2 I2 pb eb lim2) λW3 b s3 L3 r3 I3 k3=>?_
  obtain⟨bb,σb⟩:=pb
  obtain rfl:b=bb:=r3
  have K3:=ki.trans (Kp.trans (⟨k2.gens,k2.os⟩:Kp s1 s2) k3)
  have hcb:=hT _ _ eb (hA _ _ _ ea hci)
  cases b with
  |false=>
   rw [if_neg (by decide)]
   exact⟨k,Nat.lt_succ_self k,.mk (i+1) W3 σb ys p hk' (Li.trans L3) q hp hy (back W3 σb s3.heap L3 I3) hcb K3⟩
  |true=>
   rw [if_pos rfl]
   refine ar q λx q ex=>ar q λy q ey=>?_
   refine Mine.seq (hel (c.fz F') e' m1 W3 σb s3 I3 x ex (mon _ _ _ ey (j6 ((congrArg (·.2) (Option.some.inj q)).trans hp) hz))) λW4 u s4 L4 r4 I4 k4=>?_
   have T4:=back W4 _ s4.heap (L3.trans L4) I4
   obtain⟨items4,m4,g4,rs4⟩:=T4.acc
   have hy':ys++(x.1::y.1)=xs:=(congrArg (ys++·.1) (Option.some.inj q)).trans hy
   have hl4:items4.size<=ew:=rs4.size▸Nat.le_trans (Nat.le_add_right _ _) (List.length_append▸hy'.symm▸hzx:ys.length+(x.1::y.1).length<=ew)
   refine append_at g4 (λh5 sb5 g5=>⟨k,Nat.lt_succ_self k,.mk (i+1) W4 x.2 (ys++[x.1]) y hk' (Li.trans (L3.trans L4)) ey ((congrArg (·.2) (Option.some.inj q)).trans hp) (by rw [List.append_assoc];exact hy') (T4.push It ne sb5 g5 rs4 r4) (hE _ _ ex hcb) (K3.trans ⟨k4.gens,k4.os⟩)⟩) (dg hl4)
 ·obtain rfl:i=vs.length:=Nat.le_antisymm (hk▸Nat.le_add_right i k) hi
  rw [List.drop_length]at qi
  refine It.done Wi c.F σi.H c.A s1 _ Li Ti.inv.tob6 hci c.ro.hd Ti.st λh1 tk sb1=>?_
  have e:=Option.some.inj qi
  obtain rfl:ys=xs:=(List.append_nil ys).symm.trans ((congrArg (ys++·.1) e).trans hy)
  obtain rfl:σi=σ':=(congrArg (·.2) e).trans hp
  exact fin Wi {s1 with heap:=h1,toks:=tk} Li (Ti.inv.ext c.ok Ti.u1 sb1) Ti.u2 (Exists.elim Ti.acc λitems y=>Exists.elim y λm y=>⟨items,m,sb1 a2 _ ne y.1,y.2⟩) ⟨ki.gens,ki.os⟩
end
section
variable {S:aY} {G:cy} {n:Nat}
theorem IP (e:Ex):pureE e=true->∀{σ:St} {p:AV×St},ev G e σ=some p->p.2.H=σ.H:=
 have no :∀{P:Prop},false=true->P:=λh=>absurd h Bool.false_ne_true
 Ex.rec (motive_1:=λe=>pureE e=true->∀{σ:St} {p:AV×St},ev G e σ=some p->p.2.H=σ.H) (motive_2:=λes=>pureEs es=true->∀{σ:St} {p:List AV×St},qZ G es σ=some p->p.2.H=σ.H) (motive_3:=λ_=>True) (motive_4:=λ_=>True)
  (λv _ _ _ q=>aw q rfl) (λx _ _ _ q=>ar q λ_ q _=>aw q rfl) (λx _ _ _ q=>ar q λ_ q _=>aw q rfl) no no (λ_ _ _=>no) (λa b h k z _ _ q=>ar q λp q e1=>ar q λp' q e2=>ar q λ_ q _=>aw q ((k (bf z).2 e2).trans (h (bf z).1 e1)))
  (λ_ _ _ _ _ _=>no) (λ_ _ _ _ _=>no) (λ_ _ _ _=>no) (λ_ _=>no) (λ_ _=>no) (λ_ _=>no) (λ_ _=>no) (λ_ _ _ _ _ _=>no) (λes h z _ _ q=>ar q λp q e=>aw q (h z e)) (λ_ _ _=>no) (λ_ _ _=>no) (λ_ _ _ _=>no) (λ_ _ _ _ _=>no) (λ_ _ _ _ _ _ _ _=>no)
  (λ_ _ _ q=>aw q rfl) (λe r h k z _ _ q=>ar q λp q e1=>ar q λp' q e2=>aw q ((k (bf z).2 e2).trans (h (bf z).1 e1))) trivial (λ_ _ _ _ _=>trivial) trivial (λ_ _ _ _ _=>trivial) e
theorem MW {t:List Nm} {b:Bool} {v:AV} {σ σ':St} (h:hK t b v σ=some σ'):σ'.H=σ.H:=
 bR h (λh _=>ar h λ_ h _=>ar h λ_ h _=>aw h rfl) λh _=>ar h λ_ h _=>aw h rfl
theorem rd {i:Expr} {env:Env} {x:Value} (h:gN i=true):foldedSetIterable i env x=pure x:=by
 cases i<;>first|rfl|exact absurd h Bool.false_ne_true
variable {c:Cx S n} {W1:Wd} {σ1:St} {s1:Shared} {use:Option (Value->Sem Unit)} {HC:List AO->Prop} {ks':c4} {elt:Ex} {t:List Nm} {cs:fe} {vs xs:List AV} {σ2:St} {Q:Value->Shared->Prop} {e' i' tg:Expr} {ifs:List Expr} {sc:Scope} {pos:Pos}
noncomputable def Behind (c:Cx S n) (W1:Wd) (σ:St) (xs:List AV) (s1:Shared) (use:Option (Value->Sem Unit)) (Q:Value->Shared->Prop):Prop:=
 ∀W3 s2 a C mm,W1.Le W3->c.I W3 σ s2->Un W3 c.F c.fm C->s2.heap.Ns C mm->VR S W3 (.lst xs) (.ref a)->Kp s1 s2->compPost (MD S) c.A no use Q (.ref a) C (.ok .next) s2
theorem ud {σ:St} (hQ :∀a s',bX S W1 c.F c.fm σ s1 (VP S (.lst xs)) a s'->Q a s'):Behind c W1 σ xs s1 none Q:=
 λW3 s2 a C mm L I u hn r k=>⟨mm,hn,λh' sb=>hQ _ _ ⟨W3,L,r,I.other c.ok u sb,k.gens,k.os⟩⟩
theorem rR {σ:St} {x:Nm} {pos:Pos} (hk:c.fm.env.kindOf (bY x)=some .local) (hQ :∀s',bX S W1 c.F c.fm {σ with V:=pt σ.V x (.lst xs)} s1 (λ_ _=>True) () s'->Q .none s'):Behind c W1 σ xs s1 (some (assign (.Name (bY x) pos) c.fm.env)) Q:=
 λW3 s2 a C mm L I u hn r k=>by
  obtain⟨o,es,ep,g,rest⟩:=hn
  refine jv c.ok (I.hold u g) r hk λs3 I5 k3=>?_
  have J:=I5.free u.f λy d k l=>u.ne (I.nC k l)
  exact⟨mm,⟨o,es,ep,J.2.2,rest⟩,λh' sb=>hQ _ ⟨W3,L,trivial,J.1.other c.ok J.2.1 sb,(k.trans k3).gens,(k.trans k3).os⟩⟩
structure ZX (S:aY) (G:cy) (n:Nat) (c:Cx S n) (HC:List AO->Prop) (ks':c4) (elt:Ex) (t:List Nm) (cs:fe) (e' tg:Expr) (ifs:List Expr) (sc:Scope):Prop where
 hel:SE S G n elt
 hcs:K1 S G n cs
 m1:mE ks' elt e'=true
 m2:kK ks' cs ifs=true
 m3:nj ks' t tg=true
 so:qo c.ks ks' sc
 hA :∀σ σ' v,hK t (isTup t) v σ=some σ'->HC σ.H->HC σ'.H
 hT :∀σ p,mh G cs σ=some p->HC σ.H->HC p.2.H
 hE :∀σ p,ev G elt σ=some p->HC σ.H->HC p.2.H
theorem Io {a1 a2 C:Addr} {St':Nat->Heap->Prop} {h4:Heap} {m:Str->Option Value} {tk:Tok} (B:ZX S G n c HC ks' elt t cs e' tg ifs sc) (g1:s1.heap.objs.size<=a1) (g2:s1.heap.objs.size<=a2) (g3:s1.heap.objs.size<=C) (n21:a2≠a1) (n1:a1≠C) (n2:a2≠C) (It:wm S W1 HC vs a1 St') (st:St' 0 h4)
  (acc:h4.get? a2=some {cls:=.type "list",data:=.seq #[]}) (hn:h4.Ns C m) (k4 :∀a o,s1.heap.get? a=some o->h4.get? a=some o) (I1:c.I W1 σ1 s1) (hc:HC σ1.H) (hz:fN (xs.length::σ2.O))
  (q:jI (hK t (isTup t)) (mh G cs) (ev G elt) vs {σ1 with V:=ji ks' σ1.V}=some (xs,σ2)) (hQ:Behind c W1 {σ2 with V:=σ1.V,O:=xs.length::σ2.O} xs s1 use Q) :
  codeAny (MD S) c.A (.compLoop (.ListComp e' [⟨tg,i',ifs,0⟩] sc pos) 0 (.ref a1) (.ref a2) (compEnv sc C c.fm.env 0)) (compPost (MD S) c.A no use Q (.ref a2) C) {s1 with heap:=h4,toks:=tk}:=by
 have J:=wL (b:=0) B.so c.ok c.kd I1 k4 g3 m hn
 have b1:=I1.freeze.above g1
 have b2:=I1.freeze.above g2
 refine Ab (c:=⟨⟨compEnv sc C c.fm.env 0,[C]⟩,ks',nL c.fm c.F s1.heap,c.A,J.1,qW B.so c.ok c.kd,c.ro⟩) B.hel B.hcs B.m1 B.m2 B.m3 It n21 B.hA B.hT B.hE hz.tl hz.hd q
  ⟨J.2,⟨b1.1,b1.2.1,b1.2.2,λz=>n1 (List.mem_singleton.mp z)⟩,⟨b2.1,b2.2.1,b2.2.2,λz=>n2 (List.mem_singleton.mp z)⟩,st,_,_,acc,.nil⟩ hc λW2 s2 L J u2 z k=>Exists.elim z λitems z=>Exists.elim z λmi z=>Exists.elim J.vars.ns λmm hns=>?_
 have J':=J.wd u2 z.1
 have ow:=J'.1.own _ (.head _)
 exact hQ _ _ _ _ mm (L.trans J'.2) (I1.P8 c.ok (L.trans J'.2) J'.1.tob6) ⟨ow.1,(I1.above g3).f,ow.2.2.1,(I1.above g3).ow⟩ hns.1 (.lst Wd.pL hz.hd (z.2.mono J'.2)) ⟨k.gens,k.os⟩
theorem qV (B:ZX S G n c HC ks' elt t cs e' tg ifs sc) (hz:fN (xs.length::σ2.O)) (q:jI (hK t (isTup t)) (mh G cs) (ev G elt) vs {σ1 with V:=ji ks' σ1.V}=some (xs,σ2)) (hc:HC σ1.H)
  (hQ:Behind c W1 {σ2 with V:=σ1.V,O:=xs.length::σ2.O} xs s1 use Q) (I1:c.I W1 σ1 s1) (o:Obj) (St':Nat->Heap->Prop) (It:wm S W1 HC vs s1.heap.objs.size St') (st:St' 0 (s1.heap.push o)) :
  wpAny (MD S) c.A (newList []) (λacc s3=>wpAny (MD S) c.A (newFunctionEnv sc c.fm.env.globals (nK c.fm.env.cells sc.names) [] c.fm.env.qual none .none (some c.fm.env)) (λcenv s4=>codeAny (MD S) c.A (.compStart (.ListComp e' [⟨tg,i',ifs,0⟩] sc pos) 0 (.ref s1.heap.objs.size) acc {cenv with scope:=relabel sc c.fm.env}) (compPost (MD S) c.A no use Q acc cenv.locals) s4) no s3) no {s1 with heap:=s1.heap.push o}:=by
 refine wpAny_newList ?_ (Nat.zero_le _)
 refine wpAny_newFunctionEnv (λx hx=>?_) (λx hx=>by cases hx) (λh4 hn sb=>?_) B.so.kind
 ·exact B.so.name hx (λe _=>by rw [e];exact λz=>by cases z) (λ_ e _ _=>by rw [e];exact λz=>by cases z) λe=>by rw [e];exact λz=>by cases z
 have e2:(s1.heap.push o).objs.size=s1.heap.objs.size+1:=Heap.size_push ..
 have e3:((s1.heap.push o).push {cls:=.type "list",data:=.seq ([]:List Value).toArray}).objs.size=s1.heap.objs.size+1+1:=(Heap.size_push ..).trans (congrArg (·+1) e2)
 have keep :∀a o',a≠s1.heap.objs.size+1+1->(((s1.heap.push o).push {cls:=.type "list",data:=.seq ([]:List Value).toArray}).push {cls:=.type "dict",data:=.dict #[]}).get? a=some o'->h4.get? a=some o':=λa o' ne e=>(sb.2 a (e3▸ne)).trans e
 have lt :∀{a o'},s1.heap.get? a=some o'->a≠s1.heap.objs.size+1+1:=λe=>Nat.ne_of_lt (Nat.lt_of_lt_of_le (Heap.lt_size e) (Nat.le_add_right _ 2))
 have loop :∀tk,codeAny (MD S) c.A (.compLoop (.ListComp e' [⟨tg,i',ifs,0⟩] sc pos) 0 (.ref s1.heap.objs.size) (.ref (s1.heap.push o).objs.size) (compEnv sc ((s1.heap.push o).push {cls:=.type "list",data:=.seq ([]:List Value).toArray}).objs.size c.fm.env 0))
   (compPost (MD S) c.A no use Q (.ref (s1.heap.push o).objs.size) ((s1.heap.push o).push {cls:=.type "list",data:=.seq ([]:List Value).toArray}).objs.size) {s1 with heap:=h4,toks:=tk}:=λtk=>
  Io B (Nat.le_refl _) (e2▸Nat.le_add_right _ 1) (e3▸Nat.le_add_right _ 2) (e2▸Nat.succ_ne_self _) (e3▸Nat.ne_of_lt (Nat.lt_add_of_pos_right (n:=s1.heap.objs.size) (k:=2) (by decide))) (e3▸e2▸Nat.ne_of_lt (Nat.lt_succ_self _)) It
   (It.frame 0 _ _ st λo' e=>keep _ o' (Nat.ne_of_lt (Nat.lt_add_of_pos_right (n:=s1.heap.objs.size) (k:=2) (by decide))) (Heap.get?_push_of_some _ (Heap.get?_push_of_some _ e))) (keep _ _ (e2▸Nat.ne_of_lt (Nat.lt_succ_self _)) (Heap.get?_push_of_some _ (Heap.get?_push_size _ rfl))) hn
   (λa o' e=>keep a o' (lt e) (Heap.get?_push_of_some _ (Heap.get?_push_of_some _ (Heap.get?_push_of_some _ e)))) I1 hc hz q hQ
 exact codeAny_compStart_list (loop _) (zj (It.self 0 c.A _ _ (It.frame 0 _ _ st λo' e=>keep _ o' (Nat.ne_of_lt (Nat.lt_add_of_pos_right (n:=s1.heap.objs.size) (k:=2) (by decide))) (Heap.get?_push_of_some _ (Heap.get?_push_of_some _ e))) (loop _)))
theorem uw {it:Ex} (hit:SE S G n it) (hel:SE S G n elt) (hcs:K1 S G n cs) {i:Expr} (h1:mE c.ks it i=true) (h2:mE ks' elt e'=true) (h3:kK ks' cs ifs=true) (h4:nj ks' t tg=true) (h5:Yi c.ks ks' sc=true) (h6:gN i=true)
  {σ:St} {s:Shared} {W:Wd} {p:AV×St} (q:ev G (.comp ks' elt t it cs) σ=some p) (I:c.I W σ s) (hz:fN p.2.O) (hB :∀xs W1 s1,p.1=.lst xs->W.Le W1->Kp s s1->Behind c W1 p.2 xs s1 use Q) :
  wpAny (MD S) c.A (comprehension (.ListComp e' [⟨tg,i,ifs,0⟩] sc pos) sc c.fm.env (firstIterPos [⟨tg,i,ifs,0⟩] pos) (newList []) false (eval i c.fm.env) use) Q no s:=by
 have so:=PN h5
 refine wpAny_comprehension_free (g:=⟨tg,i,ifs,0⟩) (gs:=[]) (cl:=nK c.fm.env.cells sc.names) rfl (λx=>rd h6) (wK λp m z=>so.name m (λa _=>by rw [a]at z;cases z) (λy _ hy hk=>Exists.elim (I.vars.cell (bY y) (c.kd y _ hk)) λd l=>Exists.elim l λv l=>⟨d,hy▸l.1⟩) λa=>by rw [a]at z;cases z) so.kind
  (λp m z=>so.name m (λ_ l=>l) (λ_ a _ _=>by rw [a]at z;cases z) λa=>by rw [a]at z;cases z) ((hit c i h1 W σ s I).seq (λp=>.opt λvs=>Mon.bd (L:=p.2.O) (mB (λ_ _=>jS) (fQ cs).ts (br elt).v vs ⟨p.2.H,ji ks' p.2.V,p.2.O⟩) λq=>.one) q hz λW1 p1 u s1 q L1 r1 I1 k1=>ar q λvs q e2=>ar q λx q e3=>?_)
 have e:=Option.some.inj q
 have e':({x.2 with V:=p1.2.V,O:=x.1.length::x.2.O}:St)=p.2:=congrArg (·.2) e
 have hB':Behind c W1 {x.2 with V:=p1.2.V,O:=x.1.length::x.2.O} x.1 s1 use Q:=e'▸hB x.1 W1 s1 (congrArg (·.1) e).symm L1 k1
 have hz':fN (x.1.length::x.2.O):=j6 e' hz
 refine b7 e2 (λk ec ek=>bR ec (λel pu=>(r1.eZ ek).A4 I1.tob6 el λax items m er g _ _ _=>?_) λe3 _=>nn e3) λe2=>yY e2 r1 I1 λob St' hf It st=>qV ⟨hel,hcs,h2,h3,h4,so,λ_ _ _ _ _=>trivial,λ_ _ _ _=>trivial,λ_ _ _ _=>trivial⟩ hz' e3 trivial hB' I1 ob St' It st
 have hcn:cs=.nil:=by cases cs<;>first|rfl|exact absurd (bf pu).2 Bool.false_ne_true
 subst hcn
 refine wpAny_pyIter_list ⟨_,g,rfl,m,rfl⟩ (qV (HC:=λH=>fb H k=some vs) ⟨hel,hcs,h2,h3,h4,so,λσ σ' v q hc=>by rw [MW q];exact hc,λσ p q hc=>aw q hc,λσ p q hc=>by rw [IP elt (bf pu).1 q];exact hc⟩ hz' e3 el hB' I1 _ _ (.list _ λW' F' H' h' L J hc=>?_) ⟨_,Heap.get?_push_size _ rfl,rfl,rfl⟩)
 exact Exists.elim (J.hs k ax _ (L.get er) (pA hc)) λob z=>OR.listE (P:=λob=>h'.get? ax=some ob->_) z.2 (λitems m _ rl g=>⟨items,⟨_,g,rfl,m,rfl⟩,rl⟩) z.1
theorem Nb {it:Ex} (hit:SE S G n it) (hel:SE S G n elt) (hcs:K1 S G n cs):SE S G n (.comp ks' elt t it cs):=λc e h W σ s I=>zd h λe' tg i ifs sc pos h1 h2 h3 h4 h5 h6 p q hz=>by
 rw [arm_eval_ListComp]
 exact uw hit hel hcs h1 h2 h3 h4 h5 h6 q I hz λxs W1 s1 e L1 k1=>ud λa s' p=>(e.symm▸p:bX S W1 c.F c.fm _ s1 (VP S _) a s').lift L1 k1
end
section
variable {S:aY} {G:cy} {n:Nat}
theorem tv {o:Option AV} {H:List AO} {σ:St} {p:Bool×St} {P:Prop} (q:bd o (λr=>bd (bW H r) λb=>some (b,σ))=some p) (k :∀v,o=some v->σ=p.2->bW H v=some p.1->P):P:=
 ar q λv q e=>ar q λb q e'=>aw (P:=λp:Bool×St=>(∀v,o=some v->σ=p.2->bW H v=some p.1->P)->P) q (λk=>k v e rfl e') k
theorem tw {o:Option (AV×St)} {p:Bool×St} {P:Prop} (q:bd o (λr=>bd (bW r.2.H r.1) λb=>some (b,r.2))=some p) (k :∀v,o=some (v,p.2)->bW p.2.H v=some p.1->P):P:=
 ar q λv q e=>ar q λb q e'=>aw (P:=λp:Bool×St=>(∀v,o=some (v,p.2)->bW p.2.H v=some p.1->P)->P) q (λk=>k v.1 e e') k
theorem t_c {v:AV} (GO:bq S G n):ST S G n (.c v):=qc GO c_c (λks e h env w=>SD h λc k pos _=>rfl) λσ p q=>ar q λb q e=>aw (P:=λp:Bool×St=>∃v',ev G (.c v) σ=some (v',p.2)/\bW p.2.H v'=some p.1) q ⟨v,rfl,e⟩
theorem t_v {x:Nm} (GO:bq S G n):ST S G n (.v x):=qc GO c_v (λks e h env w=>SI h λpos _=>rfl) λσ p q=>tv q λv e z t=>⟨v,aA e (z▸rfl),z▸t⟩
theorem t_g {x:Nm} (GO:bq S G n):ST S G n (.g x):=qc GO (c_g GO) (λks e h env w=>SF h λpos _ _=>rfl) λσ p q=>tv q λv e z t=>⟨v,aA e (z▸rfl),z▸t⟩
theorem ZP {i:Ex} {a:Nm} (GO:bq S G n) (hi:SE S G n i):ST S G n (.at i a):=qc GO (Rr GO hi) (λks e h env w=>Lx h λv pos _ _=>rfl) λσ p q=>ar q λx q e1=>tv q λv e z t=>⟨v,aA e1 (aA e (z▸rfl)),z▸t⟩
theorem ZQ {x i:Ex} (GO:bq S G n) (hx:SE S G n x) (hi:SE S G n i):ST S G n (.ix x i):=qc GO (RA hx hi) (λks e h env w=>Ly h λv s pos _ _ _=>rfl) λσ p q=>ar q λx q e1=>ar q λy q e2=>tv q λv e z t=>⟨v,aA e1 (aA e2 (aA e (z▸rfl))),z▸t⟩
theorem P5 {f:Ex} {as:fe} (GO:bq S G n) (hf:SE S G n f) (hs:Cb S G n as):ST S G n (.call f as):=qc GO (CB GO hf hs) (λks e h env w=>zc h λg args pos _ _ _=>rfl) λσ p q=>ar q λx q e1=>ar q λy q e2=>tw q λv e t=>⟨v,aA e1 (aA e2 e),t⟩
theorem KG {o:Ex} {m:Nm} {as:fe} (GO:bq S G n) (ho:SE S G n o) (hs:Cb S G n as):ST S G n (.aq o m as):=qc GO (yh GO ho hs) (λks e h env w=>vh h λv ap args pos _ _ _ _ _=>rfl) λσ p q=>ar q λx q e1=>ar q λf q e2=>ar q λy q e3=>tw q λv e t=>⟨v,aA e1 (aA e2 (aA e3 e)),t⟩
structure AE (S:aY) (G:cy) (n:Nat) (i:Ex):Prop where
 e:SE S G n i
 t:ST S G n i
structure Mg (S:aY) (G:cy) (n:Nat) (es:fe):Prop where
 e:Cb S G n es
 a:B9 S G n es
 o:QV S G n es
 at_:t6 S G n es
 ot:Cc S G n es
 ts:K1 S G n es
theorem Mg.nil:Mg S G n .nil:=⟨Nc,Na,RH,H9,Nh,Ie⟩
theorem Mg.cons (GO:bq S G n) {e:Ex} {r:fe} (h:AE S G n e) (k:Mg S G n r):Mg S G n (.cons e r):=⟨Ia h.e k.e,M9 GO h.e k.a,RF GO h.e k.o,H8 h.t k.at_,Ng h.t k.ot,Ic h.t k.ts⟩
theorem lx :∀(r:kz) (x:AV) (σ:St),Mon σ.O (uj G x r σ)
 |.nil,_,_=>.no
 |.cons _ e r,x,σ=>yk (br e) (lx r) x σ
theorem uK :∀(r:tZ) (σ:St),Mon σ.O (Ai G r σ)
 |.nil,_=>.ret
 |.cons _ e r,σ=>yN (br e) (uK r) σ
theorem fh (GO:bq S G n) (CA:gc S) (i:Ex):AE S G n i:=
 Ex.rec (motive_1:=λi=>AE S G n i) (motive_2:=λes=>Mg S G n es) (motive_3:=λr=>Qh S G n r) (motive_4:=λks=>SK S G n ks)
  (λv=>⟨c_c,t_c GO⟩) (λx=>⟨c_v,t_v GO⟩) (λx=>⟨c_g GO,t_g GO⟩) ⟨Yy,jD λ_=>rfl⟩ ⟨Rt,jD λ_=>rfl⟩
  (λe a h=>⟨Rr GO h.e,ZP GO h.e⟩) (λe i h1 h2=>⟨RA h1.e h2.e,ZQ GO h1.e h2.e⟩) (λe lo hi h1 h2 h3=>⟨YA h1.e h2.e h3.e,jD λ_=>rfl⟩)
  (λo a b h1 h2=>⟨Ru h1.e h2.e,jD λ_=>rfl⟩) (λa r h1 h2=>⟨Rx h1.e (lx r) h2,Xc h1.e (lx r) h2⟩) (λes h=>⟨Rq h.a,Xb h.at_⟩) (λes h=>⟨Yz h.o,ZR h.ot⟩)
  (λe h=>⟨RD GO h.e,Xe h.t⟩) (λe h=>⟨RC h.e,jD λ_=>rfl⟩) (λt a b h1 h2 h3=>⟨Rz h1.t h2.e h3.e,Xd h1.t h2.t h3.t⟩)
  (λes h=>⟨RI h.e,jD λ_=>rfl⟩) (λes f h=>⟨RB h.e,jD λ_=>rfl⟩) (λks f h=>⟨Ry GO h,jD λ_=>rfl⟩)
  (λf as h1 h2=>⟨CB GO h1.e h2.e,P5 GO h1.e h2.e⟩) (λo m as h1 h2=>⟨yh GO h1.e h2.e,KG GO h1.e h2.e⟩) (λks elt t it cs h1 h2 h3=>⟨Nb h2.e h1.e h3.ts,jD λ_=>rfl⟩)
  .nil (λe r h1 h2=>.cons GO h1 h2) Rw (λo e r h1 h2=>Rv CA h1.e (lx r) h2) Nd (λk e r h1 h2=>Ib (uK r) h1.e h2) i
theorem Cg (GO:bq S G n) (CA:gc S) :∀es:fe,Mg S G n es
 |.nil=>.nil
 |.cons e r=>.cons GO (fh GO CA e) (Cg GO CA r)
end
noncomputable def Si (o:Option Kd):Bool:=decide (o=some .loc)||decide (o=some .qt)
theorem Jn {o:Option Kd} (h:Si o=true):o=some .loc\/o=some .qt:=(Bool.or_eq_true_iff.mp h).imp of_decide_eq_true of_decide_eq_true
noncomputable def mT (ks:c4) (t:Tg) (e:Expr):Bool:=match t with
 |.v n=>iy 2 e&&zi n (cz e).s&&Si (lk ks n)
 |.at i a=>iy 3 e&&zi a (cz e).s&&mE ks i (cz e).a
 |.ix a i=>iy 4 e&&mE ks a (cz e).a&&mE ks i (cz e).b&&jj (cz e).b
 |.bad=>true
@[elab_as_elim] theorem Oz {P:Expr->Prop} {ks:c4} {x:Nm} {e:Expr} (h:mT ks (.v x) e=true) (f :∀pos,(lk ks x=some .loc\/lk ks x=some .qt)->P (.Name (bY x) pos)):P e:=
 have z:=fL h
 to2 (F:=λs=>.Name s (cz e).p) (d4 z.1) (gM z.2.1) (f _ (Jn z.2.2))
@[elab_as_elim] theorem EL {P:Expr->Prop} {ks:c4} {i:Ex} {a:Nm} {e:Expr} (h:mT ks (.at i a) e=true) (f :∀v pos,mE ks i v=true->P (.Attribute v (bY a) pos)):P e:=
 have z:=fL h
 to2 (F:=λs=>.Attribute (cz e).a s (cz e).p) (d4 z.1) (gM z.2.1) (f _ _ z.2.2)
@[elab_as_elim] theorem EM {P:Expr->Prop} {ks:c4} {a i:Ex} {e:Expr} (h:mT ks (.ix a i) e=true) (f :∀v s pos,mE ks a v=true->mE ks i s=true->jj s=true->P (.Subscript v s pos)):P e:=
 have z:=iW h
 iQ z.1 (f _ _ _ z.2.1 z.2.2.1 z.2.2.2)
section
variable {S:aY} {G:cy} {n:Nat} {W W':Wd} {F:Addr->Option Obj} {fm:Fm} {σ σ':St} {s:Shared} {A:Around} {E:Value->Shared->Prop}
theorem cq.ZI {vs:List AV} {items:Array Value} (rs:cq S W vs items.toList) {j:Nat} {a:AV} {v:Value} (r:VR S W a v):cq S W (vs.set j a) (items.setIfInBounds j v).toList:=
 (Array.toList_setIfInBounds:(items.setIfInBounds j v).toList=_)▸rs.set r
theorem vv {x k r:AV} {o i v:Value} (h:vu x k r σ=some σ') (hx:VR S W x o) (hk:VR S W k i) (hv:VR S W r v) (ok:gC S fm) (I:Inv S W F fm σ s.heap):wpAny (MD S) A (setItem o i v) (bX S W F fm σ' s (λ_ _=>True)) E s:=
 ar h λn h e=>b7 h (λstr h ek=>ar h λaR h e2=>ar h λkvs' h e3=>(hx.eZ e).JC I.tob6 e2 λa o ps e' g d z rs=>(hk.gU ek).gO λt _=>aw h (
   have r':=rs.WJ d.nd e3 hv
   wpAny_setItem_pairs (strKind_is _ _ _ _) (d.at g) (λh' d' sb=>jR.of d' λo' g' dd=>⟨W,.refl W,trivial,I.set e' sb g' (.dict rfl dd (r'.2.symm▸z) r'.1) ok,rfl,rfl⟩) (rs.length▸dg z))) λh=>
  ar h λj h ek=>ar h λvs h e2=>ar h λp h e3=>(hx.eZ e).A4 I.tob6 e2 λa items m e' g hs z rs=>(hk.jQ ek).kY λt=>aw h (gF e3 λb q=>by
   subst q
   have b1:=of_decide_eq_true (bf b).1
   have b2:=of_decide_eq_true (bf b).2
   have u:=PySem.IsL.update (g:IsL s.heap a items m) (λxs=>xs.setIfInBounds j.toNat v)
   rw [if_pos (beq_iff_eq.mpr Array.size_setIfInBounds)]at u
   exact ki_setAt (n:=m) g b1 (Int.lt_trans ((Int.toNat_lt b1).mp b2) (js z)) (hs▸(Int.toNat_lt b1).mp b2) ⟨W,.refl W,trivial,I.set e' (Heap.SameBut.update ..) u (.list (Nat.le_trans (Nat.le_of_eq List.length_set) z) (rs.ZI hv)) ok,rfl,rfl⟩)
end
section
variable {S:aY} {G:cy} {n:Nat} {c:Cx S n} {W:Wd} {σ σ':St} {s:Shared} {α β:Type} {R:Wd->α->β->Prop}
theorem At.th {o:Option (α×St)} {t:Sem β} {f:α×St->Option St} {r:St} {Q:β->Shared->Prop} (h:At c W s o t R) (m :∀p,c6 p.2.O (f p)) (e:Mine.bd o f=some r) (hz:fN r.O)
  (k :∀W1 p b s1,f p=some r->W.Le W1->R W1 p.1 b->c.I W1 p.2 s1->Kp s s1->Q b s1):wpAny (MD S) c.A t Q no s:=
 ar e λp e e'=>Mine.seq (h p e' (m p r e hz)) λW1 b s1 L r I k'=>k W1 p b s1 e L r I k'
theorem Lu {x:Nm} (h:lk c.ks x=some .loc\/lk c.ks x=some .qt):c.fm.env.kindOf (bY x)=some .local\/c.fm.env.kindOf (bY x)=some .cell:=h.imp (c.kd x _) (c.kd x _)
theorem LX {t:Tg} {tg:Expr} {av:AV} {v:Value} (GO:bq S G n) (CA:gc S) (os:B2 S c.fm) (hm:mT c.ks t tg=true) (q:iN G t av σ=some σ') (I:c.I W σ s) (hz:fN σ'.O) (r:VR S W av v) :
  wpAny (MD S) c.A (assign tg c.fm.env v) (bX S W c.F c.fm σ' s (λ_ _=>True)) no s:=by
 cases t with
 |bad=>exact nn q
 |v x=>exact Oz hm λpos hl=>nt c.ok (λ_=>os) I r (Lu hl) λs' I' k'=>aw q ⟨W,.refl W,trivial,I',k'⟩
 | «at» e a=>
  refine EL hm λo pos hm1=>?_
  rw [arm_assign_Attribute]
  refine wpAny_bind (wpAny_holding (((fh GO CA e).e c o hm1 W σ s I).th (λp=>g9) q hz λW1 p u s1 q L1 r1 I1 k1=>wpAny_bind (wpAny_standAt (wpAny_bind (wpAny_holding (wpAny_mono (vt q r1 (r.mono L1) GO.cls c.ok I1 hz) (λ_ s2 p=>wpAny_release (p.lift L1 k1)) λ_ _ x=>x))))))
 |ix e i=>
  refine EM hm λo sl pos h1 h2 h3=>?_
  rw [arm_assign_Subscript]
  exact wpAny_bind (wpAny_holding (((fh GO CA e).e c o h1 W σ s I).th (λp=>((br i).v _).oD λq=>fJ) q hz λW1 p u s1 q L1 r1 I1 k1=>wpAny_bind (wpAny_holding (((fh GO CA i).e c sl h2 W1 _ s1 I1).th (λp=>fJ) q hz λW2 p' w s2 q L2 r2 I2 k2=>wpAny_bind (wpAny_standAt (wpAny_bind (wpAny_holding (wpAny_mono (vv q (r1.mono L2) r2 (r.mono (L1.trans L2)) c.ok I2) (λ_ s3 p=>wpAny_release (p.lift (L1.trans L2) (k1.trans k2))) λ_ _ x=>x))))))))
end
noncomputable def Yd (ks:c4):List Tg->List Expr->Bool
 |[],l=>l.isEmpty
 |t::ts,l=>(match l with|[]=>false|e::es=>mT ks t e&&notStar e&&Yd ks ts es)
noncomputable def eqB:Bool->Bool->Bool
 |true,true=>true|false,false=>true|_,_=>false
noncomputable def oH (x:Nm) (p:Pos) (e:Expr):Bool:=p.line==(cz e).p.line&&!((cz e).sc.names.any λq=>q.1==bY x&&(q.2==.local||q.2==.cell))
noncomputable def xd (e:Ex):Bool:=match e with|.comp ..=>true|_=>false
@[elab_as_elim] theorem AN {P:Ex->Prop} {e:Ex} (h:xd e=true) (k :∀ks elt t it cs,P (.comp ks elt t it cs)):P e:=by
 cases e with
 |comp ks elt t it cs=>exact k ks elt t it cs
 |_=>exact absurd h Bool.false_ne_true
noncomputable def Rm (b:nP) (o:Operator):Bool:=(match b with|.add=>true|.sub=>true|.mul=>false|.fdiv=>false|.mod=>false)&&decide (o=nJ b)
theorem HX {b:nP} {o:Operator} (h:Rm b o=true):(b=.add\/b=.sub)/\o=nJ b:=
 ⟨by cases b with
  |add=>exact .inl rfl
  |sub=>exact .inr rfl
  |_=>exact absurd (bf h).1 Bool.false_ne_true,of_decide_eq_true (bf h).2⟩
structure Yo where
 n:Nat
 w:Stmt
 a:Expr
 b:Expr
 l:List Stmt
 m:List Stmt
 es:List Expr
 u:Option Expr
 v:Option Expr
 op:Operator
 p:Pos
noncomputable def Fg (s:Stmt):Yo:=⟨0,s,.Constant .none 0 ⟨0,0,0,0⟩,.Constant .none 0 ⟨0,0,0,0⟩,[],[],[],none,none,.Add,⟨0,0,0,0⟩⟩
noncomputable def cg (s:Stmt):Yo:=match s with
 |.Expr v p=>{Fg s with n:=1,a:=v,p:=p}
 |.Assign ts v p=>{Fg s with n:=2,es:=ts,a:=v,p:=p}
 |.AugAssign t o v p=>{Fg s with n:=3,a:=t,op:=o,b:=v,p:=p}
 |.If t a b p=>{Fg s with n:=4,a:=t,l:=a,m:=b,p:=p}
 |.While t a b p=>{Fg s with n:=5,a:=t,l:=a,m:=b,p:=p}
 |.For t i a b p=>{Fg s with n:=6,a:=t,b:=i,l:=a,m:=b,p:=p}
 |.Return v p=>{Fg s with n:=7,u:=v,p:=p}
 |.Break p=>{Fg s with n:=8,p:=p}
 |.Pass p=>{Fg s with n:=9,p:=p}
 |.Assert t m p=>{Fg s with n:=10,a:=t,v:=m,p:=p}
 |s=>Fg s
noncomputable def M4 (n:Nat) (q:Yo):Stmt:=match n with
 |1=>.Expr q.a q.p
 |2=>.Assign q.es q.a q.p
 |3=>.AugAssign q.a q.op q.b q.p
 |4=>.If q.a q.l q.m q.p
 |5=>.While q.a q.l q.m q.p
 |6=>.For q.a q.b q.l q.m q.p
 |7=>.Return q.u q.p
 |8=>.Break q.p
 |9=>.Pass q.p
 |10=>.Assert q.a q.v q.p
 |_=>q.w
theorem H4 (s:Stmt):M4 (cg s).n (cg s)=s:=by cases s<;>rfl
noncomputable def u3 (n:Nat) (s:Stmt):Bool:=Nat.beq (cg s).n n
theorem jy {n:Nat} {s:Stmt} (h:u3 n s=true):M4 n (cg s)=s:=Nat.eq_of_beq_eq_true h▸H4 s
theorem sF {n:Nat} {s:Stmt} {P:Stmt->Prop} (h:u3 n s=true) (f:P (M4 n (cg s))):P s:=jy h▸f
theorem to3 {β:Type} {P:Stmt->Prop} {F:β->Stmt} {s:Stmt} {a b:β} (h:F a=s) (q:a=b) (p:P (F b)):P s:=h▸q▸p
noncomputable section
mutual
noncomputable def mS:c4->Sx->Stmt->Bool
 |ks,.exp e,s=>u3 1 s&&mE ks e (cg s).a&&iK (cg s).a
 |ks,.asg t e,s=>u3 2 s&&bindB (jN (cg s).es) λx=>mT ks t x&&mE ks e (cg s).a&&iK (cg s).a&&oh x
 |ks,.wH n e,s=>u3 2 s&&bindB (jN (cg s).es) λx=>iy 2 x&&zi n (cz x).s&&(u0 (lk ks n)&&xd e&&mE ks e (cg s).a&&oH n (cz x).p (cg s).a)
 |ks,.iN ts e,s=>u3 2 s&&bindB (jN (cg s).es) λx=>iy 11 x&&(Yd ks ts (cz x).l&&mE ks e (cg s).a&&iK (cg s).a&&oh (cg s).a)
 |ks,.aug t o e,s=>u3 3 s&&Rm o (cg s).op&&mT ks t (cg s).a&&mE ks e (cg s).b
 |ks,.ite t a b,s=>u3 4 s&&mE ks t (cg s).a&&rr ks a (cg s).l&&rr ks b (cg s).m
 |ks,.nN t b,s=>u3 5 s&&mE ks t (cg s).a&&rr ks b (cg s).l&&(cg s).m.isEmpty
 |ks,.fr ts tup e b,s=>u3 6 s&&(cg s).m.isEmpty&&(nj ks ts (cg s).a&&eqB tup (isTup ts)&&mE ks e (cg s).b&&rr ks b (cg s).l&&gN (cg s).b)
 |ks,.ret e,s=>u3 7 s&&bindB (cg s).u λx=>mE ks e x
 |_,.brk,s=>u3 8 s
 |_,.pass,s=>u3 9 s
 |ks,.zZ e,s=>u3 10 s&&mE ks e (cg s).a&&(cg s).v.isNone
 |_,.bad,_=>true
noncomputable def rr:c4->c5->List Stmt->Bool
 |_,.nil,l=>l.isEmpty
 |ks,.cons s r,l=>(match l with|[]=>false|x::xs=>mS ks s x&&rr ks r xs)
end
end
section
variable {ks:c4} {st:Stmt}
section
variable {P:Stmt->Prop}
@[elab_as_elim] theorem Ov {e:Ex} (h:mS ks (.exp e) st=true) (f :∀v pos,mE ks e v=true->iK v=true->P (.Expr v pos)):P st:=
 have z:=fL h
 sF z.1 (f _ _ z.2.1 z.2.2)
@[elab_as_elim] theorem Ow {t:Ex} {a b:c5} (h:mS ks (.ite t a b) st=true) (f :∀t' a' b' pos,mE ks t t'=true->rr ks a a'=true->rr ks b b'=true->P (.If t' a' b' pos)):P st:=
 have z:=iW h
 sF z.1 (f _ _ _ _ z.2.1 z.2.2.1 z.2.2.2)
@[elab_as_elim] theorem Ou (h:mS ks .brk st=true) (f :∀pos,P (.Break pos)):P st:=sF h (f _)
@[elab_as_elim] theorem JO (h:mS ks .pass st=true) (f :∀pos,P (.Pass pos)):P st:=sF h (f _)
@[elab_as_elim] theorem Ox {e:Ex} (h:mS ks (.ret e) st=true) (f :∀v pos,mE ks e v=true->P (.Return (some v) pos)):P st:=
 let ⟨_,q,h'⟩:=hU (bf h).2
 to3 (F:=λo=>.Return o (cg st).p) (jy (bf h).1) q (f _ _ h')
@[elab_as_elim] theorem JN {e:Ex} (h:mS ks (.zZ e) st=true) (f :∀t pos,mE ks e t=true->P (.Assert t none pos)):P st:=
 have z:=fL h
 to3 (F:=λo=>.Assert (cg st).a o (cg st).p) (jy z.1) (Option.isNone_iff_eq_none.mp z.2.2) (f _ _ z.2.1)
@[elab_as_elim] theorem Oy {t:Ex} {b:c5} (h:mS ks (.nN t b) st=true) (f :∀t' b' pos,mE ks t t'=true->rr ks b b'=true->P (.While t' b' [] pos)):P st:=
 have z:=iW h
 to3 (F:=λo=>.While (cg st).a (cg st).l o (cg st).p) (jy z.1) (List.isEmpty_iff.mp z.2.2.2) (f _ _ _ z.2.1 z.2.2.1)
theorem NB {a b:Bool} (h:eqB a b=true):a=b:=by cases a<;>cases b<;>first|rfl|cases h
@[elab_as_elim] theorem LB {ts:List Nm} {tup:Bool} {e:Ex} {b:c5} (h:mS ks (.fr ts tup e b) st=true) (f :∀tg it body pos,nj ks ts tg=true->tup=isTup ts->mE ks e it=true->rr ks b body=true->gN it=true->P (.For tg it body [] pos)):P st:=
 have x:=fL h
 have z:=bf x.2.2
 have y:=iW z.1
 to3 (F:=λo=>.For (cg st).a (cg st).b (cg st).l o (cg st).p) (jy x.1) (List.isEmpty_iff.mp x.2.1) (f _ _ _ _ y.1 (NB y.2.1) y.2.2.1 y.2.2.2 z.2)
theorem xp {f':Expr->Bool} (h:(u3 2 st&&bindB (jN (cg st).es) f')=true) (f :∀x,f' x=true->P (.Assign [x] (cg st).a (cg st).p)):P st:=
 let ⟨_,q,h'⟩:=hU (bf h).2
 to3 (F:=λo=>.Assign o (cg st).a (cg st).p) (jy (bf h).1) (jt q) (f _ h')
@[elab_as_elim] theorem Oq {t:Tg} {e:Ex} (h:mS ks (.asg t e) st=true) (f :∀tg v pos,mT ks t tg=true->mE ks e v=true->iK v=true->oh tg=true->P (.Assign [tg] v pos)):P st:=
 xp h λ_ h=>
 have z:=iW h
 f _ _ _ z.1 z.2.1 z.2.2.1 z.2.2.2
@[elab_as_elim] theorem JL {x:Nm} {e:Ex} (h:mS ks (.wH x e) st=true) (f :∀p v pos,lk ks x=some .loc->xd e=true->mE ks e v=true->oH x p v=true->P (.Assign [.Name (bY x) p] v pos)):P st:=
 xp h λt h=>
 have y:=fL h
 have z:=iW y.2.2
 to2 (P:=λt=>P (.Assign [t] (cg st).a (cg st).p)) (F:=λs=>.Name s (cz t).p) (d4 y.1) (gM y.2.1) (f _ _ _ (o5 z.1) z.2.1 z.2.2.1 z.2.2.2)
@[elab_as_elim] theorem JM {ts:List Tg} {e:Ex} (h:mS ks (.iN ts e) st=true) (f :∀es k p v pos,Yd ks ts es=true->mE ks e v=true->iK v=true->oh v=true->P (.Assign [.Tuple es k p] v pos)):P st:=
 xp h λt h=>
 have z:=iW (bf h).2
 iQ (P:=λt=>P (.Assign [t] (cg st).a (cg st).p)) (bf h).1 (f _ _ _ _ _ z.1 z.2.1 z.2.2.1 z.2.2.2)
@[elab_as_elim] theorem Ot {t:Tg} {o:nP} {e:Ex} (h:mS ks (.aug t o e) st=true) (f :∀tg v pos,(o=.add\/o=.sub)->mT ks t tg=true->mE ks e v=true->P (.AugAssign tg (nJ o) v pos)):P st:=
 have z:=iW h
 have w:=HX z.2.1
 to3 (F:=λo=>.AugAssign (cg st).a o (cg st).b (cg st).p) (jy z.1) w.2 (f _ _ _ w.1 z.2.2.1 z.2.2.2)
end
theorem JP {l:List Stmt} (h:rr ks .nil l=true):l=[]:=List.isEmpty_iff.mp h
@[elab_as_elim] theorem pD {P:List Stmt->Prop} {i:Sx} {r:c5} {l:List Stmt} (h:rr ks (.cons i r) l=true) (f :∀x xs,mS ks i x=true->rr ks r xs=true->P (x::xs)):P l:=by
 cases l with
 |nil=>exact absurd h Bool.false_ne_true
 |cons x xs=>exact f x xs (bf h).1 (bf h).2
end
noncomputable def FR (S:aY) (W:Wd) (f:Fl) (g:Flow):Prop:=match f with
 |.nx=>g=.next
 |.bk=>g=.brk
 |.rt v=>∃u,g=.ret u/\VR S W v u
section
variable {S:aY} {G:cy} {n:Nat}
noncomputable def SX (S:aY) (G:cy) (n:Nat) (i:Sx):Prop:=∀(c:Cx S n) (st:Stmt),mS c.ks i st=true->B2 S c.fm->∀W σ s,c.I W σ s->At c W s (ex G i σ) (exec st c.fm.env) (FR S)
noncomputable def HK (S:aY) (G:cy) (n:Nat) (i:c5):Prop:=∀(c:Cx S n) (l:List Stmt),rr c.ks i l=true->B2 S c.fm->∀W σ s,c.I W σ s->At c W s (cG G i σ) (execs l c.fm.env) (FR S)
section
variable {W:Wd} {p r:Fl×St} {g:Flow} {k:St->Option (Fl×St)} {P:Flow->Prop}
theorem Pn (q:Fb p k=some r) (h:FR S W p.1 g) (n:k p.2=some r->P .next) (b:p=r->FR S W r.1 .brk->P .brk) (t :∀u,p=r->FR S W r.1 (.ret u)->P (.ret u)):P g:=by
 obtain⟨f,σ⟩:=p
 cases f with
 |nx=>exact(h:g=.next)▸n q
 |bk=>exact(h:g=.brk)▸b (Option.some.inj q) (Option.some.inj q▸rfl)
 |rt v=>exact Exists.elim h λu z=>z.1▸t u (Option.some.inj q) (Option.some.inj q▸⟨u,rfl,z.2⟩)
theorem Lw (q:lp p k=some r) (h:FR S W p.1 g) (n:k p.2=some r->P .next) (b:p.2=r.2->FR S W r.1 .next->P .brk) (t :∀u,p.2=r.2->FR S W r.1 (.ret u)->P (.ret u)):P g:=by
 obtain⟨f,σ⟩:=p
 cases f with
 |nx=>exact(h:g=.next)▸n q
 |bk=>exact(h:g=.brk)▸aw (P:=λr:Fl×St=>(σ=r.2->FR S W r.1 .next->P .brk)->P .brk) q (λb=>b rfl rfl) b
 |rt v=>exact Exists.elim h λu z=>z.1▸aw (P:=λr:Fl×St=>(∀u,σ=r.2->FR S W r.1 (.ret u)->P (.ret u))->P (.ret u)) q (λt=>t u rfl ⟨u,rfl,z.2⟩) t
end
theorem Jb {b:Bool} {X Y:Prop} (h:b=true) (x:X):if b=true then X else Y:=(if_pos h).symm▸x
theorem DF {b:Bool} {X Y:Prop} (h:b=false) (y:Y):if b=true then X else Y:=(if_neg (h▸Bool.false_ne_true)).symm▸y
theorem vl {fm:Fm} (ok:gC S fm):interactive fm.env=false:=by unfold interactive;rw [ok.kf];rfl
theorem sV {v:Expr} {t:Option Expr} {l:Nat} {env:Env} (h:iK v=true):swapsWith v t l env=pure false:=by
 cases v<;>first|rfl|exact absurd h Bool.false_ne_true
theorem T8 {W:Wd} {v:AV} {u:Value} {P:Value->Prop} (h:DY v=true) (r:VR S W v u) (n:P .none) (t :∀s i,P (.str s i)):P u:=by
 cases v with
 |none=>exact(VR.kA r rfl)▸n
 |str s=>exact(VR.gU r rfl).gO λi _=>t _ i
 |_=>exact absurd h Bool.false_ne_true
theorem WR:SX S G n .bad:=λ_ _ _ _ _ _ _ _=>.E6
theorem WT {e:Ex} (he:SE S G n e):SX S G n (.exp e):=λc st h os W σ s I=>Ov h λv pos h1 h2 p q hz=>wpAny_Expr ((he c v h1 W σ s I).seq (λp=>.cond .ret .no) q hz λW1 p1 u s1 q L1 r1 I1 k1=>bR q (λq e=>have z:=aw (P:=λp:Fl×St=>bX S W c.F c.fm p.2 s (λW=>FR S W p.1) .next s1) q ⟨W1,L1,rfl,I1,k1⟩
  T8 (P:=λu=>match u with|.ref _=>False|_=>bX S W c.F c.fm p.2 s (λW=>FR S W p.1) .next s1) e r1 z λ_ _=>z) λq _=>nn q) (vl c.ok) (sV h2)
theorem WS:SX S G n .brk:=λc st h os W σ s I=>Ou h λpos=>.ret λ_=>wpAny_Break (bX.ret I rfl)
theorem PM:SX S G n .pass:=λc st h os W σ s I=>JO h λpos=>.ret λ_=>wpAny_Pass (bX.ret I rfl)
theorem WV {e:Ex} (he:SE S G n e):SX S G n (.ret e):=λc st h os W σ s I=>Ox h λv pos h1 p q hz=>wpAny_Return_some ((he c v h1 W σ s I).seq (λp=>.ret) q hz λW1 p1 u s1 q L1 r1 I1 k1=>aw (P:=λp:Fl×St=>bX S W c.F c.fm p.2 s (λW=>FR S W p.1) (.ret u) s1) q ⟨W1,L1,⟨u,rfl,r1⟩,I1,k1⟩)
theorem PK {e:Ex} (he:ST S G n e):SX S G n (.zZ e):=λc st h os W σ s I=>JN h λv pos h1 p q hz=>wpAny_Assert_holds ((he c v h1 W σ s I).seq (λp=>.cond .ret .no) q hz λW1 p1 u s1 q L1 r1 I1 k1=>bR q (λq e=>⟨r1.trans e,aw (P:=λp:Fl×St=>bX S W c.F c.fm p.2 s (λW=>FR S W p.1) .next s1) q ⟨W1,L1,rfl,I1,k1⟩⟩) λq _=>nn q)
theorem WU {t:Ex} {a b:c5} (ht:ST S G n t) (ha:HK S G n a) (hb:HK S G n b):SX S G n (.ite t a b):=λc st h os W σ s I=>Ow h λt' a' b' pos h1 h2 h3 p q hz=>wpAny_If ((ht c t' h1 W σ s I).seq (λp=>.cond (eT a _) (eT b _)) q hz λW1 p1 u s1 q L1 r1 I1 k1=>bR q (λq e=>Jb (r1.trans e) (jz L1 k1 (ha c a' h2 os W1 _ s1 I1 p q hz))) λq e=>DF (r1.trans e) (jz L1 k1 (hb c b' h3 os W1 _ s1 I1 p q hz)))
theorem LL:HK S G n .nil:=λc l h os W σ s I=>JP h▸.ret λ_=>wpAny_execs_nil (bX.ret I rfl)
theorem F8 {i:Sx} {r:c5} (hi:SX S G n i) (hr:HK S G n r):HK S G n (.cons i r):=λc l h os W σ s I=>pD h λx xs h1 h2 p q hz=>wpAny_execs_cons ((hi c x h1 os W σ s I).seq (λp=>sY (eT r)) q hz λW1 p1 g s1 q L1 r1 I1 k1=>Pn (P:=λg=>match g with|.next=>wpAny (MD S) c.A (execs xs c.fm.env) (bX S W c.F c.fm p.2 s (λW=>FR S W p.1)) no s1|f=>bX S W c.F c.fm p.2 s (λW=>FR S W p.1) f s1) q r1
   (λq=>jz L1 k1 (hr c xs h2 os W1 _ s1 I1 p q hz)) (λe r=>⟨W1,L1,r,e▸I1,k1⟩) λu e r=>⟨W1,L1,r,e▸I1,k1⟩)
theorem GQ {fm:Fm} {test:Expr} {body:List Stmt} {pos:Pos} {A:Around} {s:Shared} {RR:Flow->Shared->Prop} (I:Nat->Shared->Prop)
  (turn :∀n s,I n s->wpAny (MD S) A (isTrue test fm.env (eval test fm.env)) (λb s₂=>if b then wpAny (MD S) A (execs body fm.env) (λf s₃=>match f with
    |.next|.cont=>∃m,m<n/\I m s₃
    |.brk=>RR .next s₃
    |.ret v=>RR (.ret v) s₃) no s₂ else RR .next s₂) no s) (n:Nat) (h:I n s):wpAny (MD S) A (exec (.While test body [] pos) fm.env) RR no s:=by
 refine wpAny_While (codeAny_whileLoop I (λn s hI=>wpAny_mono (turn n s hI) (λb s2 z=>?_) λ_ _ x=>x.elim) n h)
 cases b with
 |true=>
  rw [if_pos rfl]at z ⊢
  exact wpAny_mono z (λf s3 y=>by cases f<;>exact y) λ_ _ x=>x.elim
 |false=>
  rw [if_neg (by decide)]at z ⊢
  exact wpAny_execs_nil z
inductive WL (c:Cx S n) (f:Nat->St->Option (Fl×St)) (W:Wd) (r:Fl×St) (s:Shared) (k:Nat) (s':Shared):Prop
 |mk (Wi:Wd) (σi:St):W.Le Wi->f k σi=some r->c.I Wi σi s'->Kp s s'->WL c f W r s k s'
theorem WW {t:Ex} {b:c5} (ht:ST S G n t) (hb:HK S G n b):SX S G n (.nN t b):=λc st h os W σ s I=>Oy h λt' b' pos h1 h2 p q hz=>GQ (WL c (λk=>fc k (cZ G t) (cG G b)) W p s) (λk s1 J=>by
  cases J with|mk Wi σi Li qi Ii ki=>?_
  cases k with
  |zero=>exact nn qi
  |succ k=>
  exact(ht c t' h1 Wi σi s1 Ii).seq (λp=>.cond ((eT b _).bd λq=>px (nk (br t).t (eT b) k)) .ret) qi hz λW1 p1 u s2 q L1 r1 I1 k1=>bR q (λq e=>Jb (r1.trans e) ((hb c b' h2 os W1 p1.2 s2 I1).seq (λp=>px (nk (br t).t (eT b) k)) q hz λW2 p2 g s3 q L2 r2 I2 k2=>have L:=Li.trans (L1.trans L2)
    have kk:=ki.trans (k1.trans k2)
    Lw (P:=λg=>match g with|.next|.cont=>∃m,m<k+1/\WL c (λk=>fc k (cZ G t) (cG G b)) W p s m s3|.brk=>bX S W c.F c.fm p.2 s (λW=>FR S W p.1) .next s3|.ret v=>bX S W c.F c.fm p.2 s (λW=>FR S W p.1) (.ret v) s3) q r2
     (λq=>⟨k,Nat.lt_succ_self k,.mk W2 p2.2 L q I2 kk⟩) (λe r=>⟨W2,L,r,e▸I2,kk⟩) λu e r=>⟨W2,L,r,e▸I2,kk⟩))
    λq e=>DF (r1.trans e) (aw (P:=λp:Fl×St=>bX S W c.F c.fm p.2 s (λW=>FR S W p.1) .next s2) q ⟨W1,Li.trans L1,rfl,I1,ki.trans k1⟩)) G.fuel (.mk W σ (.refl W) q I (.refl s))
end
section
variable {S:aY} {G:cy} {n:Nat}
theorem SW {t:Tg} {P:Prop} {v:AV} {σ σ':St} (q:iN G t v σ=some σ') (k:t≠.bad->P):P:=k λz=>by rw [z]at q;exact nn q
theorem KD {ks:c4} {t:Tg} {tg v:Expr} {env:Env} (h:mT ks t tg=true) (ne:t≠.bad):swappedStores [tg] v env=pure none/\assignEach [tg] env=[(false,assign tg env)]:=by
 cases t with
 |bad=>exact absurd rfl ne
 |v x=>exact Oz h λ_ _=>⟨rfl,rfl⟩
 | «at» e a=>exact EL h λ_ _ _=>⟨rfl,rfl⟩
 |ix e i=>exact EM h λ_ _ _ _ _ _=>⟨rfl,rfl⟩
theorem HU {env:Env} {A:Around} {E:Value->Shared->Prop} {s:Shared} {Q:Flow->Shared->Prop} {tg v:Expr} {pos:Pos} (hs:iK v=true) (w:swappedStores [tg] v env=pure none/\assignEach [tg] env=[(false,assign tg env)])
  (h:wpAny (MD S) A (eval v env) (λu s1=>wpAny (MD S) A (assign tg env u) (λ_=>Q .next) E s1) E s):wpAny (MD S) A (exec (.Assign [tg] v pos) env) Q E s:=by
 rw [PyProof.Rows.exec_Assign]
 refine wpAny_bind (wpAny_standAt ?_)
 rw [show swapsWithSole [tg] v pos.line env=pure false from sV hs]
 refine wpAny_bind (wpAny_pure ?_)
 rw [if_neg (by decide)]
 refine wpAny_bind (wpAny_mono h (λv s₁ h₁=>?_) λ_ _ x=>x)
 rw [w.1,w.2]
 exact wpAny_bind (wpAny_pure (wpAny_bind (wpAny_mono h₁ (λ_ _ z=>wpAny_pure z) λ_ _ x=>x)))
theorem bX.nx {c:Cx S n} {W1:Wd} {σ':St} {p:Fl×St} {s:Shared} {u:Unit} {s1:Shared} (q:some (Fl.nx,σ')=some p) (h:bX S W1 c.F c.fm σ' s (λ_ _=>True) u s1):bX S W1 c.F c.fm p.2 s (λW=>FR S W p.1) .next s1:=
 aw (P:=λp:Fl×St=>bX S W1 c.F c.fm p.2 s (λW=>FR S W p.1) .next s1) q (by cases h with|mk W' L r I k=>exact⟨W',L,rfl,I,k⟩)
theorem WO {t:Tg} {e:Ex} (GO:bq S G n) (CA:gc S):SX S G n (.asg t e):=λc st h os W σ s I=>Oq h λtg v pos h1 h2 h3 h4 p q hz=>ar q λp1 q e1=>ar q λσ2 q e2=>SW e2 λne=>HU h3 (KD h1 ne)
 (Mine.seq ((fh GO CA e).e c v h2 W σ s I p1 e1 (oC _ _ e2 (j6 (congrArg (·.2) (Option.some.inj q)) hz))) λW1 u s1 L1 r1 I1 k1=>wpAny_mono (LX GO CA os h1 e2 I1 (j6 (congrArg (·.2) (Option.some.inj q)) hz) r1) (λ_ s2 p=>(p.lift L1 k1).nx q) λ_ _ x=>x)
structure QW (S:aY) (n:Nat) (c:Cx S n) (ts:List Tg) (es:List Expr) (vs:List AV) (σ σ':St):Prop where
 l1:ts.length=vs.length
 l2:(assignEach es c.fm.env).length=ts.length
 l3:(assignEach es c.fm.env).findIdx? (·.1)=none
 run :∀(W:Wd) (s:Shared) (us:List Value),c.I W σ s->cq S W vs us->wpAny (MD S) c.A (assignInOrder ((assignEach es c.fm.env).map (·.2)) us) (bX S W c.F c.fm σ' s (λ_ _=>True)) no s
theorem Af {e:Expr} {es:List Expr} {env:Env} (h:notStar e=true):assignEach (e::es) env=(false,assign e env)::assignEach es env:=by
 cases e<;>first|rfl|exact absurd h Bool.false_ne_true
theorem P7 {c:Cx S n} (GO:bq S G n) (CA:gc S) (os:B2 S c.fm) {ts:List Tg} :∀{es:List Expr} {vs:List AV} {σ σ':St},Yd c.ks ts es=true->jH G ts vs σ=some σ'->fN σ'.O->QW S n c ts es vs σ σ':=by
 induction ts with
 |nil=>
  intro es vs σ σ' hm q hz
  obtain rfl:es=[]:=List.isEmpty_iff.mp hm
  refine ar q λ_ q e=>?_
  obtain rfl:vs=[]:=by
   cases vs with
   |nil=>rfl
   |cons=>exact nn e
  exact aw q ⟨rfl,rfl,rfl,λW s us I rs=>rs.jP (P:=λus=>wpAny (MD S) c.A (assignInOrder ((assignEach [] c.fm.env).map (·.2)) us) (bX S W c.F c.fm σ s (λ_ _=>True)) no s) (wpAny_pure (bX.ret I trivial))⟩
 |cons t ts ih=>
  intro es vs σ σ' hm q hz
  cases es with
  |nil=>exact absurd hm Bool.false_ne_true
  |cons e es=>
  cases vs with
  |nil=>exact nn q
  |cons v vs=>
  have h:=fL hm
  refine ar q λσ1 q e1=>?_
  have T:=ih h.2.2 q hz
  have ec:=Af (es:=es) (env:=c.fm.env) h.2.1
  exact⟨congrArg (·+1) T.l1,ec▸congrArg (·+1) T.l2,by rw [ec,List.findIdx?_cons,T.l3];rfl,λW s us I rs=>ec▸rs.cQ (P:=λus=>wpAny (MD S) c.A (assignInOrder (((false,assign e c.fm.env)::assignEach es c.fm.env).map (·.2)) us) (bX S W c.F c.fm σ' s (λ_ _=>True)) no s)
   λu us r rs=>wpAny_bind (wpAny_holding (Mine.seq (LX GO CA os h.1 e1 I (mx _ _ q hz) r) λW1 _ s1 L1 _ I1 k1=>jz L1 k1 (T.run W1 s1 us I1 (rs.mono L1))))⟩
theorem PJ {ts:List Tg} {e:Ex} (GO:bq S G n) (CA:gc S):SX S G n (.iN ts e):=λc st h os W σ s I=>JM h λes k p v pos h1 h2 h3 h4 r q hz=>ar q λp1 q e1=>ar q λvs q e2=>ar q λσ2 q e3=>by
 have z2:fN σ2.O:=j6 (congrArg (·.2) (Option.some.inj q)) hz
 have T:=P7 GO CA os h1 e3 z2
 refine Assign_Tuple (hs:=sV (t:=some (.Tuple es k p)) (l:=pos.line) (env:=c.fm.env) h3) (hw:=(by cases v<;>first|rfl|exact absurd h4 Bool.false_ne_true)) (Mine.seq ((fh GO CA e).e c v h2 W σ s I p1 e1 (mx _ _ e3 z2)) λW1 u s1 L1 r1 I1 k1=>?_)
 refine(r1.nI e2).qh λa items m d sl ea z rs=>?_
 refine wpAny_assign_Tuple c.ro.hd ⟨_,I1.p _ _ ea,rfl,m,rfl⟩ (by rw [T.l2,T.l1,rs.length,Array.length_toList]) T.l3 λh' sb=>?_
 exact wpAny_mono (T.run W1 {s1 with heap:=h'} items.toList (I1.fresh c.ok sb) rs) (λ_ s2 p=>by
  cases p with|mk W' L r I k=>exact bX.nx (u:=()) q ⟨W',L1.trans L,trivial,I,k1.trans ⟨k.gens,k.os⟩⟩) λ_ _ x=>x
end
section
variable {S:aY} {G:cy} {n:Nat}
theorem Dh {fm:Fm} {target iter:Expr} {body:List Stmt} {pos:Pos} {A:Around} {s:Shared} {RR:Flow->Shared->Prop} (hs:gN iter=true)
  (h:wpAny (MD S) A (eval iter fm.env) (λx s1=>wpAny (MD S) A (pyIter x) (λit s2=>∃(I:Nat->Shared->Prop) (n:Nat),I n s2/\
   ∀n s,I n s->wpAny (MD S) A (pyNext it) (λr s₁=>match r with
    |none=>RR .next s₁
    |some v=>wpAny (MD S) A (letOwnedTupleGo target it v) (λ_ s₁'=>wpAny (MD S) A (assign target fm.env v) (λ_ s₂=>wpAny (MD S) A (execs body fm.env) (λf s₃=>match f with
      |.next|.cont=>∃m,m<n/\I m s₃
      |.brk=>RR .next s₃
      |.ret v=>RR (.ret v) s₃) no s₂) no s₁') no s₁) no s) no s1) no s):wpAny (MD S) A (exec (.For target iter body [] pos) fm.env) RR no s:=by
 have he:exec (.For target iter body [] pos) fm.env=(do
  standAt pos
  let x<-foldedSetIterable iter fm.env (<-eval iter fm.env)
  standAt iter.pos
  runOwn (.forLoop target (<-holding [x] (pyIter x)) body [] fm.env) fm.env):=rfl
 rw [he]
 refine wpAny_bind (wpAny_standAt (wpAny_bind (wpAny_mono h (λx s1 h1=>?_) λ_ _ z=>z)))
 rw [rd hs]
 refine wpAny_bind (wpAny_pure (wpAny_bind (wpAny_standAt (wpAny_bind (wpAny_holding (wpAny_mono h1 (λit s2 h2=>?_) λ_ _ z=>z))))))
 obtain⟨I,k,hI,turn⟩:=h2
 refine wpAny_runOwn (codeAny_forLoop_any I (λn s hI=>wpAny_mono (M:=MD S) (A:=A) (turn n s hI) (λr s1 z=>?_) λ_ _ z=>z.elim) k hI)
 cases r with
 |none=>exact wpAny_execs_nil z
 |some v=>exact wpAny_mono (M:=MD S) (A:=A) z (λ_ _ z=>wpAny_mono (M:=MD S) (A:=A) z (λ_ _ z=>wpAny_mono (M:=MD S) (A:=A) z (λf s3 y=>by cases f<;>exact y) λ_ _ z=>z.elim) λ_ _ z=>z.elim) λ_ _ z=>z.elim
inductive FL (c:Cx S n) (St':Nat->Heap->Prop) (a1:Addr) (f:List AV->St->Option (Fl×St)) (vs:List AV) (W:Wd) (r:Fl×St) (s:Shared) (k:Nat) (s':Shared):Prop
 |mk (i:Nat) (Wi:Wd) (σi:St):i+k=vs.length->W.Le Wi->f (vs.drop i) σi=some r->c.I Wi σi s'->Un Wi c.F c.fm a1->St' i s'.heap->Kp s s'->FL c St' a1 f vs W r s k s'
theorem ZH {ts:List Nm} {tup:Bool} {e:Ex} {b:c5} (he:SE S G n e) (hb:HK S G n b):SX S G n (.fr ts tup e b):=λc st h os W σ s I=>LB h λtg it body pos h1 ht h2 h3 h4 p q hz=>by
 subst ht
 have mon:=ra (λv τ=>jS (t:=ts) (b:=isTup ts) (v:=v) (σ:=τ)) (eT (G:=G) b)
 refine Dh h4 ((he c it h2 W σ s I).seq (λp=>.opt λvs=>mon vs p.2) q hz λW1 p1 u s1 q L1 r1 I1 k1=>ar q λvs q e2=>yY e2 r1 I1 λob St' hf It st=>⟨FL c St' s1.heap.objs.size (jY (hK ts (isTup ts)) (cG G b)) vs W1 p s,vs.length,.mk 0 W1 p1.2 (Nat.zero_add _) (.refl W1) q (I1.push ob) I1.un st ⟨k1.gens,k1.os⟩,λk s2 J=>?_⟩)
 cases J with|mk i Wi σi hk Li qi Ii ui sti ki=>?_
 rcases Nat.lt_or_ge i vs.length with hi|hi
 ·obtain⟨k,rfl⟩ :∃k',k=k'+1:=⟨vs.length-(i+1),by lia⟩
  have hk':i+1+k=vs.length:=(Nat.succ_add_eq_add_succ i k).trans hk
  rw [List.drop_eq_getElem_cons hi]at qi
  refine It.item Wi c.F σi.H c.A s2 i _ Li Ii.tob6 trivial c.ro.hd sti hi λw h2' tk rw1 st1 sb1=>?_
  rw [show vs.getD i .none=vs[i]by simp [hi]]at rw1
  have I2:=Ii.ext c.ok ui sb1
  refine It.go (s:={s2 with heap:=h2',toks:=tk}) st1 (Exists.elim (It.obj _ _ st1) λoi z=>Exists.elim z λ_ z=>ar qi λσa q ea=>ya (c:=c.fz (gD c.F s1.heap.objs.size oi)) (s:={s2 with heap:=h2',toks:=tk}) ea h1 rw1 (I2.hold ui z.1) λs3 I4 k3=>ar q λpb q eb=>Mine.seq (hb (c.fz (gD c.F s1.heap.objs.size oi)) body h3 os Wi σa s3 I4 pb eb (px (mon _) p q hz)) λW5 g s5 L5 r5 I5 k5=>?_)
  have B:=I5.free ui.f λx d k l=>ui.ne (I2.nC k l)
  have L:=Li.trans L5
  have kk:Kp s s5:=ki.trans (Kp.trans (⟨k3.gens,k3.os⟩:Kp s2 s3) k5)
  exact Lw (P:=λg=>match g with|.next|.cont=>∃m,m<k+1/\FL c St' s1.heap.objs.size (jY (hK ts (isTup ts)) (cG G b)) vs W1 p s m s5|.brk=>bX S W c.F c.fm p.2 s (λW=>FR S W p.1) .next s5|.ret v=>bX S W c.F c.fm p.2 s (λW=>FR S W p.1) (.ret v) s5) q r5
   (λq=>⟨k,Nat.lt_succ_self k,.mk (i+1) W5 pb.2 hk' L q B.1 B.2.1 (It.frame _ _ _ st1 λo e=>Option.some.inj (z.1.symm.trans e)▸B.2.2) kk⟩) (λe r=>⟨W5,L1.trans L,r,e▸B.1,kk⟩) λu e r=>⟨W5,L1.trans L,r,e▸B.1,kk⟩
 ·obtain rfl:i=vs.length:=Nat.le_antisymm (hk▸Nat.le_add_right i k) hi
  rw [List.drop_length]at qi
  exact It.done Wi c.F σi.H c.A s2 _ Li Ii.tob6 trivial c.ro.hd sti λh2' tk sb1=>aw (P:=λp:Fl×St=>bX S W1 c.F c.fm p.2 s (λW=>FR S W p.1) .next {s2 with heap:=h2',toks:=tk}) qi ⟨Wi,Li,rfl,Ii.ext c.ok ui sb1,ki.gens,ki.os⟩ |>.lift L1 (.refl s)
end
section
variable {S:aY} {G:cy} {n:Nat} {A:Around} {E:Value->Shared->Prop} {s:Shared} {env:Env} {Q:Flow->Shared->Prop}
theorem MY {oe v:Expr} {a:Str} {p pos:Pos} {op:Operator} (h:wpAny (MD S) A (eval oe env) (λov s1=>wpAny (MD S) A (getAttr ov a true) (λold s2=>wpAny (MD S) A (eval v env) (λu s3=>wpAny (MD S) A (inplaceOp op old u) (λnew s4=>wpAny (MD S) A (setAttr ov a new) (λ_=>Q .next) E s4) E s3) E s2) E s1) E s) :
  wpAny (MD S) A (exec (.AugAssign (.Attribute oe a p) op v pos) env) Q E s:=by
 have he:exec (.AugAssign (.Attribute oe a p) op v pos) env=(do
  standAt pos
  let ov<-eval oe env
  let new<-holding [ov] do
   standAt p.atName
   let old<-getAttr ov a true
   let v<-holding [old] (eval v env)
   standAt pos
   operate [old,v] (inplaceOp op old v)
  standAt p.atName
  holding [new,ov] (setAttr ov a new)
  release [new,ov] []
  pure .next):=rfl
 rw [he]
 refine wpAny_bind (wpAny_standAt (wpAny_bind (wpAny_mono h (λov s1 h=>?_) λ_ _ x=>x)))
 refine wpAny_bind (wpAny_holding (wpAny_bind (wpAny_standAt (wpAny_bind (wpAny_mono h (λold s2 h=>?_) λ_ _ x=>x)))))
 refine wpAny_bind (wpAny_holding (wpAny_mono h (λu s3 h=>wpAny_bind (wpAny_standAt (fA (wpAny_mono h (λnew s4 h=>?_) λ_ _ x=>x)))) λ_ _ x=>x))
 exact wpAny_bind (wpAny_standAt (wpAny_bind (wpAny_holding (wpAny_mono h (λ_ s5 h=>wpAny_bind (wpAny_release (wpAny_pure h))) λ_ _ x=>x))))
theorem MZ {oe sl v:Expr} {p pos:Pos} {op:Operator} (hs:jj sl=true) (h:wpAny (MD S) A (eval oe env) (λov s1=>wpAny (MD S) A (eval sl env) (λiv s2=>wpAny (MD S) A (getItem ov iv) (λold s3=>wpAny (MD S) A (eval v env) (λu s4=>wpAny (MD S) A (inplaceOp op old u) (λnew s5=>wpAny (MD S) A (setItem ov iv new) (λ_=>Q .next) E s5) E s4) E s3) E s2) E s1) E s) :
  wpAny (MD S) A (exec (.AugAssign (.Subscript oe sl p) op v pos) env) Q E s:=by
 have he:exec (.AugAssign (.Subscript oe sl p) op v pos) env=(do
  standAt pos
  let ov<-eval oe env
  let iv<-holding [ov] (eval sl env)
  let new<-holding [ov,iv] do
   standAt p
   let old<-getItem ov iv
   let v<-holding [old] (eval v env)
   standAt pos
   operate [old,v] (inplaceOp op old v)
  standAt p
  augStore sl ov iv new):=rfl
 have ha :∀ov iv new,augStore sl ov iv new=(do holding [new,ov,iv] (setItem ov iv new);release [new,ov,iv] [];pure .next):=λov iv new=>by
  cases sl with
  |Slice l u st p=>cases st<;>exact absurd hs Bool.false_ne_true
  |_=>rfl
 rw [he]
 refine wpAny_bind (wpAny_standAt (wpAny_bind (wpAny_mono h (λov s1 h=>wpAny_bind (wpAny_holding (wpAny_mono h (λiv s2 h=>?_) λ_ _ x=>x))) λ_ _ x=>x)))
 refine wpAny_bind (wpAny_holding (wpAny_bind (wpAny_standAt (wpAny_bind (wpAny_mono h (λold s3 h=>?_) λ_ _ x=>x)))))
 refine wpAny_bind (wpAny_holding (wpAny_mono h (λu s4 h=>wpAny_bind (wpAny_standAt (fA (wpAny_mono h (λnew s5 h=>wpAny_bind (wpAny_standAt ?_)) λ_ _ x=>x)))) λ_ _ x=>x))
 rw [ha]
 exact wpAny_bind (wpAny_holding (wpAny_mono h (λ_ s6 h=>wpAny_bind (wpAny_release (wpAny_pure h))) λ_ _ x=>x))
end
section
variable {S:aY} {G:cy} {n:Nat}
theorem WQ {t:Tg} {o:nP} {e2:Ex} (GO:bq S G n) (CA:gc S):SX S G n (.aug t o e2):=λc st h os W σ s I=>Ot h λtg v pos ho h1 h2 r q0 hz=>ar q0 λσ2 q e0=>by
 have z2:fN σ2.O:=j6 (congrArg (·.2) (Option.some.inj q)) hz
 have he:=(fh GO CA e2).e
 cases t with
 |bad=>exact nn e0
 |v x=>
  refine Oz h1 λp hl=>wpAny_AugAssign_Name (ar e0 λa e0 ea=>I.load c.ok ea λu ru=>?_)
  exact(he c v h2 W σ s I).th (λp=>.opt λr=>.app) e0 z2 λW1 p1 ub s1 e0 L1 r1 I1 k1=>ar e0 λx' e0 er=>aw (P:=λσ2=>some (Fl.nx,σ2)=some r->fN σ2.O->wpAny (MD S) c.A (inplaceOp (nJ o) u ub) _ no s1) e0 (λq z2=>Mine.seq (oY er (ru.mono L1) r1 (I1.zl (o:=x'.2++p1.2.O)) z2.l ho) λW2 ur s2 L2 r2 I2 k2=>I2.store c.ok (λ_=>os) r2 (Lu hl) λs3 I3 k3=>bX.nx (u:=()) q ⟨W2,L1.trans L2,trivial,I3,k1.trans (k2.trans k3)⟩) q z2
 | «at» e a=>
  refine EL h1 λoe p m1=>MY (((fh GO CA e).e c oe m1 W σ s I).th (λp=>.opt λx=>((br e2).v _).oD λq=>.opt λr=>.ua g9) e0 z2 λW1 p1 ov s1 e0 L1 r1 I1 k1=>ar e0 λx e0 ex1=>?_)
  refine Mine.seq (wI ex1 r1 GO.cls I1) λW2 old s2 L2 r2 I2 k2=>(he c v h2 W2 _ s2 I2).th (λq=>.opt λr=>.ua g9) e0 z2 λW3 p3 ub s3 e0 L3 r3 I3 k3=>ar e0 λy e0 er=>?_
  exact Mine.seq (oY er (r2.mono L3) r3 (I3.zl (o:=y.2++p3.2.O)) (g9 _ e0 z2).l ho) λW4 ur s4 L4 r4 I4 k4=>wpAny_mono (vt e0 (r1.mono (L2.trans (L3.trans L4))) r4 GO.cls c.ok I4 z2)
   (λ_ s5 pp=>(pp.lift (L1.trans (L2.trans (L3.trans L4))) (k1.trans (k2.trans (k3.trans k4)))).nx q) λ_ _ x=>x
 |ix e i=>
  refine EM h1 λoe sl p m1 m2 m3=>MZ m3 (((fh GO CA e).e c oe m1 W σ s I).th (λp=>((br i).v _).oD λk=>.opt λx=>((br e2).v _).oD λq=>.opt λr=>.ua fJ) e0 z2 λW1 p1 ov s1 e0 L1 r1 I1 k1=>((fh GO CA i).e c sl m2 W1 _ s1 I1).th (λk=>.opt λx=>((br e2).v _).oD λq=>.opt λr=>.ua fJ) e0 z2 λW2 p2 iv s2 e0 L2 r2 I2 k2=>ar e0 λx e0 ex1=>?_)
  refine Exists.elim (D5 ex1 (r1.mono L2) r2 I2.tob6 λold tk ro'=>?_) λT z=>Exists.elim z λid z=>z.2.2
  refine(he c v h2 W2 p2.2 {s2 with toks:=tk} I2).th (λq=>.opt λr=>.ua fJ) e0 z2 λW3 p3 ub s3 e0 L3 r3 I3 k3=>ar e0 λy e0 er=>?_
  exact Mine.seq (oY er (ro'.mono L3) r3 (I3.zl (o:=y.2++p3.2.O)) (fJ _ e0 z2).l ho) λW4 ur s4 L4 r4 I4 k4=>wpAny_mono (vv e0 (r1.mono (L2.trans (L3.trans L4))) (r2.mono (L3.trans L4)) r4 c.ok I4)
   (λ_ s5 pp=>(pp.lift (L1.trans (L2.trans (L3.trans L4))) (k1.trans (k2.trans (Kp.trans (⟨k3.gens,k3.os⟩:Kp s2 s3) k4)))).nx q) λ_ _ x=>x
theorem Bz {c:Cx S n} {x:Nm} {p pos vp:Pos} {elt:Expr} {gens:List Comprehension} {sc:Scope} (hk:c.fm.env.kindOf (bY x)=some .local) (h:oH x p (.ListComp elt gens sc vp)=true) :
  swapsWith (.ListComp elt gens sc vp) (some (.Name (bY x) p)) pos.line c.fm.env=pure true:=by
 have hb:c.fm.env.blockKind=.function:=by unfold Env.blockKind;rw [c.ok.kf];rfl
 have z:(p.line==vp.line&&!(sc.names.any λq=>q.1==bY x&&(q.2==.local||q.2==.cell)))=true:=h
 show(pure (c.fm.env.blockKind==.function&&c.fm.env.kindOf (bY x)==some .local&&p.line==vp.line&&!(sc.names.any λq=>q.1==bY x&&(q.2==.local||q.2==.cell))):Sem Bool)=pure true
 rw [hb,hk,(bf z).1,(bf z).2]
 rfl
theorem PI {x:Nm} {e:Ex} (GO:bq S G n) (CA:gc S):SX S G n (.wH x e):=λc st h os W σ s I=>JL h λp v pos hl hc=>AN (P:=λe=>mE c.ks e v=true->oH x p v=true->At c W s (ex G (.wH x e) σ) (exec (.Assign [.Name (bY x) p] v pos) c.fm.env) (FR S)) hc λks' elt t it cs h1=>zd (P:=λv=>oH x p v=true->At c W s (ex G (.wH x (.comp ks' elt t it cs)) σ) (exec (.Assign [.Name (bY x) p] v pos) c.fm.env) (FR S)) h1
  λe' tg i ifs sc vp m1 m2 m3 m4 m5 m6 hw r q0 hz=>ar q0 λp1 q e1=>by
 have hk:=c.kd x _ hl
 rw [PySem.exec_Assign_Name_used _ _ _ _ (Bz hk hw)]
 refine wpAny_bind (wpAny_standAt (wpAny_bind ?_))
 show wpAny _ c.A (do let _<-comprehension (.ListComp e' [⟨tg,i,ifs,0⟩] sc vp) sc c.fm.env (firstIterPos [⟨tg,i,ifs,0⟩] vp) (newList []) false (eval i c.fm.env) (some (assign (.Name (bY x) p) c.fm.env))) _ _ s
 refine wpAny_bind (wpAny_mono (uw (Q:=λ_ s'=>bX S W c.F c.fm r.2 s (λW=>FR S W r.1) .next s') (fh GO CA it).e (fh GO CA elt).e (Cg GO CA cs).ts m1 m2 m3 m4 m5 m6 e1 I ((congrArg (·.2.O) (Option.some.inj q):p1.2.O=r.2.O).symm▸hz) λxs W1 s1 e L1 k1=>rR hk λs' p=>?_) (λ_ s' hq=>wpAny_pure (wpAny_pure hq)) λ_ _ x=>x)
 exact bX.nx (u:=()) (e▸q) (p.lift L1 k1)
theorem K4 (GO:bq S G n) (CA:gc S) (i:Sx):SX S G n i:=
 Sx.rec (motive_1:=λi=>SX S G n i) (motive_2:=λl=>HK S G n l) (λe=>WT (fh GO CA e).e) (λt e=>WO GO CA) (λx e=>PI GO CA) (λts e=>PJ GO CA) (λt o e=>WQ GO CA) (λt a b ha hb=>WU (fh GO CA t).t ha hb) (λt b hb=>WW (fh GO CA t).t hb)
  (λts tup e b hb=>ZH (fh GO CA e).e hb) (λe=>WV (fh GO CA e).e) WS PM (λe=>PK (fh GO CA e).t) WR LL (λs r hi hr=>F8 hi hr) i
theorem oA (GO:bq S G n) (CA:gc S) :∀l:c5,HK S G n l
 |.nil=>LL
 |.cons s r=>F8 (K4 GO CA s) (oA GO CA r)
end
section
open AutoSeq1 (wpAny_loadPart')
open MeetsSeq MeetsSeq2 MeetsSeq3 SeqRoads2
section
variable {prog:Program} {w:World}
noncomputable def GX (prog:Program) (w:World) (A:Around) (s:Shared) (y x:Value):Prop:=
 ∀(E:Value->Shared->Prop) (Q:Bool->Shared->Prop),Q true s->wpAny (model prog w) A (eqBool y x) Q E s
theorem GX.of {A:Around} {s:Shared} {y x:Value} (h:EqAt A s y x true):GX prog w A s y x:=λE Q q=>h prog w E Q q
noncomputable def mv (prog:Program) (w:World) (A:Around) (R:Result->Shared->Prop):Fin->Shared->Prop:=
 λfin s'=>match fin with|.done f=>R (.ok f) s'|.again c'=>c'.quiet=true/\codeAny (model prog w) A c' R s'
theorem yj {A:Around} {E:Value->Shared->Prop} {s:Shared} {T:String} {name:Str} {id:String} {B:Builtin} {self:Value} {rest:List Value} {Q:Value->Shared->Prop} (slot:Slot T name id) (hT:s.TypeIs self T)
  (entry:entryFor table id=some B) (args:argsOk id ⟨self::rest,[]⟩)
  (g:wpAny (model prog w) A.in1 (B ⟨self::rest,[]⟩) (mv prog w A (wants Q E)) (λe s'=>wants Q E (.error e) s') s) :
  wpAny (model prog w) A (call (.builtin id) (self::rest)) Q E s:=
 wpAny_call (codeAny_call_builtin slot.plain entry (slot.check _ _ _ _ _ _ _ _ hT args g))
theorem C8 (l b:Addr) (items cw:Array Value) (n n2:Nat) (dd dd2:Option Addr) (sl sl2:Array (Option Value)) (hsz:items.size=cw.size) (A:Around) (R:Result->Shared->Prop) (s:Shared)
  (hl:s.heap.get? l=some {cls:=.type "list",dict:=dd,data:=.seq items n,slots:=sl}) (hb:s.heap.get? b=some {cls:=.type "list",dict:=dd2,data:=.seq cw n2,slots:=sl2})
  (he :∀j (h1:j<items.size) (h2:j<cw.size),GX prog w A.in1 s items[j] cw[j]) (h:R (.ok (.ret (.bool true))) s) (k:Nat) :
  ∀i:Nat,items.size-i=k->wpAny (model prog w) A.in1 (Builtin.«list.__eq__.loop» ⟨[.ref l,.ref b,rawInt i,rawInt 2],[]⟩) (mv prog w A R) (λe s'=>R (.error e) s') s:=by
 obtain⟨hp,g,d,tk,os⟩:=s
 induction k with
 |zero=>
  intro i hk
  unfold mv
  wp_walk using wpAny_loadPart' hl,wpAny_loadPart' hb
  have hi1:items[((i:Nat):Int).toNat]?=none:=by simp;lia
  have hi2:cw[((i:Nat):Int).toNat]?=none:=by simp;lia
  rw [hi1,hi2]
  wp_walk using wpAny_loadPart' hl,wpAny_loadPart' hb
  show R (.ok (.ret (.bool (items.size==cw.size)))) _
  rw [hsz]
  simpa using h
 |succ k ih=>
  intro i hk
  unfold mv
  wp_walk using wpAny_loadPart' hl,wpAny_loadPart' hb
  have hlt:i<items.size:=by omega
  have hlt2:i<cw.size:=by lia
  have hi1:items[((i:Nat):Int).toNat]?=some items[i]:=by simp [hlt]
  have hi2:cw[((i:Nat):Int).toNat]?=some cw[i]:=by simp [hlt2]
  have hc:((i:Int)+1)=((i+1:Nat):Int):=by push_cast;rfl
  rw [hi1,hi2]
  refine wpAny_bind (he i hlt hlt2 _ _ ?_)
  wp_walk
  rw [hc]
  exact⟨plainId_quiet plain_eq_loop _,codeAny_builtin entry_eq_loop (by
   rw [Around.under_plainId plain_eq_loop _]
   exact ih (i+1) (by lia))⟩
theorem Ag {l b:Addr} {items cw:Array Value} {A:Around} {s:Shared} {E:Value->Shared->Prop} {Q:Value->Shared->Prop} (hl:s.heap.IsList l items) (hb:s.heap.IsList b cw) (hsz:items.size=cw.size) (hu:A.units<cLine)
  (he :∀j (h1:j<items.size) (h2:j<cw.size),GX prog w A.in1 s items[j] cw[j]) (h:Q (.bool true) s):wpAny (model prog w) A (richCompare .Eq (.ref l) (.ref b)) Q E s:=by
 obtain⟨⟨cls,dd,data,sl⟩,ho,hc,n,hd⟩:=id hl
 obtain⟨⟨cls2,dd2,data2,sl2⟩,ho2,hc2,n2,hd2⟩:=id hb
 simp only at hc hd hc2 hd2
 subst hc hd hc2 hd2
 refine wpAny_richCompare_same_room (op:=.Eq) ⟨_,ho,rfl⟩ ⟨_,ho2,rfl⟩ F.slot_list_eq (yj F.slot_list_eq ⟨_,ho,rfl⟩ F.entry_list_eq (F.args_list_eq_2 _ _) ?_) hu
 have H:wants (λv s'=>v≠.notImplemented/\Q v s') E (.ok (.ret (.bool true))) s:=⟨(λx=>nomatch x),h⟩
 generalize wants (λv s'=>v≠.notImplemented/\Q v s') E=R at H ⊢
 have L:=C8 l b items cw n n2 dd dd2 sl sl2 hsz A R s ho ho2 he H _ 0 rfl
 clear H h he
 obtain⟨hp,g,d,tk,os⟩:=s
 have f3:=AutoSeq1.sub_list_list
 have hne :¬(items.size != cw.size)=true:=by simp [hsz]
 unfold mv
 wp_walk using wpAny_loadPart' ho,wpAny_loadPart' ho2
 exact⟨plainId_quiet plain_eq_loop _,codeAny_builtin entry_eq_loop (by
  rw [Around.under_plainId plain_eq_loop _]
  exact L)⟩
theorem wN {l b:Addr} {items cw:Array Value} {A:Around} {s:Shared} {E:Value->Shared->Prop} {Q:Value->Shared->Prop} (hl:s.heap.IsTuple l items) (hb:s.heap.IsTuple b cw) (hsz:items.size=cw.size) (hu:A.units<cLine)
  (he :∀j (h1:j<items.size) (h2:j<cw.size),GX prog w A.in1 s items[j] cw[j]) (h:Q (.bool true) s):wpAny (model prog w) A (richCompare .Eq (.ref l) (.ref b)) Q E s:=by
 obtain⟨⟨cls,dd,data,sl⟩,ho,hc,n,hd⟩:=id hl
 obtain⟨⟨cls2,dd2,data2,sl2⟩,ho2,hc2,n2,hd2⟩:=id hb
 simp only at hc hd hc2 hd2
 subst hc hd hc2 hd2
 refine wpAny_richCompare_same_room (op:=.Eq) ⟨_,ho,rfl⟩ ⟨_,ho2,rfl⟩ F.slot_tuple_eq (yj F.slot_tuple_eq ⟨_,ho,rfl⟩ F.entry_tuple_eq (F.args_tuple_eq_2 _ _) ?_) hu
 have H:wants (λv s'=>v≠.notImplemented/\Q v s') E (.ok (.ret (.bool true))) s:=⟨(λx=>nomatch x),h⟩
 generalize wants (λv s'=>v≠.notImplemented/\Q v s') E=R at H ⊢
 clear h
 obtain⟨hp,g,d,tk,os⟩:=s
 have f2:=AutoSeq1.sub_tuple_tuple
 have hZ:(items.toList.zip cw.toList).length=items.size:=by simp;lia
 unfold mv
 wp_walk using wpAny_loadPart' ho,wpAny_loadPart' ho2,wpAny_forIn_list _ (λrest q s'=>q.1=none/\s'=⟨hp,g,d,tk,os⟩/\∃i,rest=(items.toList.zip cw.toList).drop i) _
 case turn=>
  rintro⟨y,x⟩ rest q s' ⟨hb',rfl,i,hz⟩
  have hlt:i<(items.toList.zip cw.toList).length:=by
   rcases Nat.lt_or_ge i (items.toList.zip cw.toList).length with h'|h'
   ·exact h'
   ·rw [List.drop_of_length_le h']at hz;cases hz
  have h1:i<items.size:=hZ▸hlt
  have h2:i<cw.size:=hsz▸h1
  rw [List.drop_eq_getElem_cons hlt]at hz
  injection hz with hyx hrest
  have hy:y=items[i]:=by have:=congrArg Prod.fst hyx;simpa using this
  have hx:x=cw[i]:=by have:=congrArg Prod.snd hyx;simpa using this
  subst hy hx
  refine wpAny_bind (he i h1 h2 _ _ ?_)
  wp_walk
  exact⟨rfl,rfl,i+1,hrest⟩
 case fin=>
  rintro⟨b1,b2⟩ s' ⟨hb',rfl,i,hz⟩
  simp only at hb'
  subst hb'
  wp_walk
  simpa [Builtin.Tuple.tupleCompareSizes,hsz]using H
 case h=>
  exact⟨rfl,rfl,0,rfl⟩
theorem GX.refs {l b:Addr} {A:Around} {s:Shared} (h :∀(E:Value->Shared->Prop) (Q:Value->Shared->Prop),Q (.bool true) s->wpAny (model prog w) A (richCompare .Eq (.ref l) (.ref b)) Q E s):GX prog w A s (.ref l) (.ref b):=λE Q hq=>by
 by_cases hne:l=b
 ·subst hne;exact EqAt.same _ prog w E Q hq
 ·unfold eqBool
  refine wpAny_holding ?_
  refine wpAny_ite_split (λhab=>absurd (by have:=eq_of_beq hab;injection this) hne) (λ_=>?_)
  exact wpAny_bind (h E _ (wpAny_truthy_bool hq))
end
end
noncomputable def L2 (R:AV->Value->Prop):List AV->List Value->Prop
 |[],l=>l=[]
 |a::as,l=>∃u us,l=u::us/\R a u/\L2 R as us
noncomputable def K2 (R:AV->Value->Prop):List (Nm×AV)->List (Str×Value)->Prop
 |[],l=>l=[]
 |p::as,l=>∃u us,l=(bY p.1,u)::us/\R p.2 u/\K2 R as us
noncomputable def Flat (z:AV) (u:Value):Prop:=match z with
 |.none=>u=.none
 |.bool b=>u=.bool b
 |.int i=>∃t,u=.int i t
 |.str s=>∃t,u=.str ⟨s.toArray⟩ t
 |_=>False
noncomputable def Dat (S:aY) (h:Heap):Nat->Bool->AV->Value->Prop
 |0,_,z,u=>Flat z u
 |k+1,d,z,u=>match z with
  |.tup zs=>∃a items,u=.ref a/\h.IsTuple a items/\L2 (Dat S h k d) zs items.toList
  |.lst zs=>∃a items,u=.ref a/\h.IsList a items/\L2 (Dat S h k d) zs items.toList
  |.ck aR=>d=true/\∃a ps,u=.ref a/\h.DictOf (strKind S.prog S.w) a ps/\(a==sysModules)=false/\(ps.map (·.1)).Nodup/\K2 (Dat S h k false) aR ps
  |_=>Flat z u
section
variable {S:aY} {s:Shared} {A:Around} {k:Nat} {u v:Value}
theorem all_true (n:Nat):((List.range n).all λ_=>true)=true:=List.all_eq_true.mpr λ_ _=>rfl
theorem rL (h:A.units+(k+1)<cLine):A.in1.units+k<cLine:=by rw [Around.in1_units];lia
theorem qk (h:A.units+(k+1)<cLine):A.units<cLine:=Nat.lt_of_le_of_lt (Nat.le_add_right _ _) h
noncomputable def Rows (P:Value->Value->Prop) (us vs:List Value):Prop:=∀(j:Nat) u v,us[j]?=some u->vs[j]?=some v->P u v
theorem Rows.at {P:Value->Value->Prop} {us vs:Array Value} (r:Rows P us.toList vs.toList) (j:Nat) (h1:j<us.size) (h2:j<vs.size):P us[j] vs[j]:=r j _ _ (by simp [h1]) (by simp [h2])
theorem L2.rows {R:AV->Value->Prop} {P:Value->Value->Prop} (h :∀z u v,R z u->R z v->P u v) :∀{zs:List AV} {us vs:List Value},L2 R zs us->L2 R zs vs->us.length=vs.length/\Rows P us vs
 |[],_,_,x,y=>by
  rw [show _=[]from x,show _=[]from y]
  exact⟨rfl,λj u v e=>nn e⟩
 |a::as,us,vs,x,y=>by
  obtain⟨u,us,rfl,x1,x2⟩:=x
  obtain⟨v,vs,rfl,y1,y2⟩:=y
  have r:=L2.rows h x2 y2
  refine⟨congrArg (·+1) r.1,λj a b e1 e2=>?_⟩
  cases j with
  |zero=>exact Option.some.inj e1▸Option.some.inj e2▸h _ _ _ x1 y1
  |succ j=>exact r.2 j a b e1 e2
theorem nX {z:AV} (x:Flat z u) (y:Flat z v):EqAt A s u v true:=by
 cases z with
 |none=>rw [show u=.none from x,show v=.none from y];exact .same _
 |bool b=>rw [show u=.bool b from x,show v=.bool b from y];exact .same _
 |int i=>
  obtain⟨t,rfl⟩:=x
  obtain⟨t',rfl⟩:=y
  exact(beq_self_eq_true i:(i==i)=true)▸EqAt.int_int (A:=A) (s:=s) i t i t'
 |str l=>
  obtain⟨t,rfl⟩:=x
  obtain⟨t',rfl⟩:=y
  exact(beq_self_eq_true _:((⟨l.toArray⟩:Str)==⟨l.toArray⟩)=true)▸EqAt.str_str (A:=A) (s:=s) ⟨l.toArray⟩ t ⟨l.toArray⟩ t'
 |_=>exact x.elim
theorem yG (k:Nat) :∀{z:AV} {u v:Value} {A:Around},Dat S s.heap k false z u->Dat S s.heap k false z v->A.units+k<cLine->EqAt A s u v true:=by
 induction k with
 |zero=>exact λx y _=>nX x y
 |succ k ih=>
  intro z u v A x y hu
  have H :∀z u v,Dat S s.heap k false z u->Dat S s.heap k false z v->EqAt A.in1 s u v true:=λz u v x y=>ih x y (rL hu)
  have FE:=nX (s:=s) (A:=A) (u:=u) (v:=v) (z:=z)
  cases z with
  |tup zs=>
   obtain⟨a,items,rfl,hl,x⟩:=x
   obtain⟨b,rk,rfl,hb,y⟩:=y
   have r:=L2.rows H x y
   by_cases e:a=b
   ·exact e▸.same _
   ·refine .of_refs e ?_
    have:=RcAt.tuples (e:=λ_=>true) hl hb (qk hu) λj h1 h2=>r.2.at j h1 h2
    rw [all_true,show(items.size==rk.size)=true from beq_iff_eq.mpr r.1]at this
    exact this
  |lst zs=>
   obtain⟨a,items,rfl,hl,x⟩:=x
   obtain⟨b,rk,rfl,hb,y⟩:=y
   have r:=L2.rows H x y
   by_cases e:a=b
   ·exact e▸.same _
   ·refine .of_refs e ?_
    have:=RcAt.lists (e:=λ_=>true) hl hb r.1 (qk hu) λj h1 h2=>r.2.at j h1 h2
    rw [all_true]at this
    exact this
  |ck aR=>exact(Bool.false_ne_true x.1).elim
  |_=>exact FE x y
theorem mF {kb:List (Str×Value)} (hu:A.units+k<cLine) :∀{aR:List (Nm×AV)} {ps qs:List (Str×Value)},K2 (Dat S s.heap k false) aR ps->K2 (Dat S s.heap k false) aR qs->(∀p,p∈qs->valueAt kb p.1=some p.2)->ps.length=qs.length/\KeqHits A s kb ps true
 |[],_,_,x,y,_=>by
  rw [show _=[]from x,show _=[]from y]
  exact⟨rfl,.nil⟩
 |p::r,_,_,x,y,g=>by
  obtain⟨v,vs,rfl,x1,x2⟩:=x
  obtain⟨u,us,rfl,y1,y2⟩:=y
  have z:=mF hu x2 y2 λp m=>g p (.tail _ m)
  exact⟨congrArg (·+1) z.1,.hit (e:=true) (b:=true) (g _ (.head _)) (yG k x1 y1 hu) z.2⟩
noncomputable def R1 (S:aY) (s:Shared) (A:Around) (u v:Value):Prop:=∃a b,u=.ref a/\v=.ref b/\∀(E:Value->Shared->Prop) (Q:Value->Shared->Prop),Q (.bool true) s->wpAny (model S.prog S.w) A (richCompare .Eq (.ref a) (.ref b)) Q E s
theorem R1.eq (h:R1 S s A u v):GX S.prog S.w A s u v:=by
 obtain⟨a,b,rfl,rfl,h⟩:=h
 exact .refs h
theorem FO {P:Prop} {d:Bool} {z:AV} (H :∀z u v,Dat S s.heap k true z u->Dat S s.heap k true z v->GX S.prog S.w A.in1 s u v) (x:Dat S s.heap (k+1) true z u) (y:Dat S s.heap (k+1) true z v) (hu:A.units+(k+1)<cLine)
  (r:R1 S s A u v->P) (f:Flat z u->Flat z v->P):P:=by
 cases z with
 |tup zs=>
  obtain⟨a,items,rfl,hl,x⟩:=x
  obtain⟨b,rk,rfl,hb,y⟩:=y
  have w:=L2.rows H x y
  exact r ⟨a,b,rfl,rfl,λE Q h=>wN hl hb w.1 (qk hu) (λj h1 h2=>w.2.at j h1 h2) h⟩
 |lst zs=>
  obtain⟨a,items,rfl,hl,x⟩:=x
  obtain⟨b,rk,rfl,hb,y⟩:=y
  have w:=L2.rows H x y
  exact r ⟨a,b,rfl,rfl,λE Q h=>Ag hl hb w.1 (qk hu) (λj h1 h2=>w.2.at j h1 h2) h⟩
 |ck aR=>
  obtain⟨_,a,ps,rfl,da,ha,na,x⟩:=x
  obtain⟨_,b,qs,rfl,db,hb,nb,y⟩:=y
  have w:=mF (kb:=qs) (rL hu) x y λp m=>Exists.elim (List.mem_iff_getElem?.mp m) λi hi=>valueAt_of_get nb (k:=p.1) (v:=p.2) hi
  exact r ⟨a,b,rfl,rfl,λE Q h=>keq_eq (r:=true) ha hb da db (qk hu) (λ_=>w.2) (by rw [show(_==_)=true from beq_iff_eq.mpr w.1];exact h)⟩
 |_=>exact f x y
theorem Iu (k:Nat) :∀{z:AV} {u v:Value} {A:Around},Dat S s.heap k true z u->Dat S s.heap k true z v->A.units+k<cLine->GX S.prog S.w A s u v:=by
 induction k with
 |zero=>exact λx y _=>.of (nX x y)
 |succ k ih=>exact λ{z u v A} x y hu=>FO (d:=true) (λz u v x y=>ih x y (rL hu)) x y hu R1.eq λx y=>.of (nX x y)
theorem CY {z:AV} {E:Value->Shared->Prop} {Q:Value->Shared->Prop} (x:Dat S s.heap (k+1) true z u) (y:Dat S s.heap (k+1) true z v) (hu:A.units+(k+1)<cLine) (hq:Q (.bool true) s):wpAny (MD S) A (compareOp .Eq u v) Q E s:=
 FO (d:=true) (λz u v x y=>Iu k x y (rL hu)) x y hu (λh=>by
  obtain⟨a,b,rfl,rfl,h⟩:=h
  exact h E Q hq) λx y=>by
 cases z with
 |none=>rw [show u=.none from x,show v=.none from y];exact RcAt.none_none _ _ _ _ hq
 |bool b=>rw [show u=.bool b from x,show v=.bool b from y];exact RcAt.bool_bool _ _ _ _ _ _ ((beq_self_eq_true b).symm▸hq)
 |int i=>
  obtain⟨t,rfl⟩:=x
  obtain⟨t',rfl⟩:=y
  exact P.eq_int ((beq_self_eq_true i).symm▸hq)
 |str l=>
  obtain⟨t,rfl⟩:=x
  obtain⟨t',rfl⟩:=y
  exact eq_str ((beq_self_eq_true (⟨l.toArray⟩:Str)).symm▸hq)
 |_=>exact x.elim
theorem Iw {zs:List AV} {E:Value->Shared->Prop} {Q:Value->Shared->Prop} (x:Dat S s.heap (k+1) false (.tup zs) u) (y:Dat S s.heap (k+1) false (.tup zs) v) (hu:A.units+(k+1)<cLine) (hq:Q (.bool false) s):wpAny (MD S) A (compareOp .NotEq u v) Q E s:=by
 obtain⟨a,items,rfl,hl,x⟩:=x
 obtain⟨b,rk,rfl,hb,y⟩:=y
 have H :∀z u v,Dat S s.heap k false z u->Dat S s.heap k false z v->EqAt A.in1 s u v true:=λz u v x y=>yG k x y (rL hu)
 have r:=L2.rows H x y
 have:=RcNeAt.tuples (e:=λ_=>true) hl hb (qk hu) λj h1 h2=>r.2.at j h1 h2
 rw [all_true,show(items.size==rk.size)=true from beq_iff_eq.mpr r.1]at this
 exact this _ _ E Q hq
theorem Iv {aR:List (Nm×AV)} {E:Value->Shared->Prop} {Q:Value->Shared->Prop} (x:Dat S s.heap (k+1) true (.ck aR) u) (y:Dat S s.heap (k+1) true (.ck aR) v) (hu:A.units+(k+1)<cLine) (hq:Q (.bool false) s):wpAny (MD S) A (compareOp .NotEq u v) Q E s:=by
 obtain⟨_,a,ps,rfl,da,ha,na,x⟩:=x
 obtain⟨_,b,qs,rfl,db,hb,nb,y⟩:=y
 have w:=mF (kb:=qs) (rL hu) x y λp m=>Exists.elim (List.mem_iff_getElem?.mp m) λi hi=>valueAt_of_get nb (k:=p.1) (v:=p.2) hi
 exact keq_ne (r:=true) ha hb da db (qk hu) (λ_=>w.2) (by rw [show(_==_)=true from beq_iff_eq.mpr w.1];exact hq)
end
section
variable {S:aY} {W:Wd} {F:Addr->Option Obj} {H:List AO} {s:Shared} {k:Nat} {d:Bool}
theorem yP {x z:AV} {v:Value} (q:Dd x=some z) (r:VR S W x v):Dat S s.heap k d z v:=by
 have f:Flat z v:=by
  cases x with
  |none=>exact aw (P:=λz=>Flat z v) q r
  |bool b=>exact aw (P:=λz=>Flat z v) q r
  |int i=>exact aw (P:=λz=>Flat z v) q r
  |str l=>exact aw (P:=λz=>Flat z v) q (r.gO (P:=λv=>Flat (.str l) v) λt _=>⟨t,rfl⟩)
  |_=>exact nn q
 cases k with
 |zero=>exact f
 |succ k=>
  cases z with
  |tup=>exact f.elim
  |lst=>exact f.elim
  |ck=>exact f.elim
  |_=>exact f
theorem oa {f:AV->Option AV} {R:AV->Value->Prop} (hf :∀x z v,f x=some z->VR S W x v->R z v) :∀{vs zs:List AV} {us:List Value},vi f vs=some zs->cq S W vs us->L2 R zs us
 |[],_,_,q,r=>aw (P:=λzs=>L2 R zs _) q r
 |_::_,_,_,q,r=>ar q λy q e1=>ar q λzq q e2=>aw (P:=λzs=>L2 R zs _) q (r.cQ (P:=λus=>L2 R (y::zq) us) λu us r1 r2=>⟨u,us,rfl,hf _ _ _ e1 r1,oa hf e2 r2⟩)
theorem sR {f:AV->Option AV} {R:AV->Value->Prop} (hf :∀x z v,f x=some z->VR S W x v->R z v) :∀{vs zs:List (Nm×AV)} {us:List (Str×Value)},OA f vs=some zs->fK S W vs us->K2 R zs us
 |[],_,_,q,r=>aw (P:=λzs=>K2 R zs _) q r
 |p::_,_,_,q,r=>ar q λy q e1=>ar q λzq q e2=>aw (P:=λzs=>K2 R zs _) q (r.cQ (P:=λus=>K2 R ((p.1,y)::zq) us) λu us r1 r2=>⟨u,us,rfl,hf _ _ _ e1 r1,sR hf e2 r2⟩)
theorem mD (I:b6 S W F H s.heap) (hb :∃o,S.hB sysModules=some o) (k:Nat) :∀(d:Bool) (x z:AV) (v:Value),fP H k d x=some z->VR S W x v->Dat S s.heap k d z v:=by
 induction k with
 |zero=>exact λd x z v q r=>yP q r
 |succ k ih=>
  intro d x z v q r
  refine b7 q (λvs q e=>ig q λzs ez q=>ez▸(r.nI e).qh (P:=λv=>Dat S s.heap (k+1) d (.tup zs) v) λa items n dd sl hp _ rs=>⟨a,items,rfl,⟨_,I.p _ _ hp,rfl,n,rfl⟩,oa (ih d) q rs⟩) λq=>b7 q (λvs q e=>ig q λzs ez q=>ez▸b7 e (λ_ e e'=>(r.x8 e').xn (P:=λv=>Dat S s.heap (k+1) d (.lst zs) v) λa items n dd sl hp _ rs=>⟨a,items,rfl,⟨_,I.p _ _ hp,rfl,n,rfl⟩,oa (ih d) q (aw (P:=λvs=>cq S W vs items.toList) e rs)⟩) λe=>ar e λn e e'=>(r.eZ e').A4 (P:=λv=>Dat S s.heap (k+1) d (.lst zs) v) I e λa items m er g _ _ rs=>⟨a,items,rfl,⟨_,g,rfl,m,rfl⟩,oa (ih d) q rs⟩) λq=>b7 q (λaR q e=>bR q (λq dt=>ig q λzs ez q=>ez▸b7 e (λ_ e e'=>(r.BK e').Ac (P:=λv=>Dat S s.heap (k+1) d (.ck zs) v) λa o ps hp dd ne _ rs=>⟨dt,a,ps,rfl,dd.at (I.p _ _ hp),ne,dd.nd,sR (ih false) q (aw (P:=λvs=>fK S W vs ps) e rs)⟩) λe=>ar e λn e e'=>(r.eZ e').JC (P:=λv=>Dat S s.heap (k+1) d (.ck zs) v) I e λa o ps er g dd _ rs=>⟨dt,a,ps,rfl,dd.at g,I.sW hb er,dd.nd,sR (ih false) q rs⟩) λq _=>nn q) λq=>yP q r
theorem DV {P:nR->Prop} {o:nR} (h:Ll o=true) (k:P .eq):P o:=by
 cases o with
 |eq=>exact k
 |_=>exact absurd h Bool.false_ne_true
theorem DZ {P:nR->Prop} {o:nR} (h:Lp o=true) (k:P .ne):P o:=by
 cases o with
 |ne=>exact k
 |_=>exact absurd h Bool.false_ne_true
theorem jV (hb :∃o,S.hB sysModules=some o):gc S:=λW F H A s o x y b u v Q q hx hy I hu hq=>b7 q (λr q e=>Im e hx hy I.p (aw (P:=λb=>Q (.bool b) s->Q (.bool r) s) q id hq)) λq=>bR q (λq eo=>DV (P:=λo=>wpAny (MD S) A (compareOp (kU o) u v) Q no s) eo (ar q λz1 q e1=>ar q λz2 q e2=>by
  by_cases e3:z1=z2
  ·rw [if_pos e3]at q
   exact CY (k:=5) (mD I hb 6 true _ _ _ e1 hx) (mD I hb 6 true _ _ _ (e3▸e2) hy) (by unfold cLine;lia) (aw (P:=λb=>Q (.bool b) s->Q (.bool true) s) q id hq)
  ·rw [if_neg e3]at q
   exact nn q)) λq _=>bR q (λq eo=>DZ (P:=λo=>wpAny (MD S) A (compareOp (kU o) u v) Q no s) eo (b7 q (λr q e=>ar e λz1 e e1=>ar e λzs e e4=>ar e λz2 e e2=>by
  by_cases e3:z1=z2
  ·rw [if_pos e3]at e
   refine Cq (P:=λz=>Dat S s.heap 6 false z u->Dat S s.heap 6 false z v->_) e4 (λx y=>?_) (mD I hb 6 false _ _ _ e1 hx) (mD I hb 6 false _ _ _ (e3▸e2) hy)
   exact Iw (k:=5) x y (by unfold cLine;lia) (aw (P:=λb=>Q (.bool b) s->Q (.bool false) s) (q.trans (congrArg some rfl)) (aw (P:=λr=>Q (.bool r) s->Q (.bool false) s) e id) hq)
  ·rw [if_neg e3]at e
   exact nn e) λe=>ar e λz1 e e1=>ar e λzs e e4=>ar e λz2 e e2=>by
  by_cases e3:z1=z2
  ·rw [if_pos e3]at e
   refine Cm (P:=λz=>Dat S s.heap 6 true z u->Dat S s.heap 6 true z v->_) e4 (λx y=>?_) (mD I hb 6 true _ _ _ e1 hx) (mD I hb 6 true _ _ _ (e3▸e2) hy)
   exact Iv (k:=5) x y (by unfold cLine;lia) (aw (P:=λb=>Q (.bool b) s->Q (.bool false) s) e id hq)
  ·rw [if_neg e3]at e
   exact nn e)) λq _=>nn q
end
noncomputable def u9 (ks:c4) (sc:Scope):Bool:=ks.all λq=>decide (sc.names.lookup (bY q.1)=some (X8 q.2))
noncomputable def WH (ps:List Nm) (sc:Scope):Bool:=ps.all λx=>decide (sc.names.lookup (bY x)=some .local)||decide (sc.names.lookup (bY x)=some .cell)
noncomputable def kG (ps:List Nm) (ds as:List AV):Option (List (Nm×AV)):=je (Nat.ble as.length ps.length&&Nat.ble ps.length (as.length+ds.length)) (ps.zip (as++ds.drop (as.length+ds.length-ps.length)))
noncomputable def BQ (S:aY) (ps:List Nm) (ds:List AV) (fd:FuncData):Prop:=∀(s:Shared) (vs:List Value),S.K.In s.heap->vs.length<=ps.length->ps.length<=vs.length+ds.length->
 ∃us,(∀W,cq S W (ds.drop (vs.length+ds.length-ps.length)) us)/\BindsTo s fd ⟨vs,[]⟩ ((ps.map bY).zip (vs++us))
structure B3 (S:aY) (f:Fn) (ps:List Nm) (ds:List AV) (ks:c4) (ir:c5) (fd:FuncData) (body:List Stmt):Prop where
 at_ :∃oc od osl,S.K.lookup (S.fa f)=some ⟨oc,od,.func fd,osl⟩
 bod:fd.body=.stmts body
 kind:fd.scope.kind=.function
 co:fd.scope.isCoroutine=false
 ge:fd.scope.isGenerator=false
 gl:fd.globals=mainGlobals
 bu:fd.builtins=builtinsNs
 nK:fd.closure=[]
 code:codeIn S.K fd.code fd.qualname=true
 kin:u9 ks fd.scope=true
 pin:WH ps fd.scope=true
 nd:k8 ps=true
 m:rr ks ir body=true
 bind:BQ S ps ds fd
theorem jw {y:Str} :∀{names:List (Str×NameKind)} {k:Nat} {acc:List (Str×Addr)},((y,.cell)∈names\/∃c,acc.lookup y=some c)->∃c,(cellsFrom k names acc).lookup y=some c
 |[],_,_,h=>h.elim (λh=>nomatch h) id
 |(n,kd)::r,k,acc,h=>by
  have up:(∃c,acc.lookup y=some c)->∃c,((n,k)::acc).lookup y=some c:=λh=>by
   rw [List.lookup_cons]
   cases y==n with
   |true=>exact⟨k,rfl⟩
   |false=>exact h
  unfold cellsFrom
  by_cases e:(kd==.cell)=true
  ·rw [if_pos e]
   refine jw (h.elim (λm=>(List.mem_cons.mp m).elim (λz=>.inr ?_) .inl) λh=>.inr (up h))
   cases z
   rw [List.lookup_cons,beq_self_eq_true]
   exact⟨k,rfl⟩
  ·rw [if_neg e]
   refine jw (h.imp (λm=>(List.mem_cons.mp m).elim (λz=>?_) id) id)
   cases z
   exact absurd rfl e
theorem rS {B:List (Str×Value)->(Str->Option Value)->Str->Option Value} {st:(Str->Option Value)->Str×Value->Str->Option Value} {y:Str} {v:Value} (h0 :∀m,B [] m=m) (hs :∀p r m,B (p::r) m=B r (st m p))
  (h1 :∀m p,y≠p.1->st m p y=m y) (h2 :∀m p,y=p.1->st m p y=some p.2) :∀{binds:List (Str×Value)} {m:Str->Option Value},(binds.map (·.1)).Nodup->(y∉binds.map (·.1)->B binds m y=m y)/\((y,v)∈binds->B binds m y=some v)
 |[],m,_=>⟨λ_=>congrFun (h0 m) y,λh=>nomatch h⟩
 |p::r,m,nd=>by
  have n:=List.nodup_cons.mp (nd:(p.1::r.map (·.1)).Nodup)
  have z:=rS (v:=v) h0 hs h1 h2 (m:=st m p) n.2
  rw [hs]
  refine⟨λh=>(z.1 λq=>h (.tail _ q)).trans (h1 m p λe=>h (e▸.head _)),λh=>(List.mem_cons.mp h).elim (λe=>?_) z.2⟩
  subst e
  exact(z.1 n.1).trans (h2 m _ rfl)
theorem uf {k:Str->Option NameKind} {y:Str} {v:Value} (hk:k y=some .local) {binds:List (Str×Value)} {m:Str->Option Value} (nd:(binds.map (·.1)).Nodup) (h:(y,v)∈binds):bindL k binds m y=some v:=
 (rS (B:=bindL k) (st:=λm p=>if k p.1=some .local then λy=>if y=p.1 then some p.2 else m y else m) (λ_=>rfl) (λ_ _ _=>rfl) (λm p ne=>by
  by_cases z:k p.1=some .local
  ·rw [if_pos z];exact if_neg ne
  ·rw [if_neg z]) (λm p e=>by rw [<-e,if_pos hk];exact if_pos rfl) nd).2 h
theorem Cw {k:Str->Option NameKind} {y:Str} {v:Value} (hk:k y≠some .local) {binds:List (Str×Value)} {m:Str->Option Value} (nd:(binds.map (·.1)).Nodup) (h:(y,v)∈binds):bindC k binds m y=some v:=
 (rS (B:=bindC k) (st:=λm p=>if k p.1=some .local then m else λy=>if y=p.1 then some p.2 else m y) (λ_=>rfl) (λ_ _ _=>rfl) (λm p ne=>by
  by_cases z:k p.1=some .local
  ·rw [if_pos z]
  ·rw [if_neg z];exact if_neg ne) (λm p e=>by rw [<-e,if_neg hk];exact if_pos rfl) nd).2 h
section
variable {S:aY} {G:cy} {W W':Wd} {F:Addr->Option Obj} {H:List AO} {fm:Fm} {σ:St} {s s':Shared} {A:Around} {E:Value->Shared->Prop} {n:Nat}
theorem zP :∀{ps:List Nm} {as:List AV} {vs:List Value},cq S W as vs->fK S W (ps.zip as) ((ps.map bY).zip vs)
 |[],_,_,_=>.nil
 |_::_,[],_,h=>h.jP .nil
 |p::r,a::as,_,h=>h.cQ (P:=λvs=>fK S W ((p::r).zip (a::as)) (((p::r).map bY).zip vs)) λ_ _ x q=>.cons x (zP q)
theorem tU {x:Nm} {av:AV} :∀{aR:List (Nm×AV)} {bs:List (Str×Value)},fK S W aR bs->lk aR x=some av->∃v,(bY x,v)∈bs/\VR S W av v
 |[],_,_,e=>nn e
 |p::q,_,h,e=>h.cQ (P:=λbs=>∃v,(bY x,v)∈bs/\VR S W av v) λv vs r t=>by
  rw [dT]at e
  by_cases z:p.1=x
  ·rw [if_pos z]at e
   exact⟨v,z▸.head _,Option.some.inj e▸r⟩
  ·rw [if_neg z]at e
   exact Exists.elim (tU t e) λu w=>⟨u,.tail _ w.1,w.2⟩
noncomputable def lF:Fl->Option AV
 |.nx=>some .none
 |.rt v=>some v
 |.bk=>Option.none
theorem NL {f:Fl} {r:AV} {g:Flow}:lF f=some r->FR S W f g->VR S W r (match g with|.ret v=>v|_=>.none):=λhr h=>by
 cases f with
 |nx=>exact(h:g=.next)▸aw (P:=λr=>VR S W r .none) hr .none
 |bk=>exact nn hr
 |rt v=>exact Exists.elim h λu z=>z.1▸aw (P:=λr=>VR S W r u) hr z.2
theorem D9 {ks:c4} {sc:Scope} (h:u9 ks sc=true) {x:Nm} {k:Kd} (e:lk ks x=some k):sc.names.lookup (bY x)=some (X8 k):=of_decide_eq_true (List.all_eq_true.mp h _ (sM e))
noncomputable def wQ (fd:FuncData) (L a:Addr):Fm:=⟨callEnvC fd L a,L::((cellsFrom (L+1) fd.scope.names []).filterMap λp=>(cellsFrom (L+1) fd.scope.names []).lookup p.1)⟩
theorem Fd {fd:FuncData} {L a c:Addr} {x:Str} (h:(cellsFrom (L+1) fd.scope.names []).lookup x=some c):c∈(wQ fd L a).ow:=
 .tail _ (List.mem_filterMap.mpr ⟨(x,c),mem_of_lookup h,h⟩)
theorem uO {f:Fn} {ps:List Nm} {ds:List AV} {ks:c4} {ir:c5} {fd:FuncData} {body:List Stmt} {as:List AV} {V:List (Nm×AV)}
  (lim :∀h,S.K.In h->h.NoLimit) (D:B3 S f ps ds ks ir fd body) (hb:kG ps ds as=some V)
  {vs:List Value} (ro:Ro (n+2) A) (I:b6 S W F H s.heap) (rs:cq S W as vs) {R:Result->Shared->Prop}
  (k :∀(fm:Fm) (h₁:Heap) (tk:Nat),B2 S fm->qm ks fm.env->Ro (n+1) (A.deeper fm.env)->Inv S W F fm {H:=H,V:=V,O:=[]} h₁->
   wpAny (MD S) (A.deeper fm.env) (execs body fm.env) (λg s₂=>R (.ok (.ret (match g with|.ret v=>v|_=>.none))) s₂) no {s with heap:=h₁,toks:=tk}) :
  codeAny (MD S) A (.call (.ref (S.fa f)) ⟨vs,[]⟩) R s:=gF hb λb eV=>by
 have K:=I.K
 have hl:=rs.length
 have b1:=hl▸Nat.le_of_ble_eq_true (bf b).1
 have b2:=hl▸Nat.le_of_ble_eq_true (bf b).2
 obtain⟨us,r1,r2⟩:=D.bind s vs K b1 b2
 have rb:fK S W V ((ps.map bY).zip (vs++us)):=eV▸zP (rs.append (hl▸r1 W))
 have ln:ps.length<=(vs++us).length:=by
  rw [List.length_append,<-(r1 W).length,List.length_drop]
  omega
 have ke:((ps.map bY).zip (vs++us)).map (·.1)=ps.map bY:=List.map_fst_zip (by rw [List.length_map];exact ln)
 have nd:(((ps.map bY).zip (vs++us)).map (·.1)).Nodup:=by
  rw [ke]
  exact List.Pairwise.map (S:=(·≠·)) bY (λa b h e=>h (jB e)) (mY D.nd)
 have kind :∀k,∀x∈(ps.map bY).zip (vs++us),fd.scope.names.lookup x.1=some .local\/(fd.scope.names.lookup x.1=some .cell/\((cellsFrom k fd.scope.names []).lookup x.1).isSome=true):=λk x m=>by
  obtain⟨y,my,e⟩:=List.mem_map.mp (List.of_mem_zip (a:=x.1) (b:=x.2) m).1
  rw [<-e]
  exact(Bool.or_eq_true_iff.mp (List.all_eq_true.mp D.pin y my)).imp of_decide_eq_true λz=>⟨of_decide_eq_true z,Option.isSome_iff_exists.mpr (jw (.inl (mem_of_lookup (of_decide_eq_true z))))⟩
 obtain⟨oc,od,osl,at_⟩:=D.at_
 refine codeAny_call_function (by have:=ro.dp;show A.depth<1000;lia) (K _ _ at_) rfl D.co D.ge D.bod (codeRec_of K D.code) (r2 _ _ _ _ ?_)
 rw [D.nK]
 refine wpAny_newFunctionEnv_cells D.kind (kind _) λenv he' s₁ x=>?_
 subst he'
 refine⟨(lim s.heap K).keeps x.toInCall.keep,codeAny_func ?_⟩
 obtain⟨h₁,tk,rfl,hk⟩:=x.done
 have os:B2 S (wQ fd s.heap.objs.size (S.fa f)):=
  {kf:=D.kind,gl:=D.gl,bu:=D.bu,lo:=.head _,cl:=λy c e=>Nat.ne_of_gt (x.above y c (mem_of_lookup e)),ce:=λy c _ e=>Fd (a:=S.fa f) e,ci:=λy z c _ e1 e2=>name_of_addr x.apart (mem_of_lookup e1) (mem_of_lookup e2)}
 have own :∀a∈(wQ fd s.heap.objs.size (S.fa f)).ow,s.heap.objs.size<=a/\∃o,h₁.get? a=some o:=λa m=>(List.mem_cons.mp m).elim (λe=>Exists.elim x.toInCall.ns λo z=>Exists.elim z λ_ z=>Exists.elim z λ_ z=>⟨Nat.le_of_eq e.symm,o,e▸z.1⟩) λm=>Exists.elim (List.mem_filterMap.mp m) λp z=>Exists.elim (x.cell p.1 a z.2) λo w=>⟨Nat.le_of_lt (x.above p.1 a (mem_of_lookup z.2)),o,w.1⟩
 have va :∀y av,lk V y=some av->∃v,VR S W av v/\zN (wQ fd s.heap.objs.size (S.fa f)).env h₁ (bindL (wQ fd s.heap.objs.size (S.fa f)).env.kindOf ((ps.map bY).zip (vs++us)) λ_=>none) (bY y) v:=λy av e=>by
  obtain⟨v,m,r⟩:=tU rb e
  refine⟨v,r,(kind (s.heap.objs.size+1) _ m).imp (λz=>⟨z,uf z nd m⟩) λz=>?_⟩
  obtain⟨c,hc⟩:=Option.isSome_iff_exists.mp z.2
  have w:=x.cell _ c hc
  rw [Cw (λe=>nomatch (z.1.symm.trans e:some NameKind.cell=some NameKind.local)) nd m]at w
  exact⟨z.1,c,hc,w⟩
 have I1:Inv S W F (wQ fd s.heap.objs.size (S.fa f)) {H:=H,V:=V,O:=[]} h₁:=⟨I.keeps hk,λa m=>have z:=own a m;have w:=I.above z.1;⟨w.1,w.2.1,w.2.2,z.2⟩,λy c _ e=>.inl (Fd (a:=S.fa f) e),⟨_,x.toInCall.ns,va⟩,λy e=>Exists.elim (jw (k:=s.heap.objs.size+1) (acc:=[]) (.inl (mem_of_lookup e))) λc hc=>⟨c,_,hc,x.cell _ c hc⟩⟩
 have ro1:Ro (n+1) (A.deeper (callEnvC fd s.heap.objs.size (S.fa f))):=⟨ro.hd,by
  have:=ro.dp
  show A.depth+1+_<=_
  lia,by
  have:=ro.un
  show A.units+3+_<=_
  lia⟩
 exact wpAny_mono (k (wQ fd s.heap.objs.size (S.fa f)) h₁ tk os (λy k e=>D9 D.kin e) ro1 I1) (λ_ _ p=>p) λ_ _ h=>h.elim
theorem Dg {f:Fn} {ps:List Nm} {ds:List AV} {ks:c4} {ir:c5} {fd:FuncData} {body:List Stmt} {as:List AV} {V:List (Nm×AV)} {fl:Fl} {σ':St} {r:AV}
  (GO:bq S G n) (D:B3 S f ps ds ks ir fd body) (hb:kG ps ds as=some V) (he:cG G ir {H:=H,V:=V,O:=[]}=some (fl,σ')) (hr:lF fl=some r)
  {vs:List Value} (ro:Ro (n+2) A) (I:b6 S W F H s.heap) (rs:cq S W as vs) (hz:fN σ'.O) :
  codeAny (MD S) A (.call (.ref (S.fa f)) ⟨vs,[]⟩) (jG (qn S W F σ'.H s (VP S r))) s:=
 uO GO.lim D hb ro I rs λfm h₁ tk os kd ro1 I1=>wpAny_mono (oA GO (jV GO.sys) ir ⟨fm,ks,F,_,os.togC,kd,ro1⟩ body D.m os W _ {s with heap:=h₁,toks:=tk} I1 _ he hz) (λg s₂ p=>by
  cases p with|mk W' L fr I2 k=>exact⟨W',L,NL hr fr,I2.tob6,⟨k.gens,k.os⟩⟩) λe _ h=>h.elim
end
noncomputable abbrev jo (m:Nat):AV->Prop:=GY (·<m)
noncomputable abbrev iV (m:Nat):List AV->Prop:=zT (·<m)
noncomputable abbrev jM (m:Nat):List (Nm×AV)->Prop:=B5 (·<m)
section
variable {m:Nat}
theorem jo.none:jo m .none:=trivial
theorem jo.bool (b:Bool):jo m (.bool b):=trivial
theorem jo.int (i:Int):jo m (.int i):=trivial
theorem jo.str (s:List Nat):jo m (.str s):=trivial
theorem jo.tup {vs:List AV} (h:iV m vs):jo m (.tup vs):=h
theorem jo.lst {vs:List AV} (h:iV m vs):jo m (.lst vs):=h
theorem jo.ck {aR:List (Nm×AV)} (h:jM m aR):jo m (.ck aR):=h
theorem jo.tX (n:Nat):jo m (.tX n):=trivial
theorem jo.a5 {i:Nat} (h:i<m):jo m (.a5 i):=h
theorem jo.inst {c:Cl} {i:Nat} (h:i<m):jo m (.inst c i):=h
theorem iV.nil:iV m []:=trivial
theorem iV.cons {a:AV} {as:List AV} (h:jo m a) (r:iV m as):iV m (a::as):=⟨h,r⟩
theorem jM.nil:jM m []:=trivial
theorem jM.cons {k:Nm} {a:AV} {as:List (Nm×AV)} (h:jo m a) (r:jM m as):jM m ((k,a)::as):=⟨h,r⟩
end
noncomputable def jL (m:Nat) (ao:AO):Prop:=match ao with
 |.list vs=>iV m vs
 |ao=>∀aR,ao.fl=some aR->jM m aR
noncomputable def mq (m:Nat) (H:List AO):Prop:=∀ao∈H,jL m ao
noncomputable def Wd.tr (W:Wd) (m:Nat):Wd:={W with ρ:=W.ρ.take m}
section
variable {S:aY} {W:Wd} {m:Nat}
theorem iP {α:Type} {l:List α} {i:Nat} {a:α} (h:l[i]?=some a):i<l.length:=(List.getElem?_eq_some_iff.mp h).1
theorem VR.nK {a:AV} {v:Value} (h:VR S W a v):jo W.ρ.length a:=VR.Ss (λ_ _=>iP) a v h
theorem cq.nK {as:List AV} {vs:List Value} (h:cq S W as vs):iV W.ρ.length as:=by
 induction as generalizing vs with
 |nil=>trivial
 |cons a r ih=>exact h.cQ λ_ _ x q=>⟨x.nK,ih q⟩
theorem fK.nK {as:List (Nm×AV)} {vs:List (Str×Value)} (h:fK S W as vs):jM W.ρ.length as:=by
 induction as generalizing vs with
 |nil=>trivial
 |cons a r ih=>exact h.cQ λ_ _ x q=>⟨x.nK,ih q⟩
theorem z8 {vs:List AV} (h:iV m vs):jL m (.list vs):=h
theorem Ij {ao:AO} {aR:List (Nm×AV)} (e:ao.fl=some aR) (h:jM m aR):jL m ao:=by
 cases ao with
 |list vs=>exact nn e
 |_=>exact λk q=>Option.some.inj (e.symm.trans q)▸h
theorem jL.flE {ao:AO} {aR:List (Nm×AV)} (h:jL m ao) (e:ao.fl=some aR):jM m aR:=by
 cases ao with
 |list vs=>exact nn e
 |_=>exact h aR e
theorem OR.nK {ao:AO} {o:Obj} (h:OR S W ao o):jL W.ρ.length ao:=by
 rcases h with⟨vs,items,n,e,_,_,r⟩|⟨aR,ps,e,_,_,r⟩
 ·exact e▸z8 r.nK
 ·exact Ij e r.nK
theorem P9 {ρ:List Addr} {i:Nat} {a:Addr} (l:i<m) (h:ρ[i]?=some a):(ρ.take m)[i]?=some a:=by
 rw [List.getElem?_take,if_pos l];exact h
theorem VR.tr {a:AV} {v:Value} (h:VR S W a v) (c:jo m a):VR S (W.tr m) a v:=VR.map (W:=W) (W':=W.tr m) (Q:=λi=>i<m) (λ_ _ e=>e) (λi _ l e=>(P9 l e:(W.ρ.take m)[i]?=_)) a v h c
theorem cq.tr {as:List AV} {vs:List Value} (h:cq S W as vs) (c:iV m as):cq S (W.tr m) as vs:=by
 induction as generalizing vs with
 |nil=>exact h
 |cons a r ih=>exact h.cQ λ_ _ x q=>.cons (x.tr c.1) (ih q c.2)
theorem fK.tr {as:List (Nm×AV)} {vs:List (Str×Value)} (h:fK S W as vs) (c:jM m as):fK S (W.tr m) as vs:=by
 induction as generalizing vs with
 |nil=>exact h
 |cons a r ih=>exact h.cQ λ_ _ x q=>.cons (x.tr c.1) (ih q c.2)
theorem OR.tr {ao:AO} {o:Obj} (h:OR S W ao o) (c:jL m ao):OR S (W.tr m) ao o:=by
 rcases h with⟨vs,items,n,e,e',z,r⟩|⟨aR,ps,e,d,z,r⟩
 ·rw [e]at c
  exact .inl ⟨vs,items,n,e,e',z,r.tr c⟩
 ·exact .dict e d z (r.tr (c.flE e))
noncomputable def MG (ao bo:AO):Prop:=ao=bo\/∃aR,ao.fl=some aR/\bo.fl=some aR
theorem MG.or {ao bo:AO} {o:Obj} (s:MG ao bo) (h:OR S W ao o):OR S W bo o:=
 s.elim (λe=>e▸h) λs=>Exists.elim s λaR z=>h.yH z.1 λps d w r=>.dict z.2 d w r
theorem MG.refl (ao:AO):MG ao ao:=.inl rfl
noncomputable def gT (H H2:List AO):Prop:=∀(i:Nat) (ao:AO),H2[i]?=some ao->∃bo,H[i]?=some bo/\MG bo ao
theorem gT.refl (H:List AO):gT H H:=λ_ ao e=>⟨ao,e,.refl ao⟩
theorem gT.pre (H J:List AO):gT (H++J) H:=λi ao e=>⟨ao,(List.getElem?_append_left (iP e)).trans e,.refl ao⟩
theorem gT.le {H H2:List AO} (q:gT H H2):H2.length<=H.length:=Nat.le_of_not_lt λl=>Exists.elim (q H.length _ (List.getElem?_eq_getElem l)) λbo z=>Nat.lt_irrefl _ (iP z.1)
theorem gT.set {H H2:List AO} (h:gT H H2) {i:Nat} {ao bo:AO} (s:MG ao bo):gT (H.set i ao) (H2.set i bo):=λj co e=>by
 by_cases z:i=j
 ·subst z
  have l:i<H2.length:=List.length_set▸iP e
  rw [List.getElem?_set_self l]at e
  exact⟨ao,List.getElem?_set_self (Nat.lt_of_lt_of_le l h.le),Option.some.inj e▸s⟩
 ·rw [List.getElem?_set_ne z]at e
  rw [List.getElem?_set_ne z]
  exact h j co e
end
section
variable {S:aY} {G:cy} {W W':Wd} {F:Addr->Option Obj} {H H2:List AO} {s s':Shared} {A:Around} {n:Nat} {h:Heap}
theorem b6.sim (I:b6 S W F H h) (l:H2.length=H.length) (q:gT H H2):b6 S W F H2 h:=
 ⟨I.p,I.f,I.base,I.len.trans l.symm,λi a ao e e'=>Exists.elim (q i ao e') λbo x=>Exists.elim (I.hs i a bo e x.1) λo u=>⟨o,u.1,x.2.or u.2⟩,I.nd,I.ρp,I.ρf,I.pf⟩
theorem b6.cut (I:b6 S W F H h) (q:gT H H2) (c:mq H2.length H2):b6 S (W.tr H2.length) F H2 h:=
 have sub :∀a∈W.ρ.take H2.length,a∈W.ρ:=λa m=>List.mem_of_mem_take m
 ⟨I.p,I.f,I.base,List.length_take.trans (Nat.min_eq_left (I.len▸q.le)),λi a ao e e'=>Exists.elim (q i ao e') λbo x=>Exists.elim (I.hs i a bo ((show(W.ρ.take H2.length)[i]?=W.ρ[i]? by rw [List.getElem?_take,if_pos (iP e')]).symm.trans e) x.1) λo u=>⟨o,u.1,(x.2.or u.2).tr (c ao (List.mem_of_getElem? e'))⟩,I.nd.sublist (List.take_sublist ..),λa m=>I.ρp a (sub a m),λa m=>I.ρf a (sub a m),I.pf⟩
theorem b6.closed (I:b6 S W F H h):mq H.length H:=λao m=>Exists.elim (List.mem_iff_getElem?.mp m) λi hi=>Exists.elim (I.hs i _ ao (List.getElem?_eq_getElem (I.len▸iP hi)) hi) λo z=>I.len▸z.2.nK
theorem qn.cut {r:AV} {v:Value} {t:Shared} (p:qn S W F H s (VP S r) v t) (hw:W.ρ.length<=H2.length) (q:gT H H2) (c:mq H2.length H2) (cr:jo H2.length r):qn S W F H2 s (VP S r) v t:=by
 cases p with|mk W' L rv I k=>?_
 refine⟨W'.tr H2.length,⟨λa o e=>L.P a o e,Exists.elim L.ρ λx e=>⟨x.take (H2.length-W.ρ.length),?_⟩⟩,rv.tr cr,I.cut q c,k⟩
 show W'.ρ.take _=_
 rw [e,List.take_append,List.take_of_length_le hw]
theorem IU {f:Fn} {ps:List Nm} {ds:List AV} {ks:c4} {ir:c5} {fd:FuncData} {body:List Stmt} {as:List AV} {V:List (Nm×AV)} {fl:Fl} {σ':St} {r:AV} {H1 H':List AO}
  (GO:bq S G n) (D:B3 S f ps ds ks ir fd body) (hb:kG ps ds as=some V) (hl:H1.length=H.length) (h1:gT H H1) (he:cG G ir {H:=H1,V:=V,O:=[]}=some (fl,σ')) (hr:lF fl=some r)
  (h2:gT σ'.H H') (hle:H.length<=H'.length) (hc:mq H.length H->iV H.length as->mq H'.length H'/\jo H'.length r)
  {vs:List Value} (ro:Ro (n+2) A) (I:b6 S W F H s.heap) (rs:cq S W as vs) (hz:fN σ'.O) :
  codeAny (MD S) A (.call (.ref (S.fa f)) ⟨vs,[]⟩) (jG (qn S W F H' s (VP S r))) s:=
 have c:=hc I.closed (I.len▸rs.nK)
 codeAny_mono (Dg GO D hb he hr ro (I.sim hl h1) rs hz) λres s' q=>q.mono λv q=>q.cut (I.len▸hle) h2 c.1 c.2
end
structure fF where
 ps:List Nm
 ds:List AV
 ks:c4
 ir:c5
noncomputable def kE (G:cy) (d:fF) (as:List AV) (H:List AO):Option (AV×List AO×List Nat):=
 bd (kG d.ps d.ds as) λV=>bd (cG G d.ir {H:=H,V:=V,O:=[]}) λp=>bd (lF p.1) λr=>some (r,p.2.H,p.2.O)
noncomputable def FD (hs:Fn->fF->Prop) (f:Fn):Type:={d:fF // hs f d}
noncomputable def lay {hs:Fn->fF->Prop} (G:cy) (fs :∀f,Option (FD hs f)):cy:={G with call:=λf as H=>alt (fs f) (λd=>kE G d.1 as H) (G.call f as H)}
noncomputable def gP (S:aY) (f:Fn) (d:fF):Prop:=∃fd body,B3 S f d.ps d.ds d.ks d.ir fd body
theorem bq.mono {S:aY} {G:cy} {m n:Nat} (GO:bq S G m) (h:m<=n):bq S G n:=
 {GO with call:=λf as H r H' os e W F A s vs ro I rs hz=>GO.call f as H r H' os e W F A s vs (ro.mono h) I rs hz}
theorem bq.with {S:aY} {G:cy} {n:Nat} (GO:bq S G n) {call:Fn->List AV->List AO->Option (AV×List AO×List Nat)}
  (h :∀(f:Fn) (as:List AV) (H:List AO) (x:AV×List AO×List Nat),call f as H=some x->∀(W:Wd) (F:Addr->Option Obj) (A:Around) (s:Shared) (vs:List Value),Ro (n+2) A->b6 S W F H s.heap->cq S W as vs->fN x.2.2->
   codeAny (MD S) A (.call (.ref (S.fa f)) ⟨vs,[]⟩) (jG (qn S W F x.2.1 s (VP S x.1))) s):bq S {G with call:=call} (n+2):=
 ⟨λc=>⟨(GO.cls c).ga,(GO.cls c).gt,(GO.cls c).sa,(GO.cls c).cd,(GO.cls c).po,(GO.cls c).mak,(GO.cls c).ini,(GO.cls c).bD,(GO.cls c).cat,(GO.cls c).E6⟩,λf as H r H' os e W F A s vs ro I rs hz=>h f as H (r,H',os) e W F A s vs ro I rs hz,GO.glob,GO.kf,GO.kc,GO.ft,GO.lim,GO.sys⟩
theorem bq.low {S:aY} {G:cy} {n:Nat} (GO:bq S G n) {f:Fn} {as:List AV} {H:List AO} {x:AV×List AO×List Nat} (e:G.call f as H=some x) {W:Wd} {F:Addr->Option Obj} {A:Around} {s:Shared} {vs:List Value} (ro:Ro (n+2) A) (I:b6 S W F H s.heap) (rs:cq S W as vs) (hz:fN x.2.2) :
  codeAny (MD S) A (.call (.ref (S.fa f)) ⟨vs,[]⟩) (jG (qn S W F x.2.1 s (VP S x.1))) s:=GO.call f as H _ _ _ e W F A s vs (ro.mono (Nat.le_add_right n 2)) I rs hz
theorem sL {S:aY} {G:cy} {n:Nat} {hs:Fn->fF->Prop} {fs :∀f,Option (FD hs f)} (GO:bq S G n) (D :∀f d,hs f d->gP S f d):bq S (lay G fs) (n+2):=
 GO.with λf as H x e W F A s vs ro I rs hz=>b7 e (λd e _=>Exists.elim (D f d.1 d.2) λfd z=>Exists.elim z λbody D'=>ar e λV e hb=>ar e λp e he=>ar e λr' e hr=>aw (P:=λx:AV×List AO×List Nat=>fN x.2.2->codeAny (MD S) A (.call (.ref (S.fa f)) ⟨vs,[]⟩) (jG (qn S W F x.2.1 s (VP S x.1))) s) e (Dg GO D' hb he hr ro I rs) hz) λe=>GO.low e ro I rs hz
inductive gr (G:cy) (d:fF) (as:List AV) (H:List AO) (r:AV) (H':List AO) (os:List Nat):Prop
 |mk (V:List (Nm×AV)) (H1:List AO) (fl:Fl) (σ':St):kG d.ps d.ds as=some V->H1.length=H.length->gT H H1->cG G d.ir {H:=H1,V:=V,O:=[]}=some (fl,σ')->lF fl=some r->
  gT σ'.H H'->H.length<=H'.length->(mq H.length H->iV H.length as->mq H'.length H'/\jo H'.length r)->(∀k∈σ'.O,k<=100000\/∃j∈os,k<=j)->gr G d as H r H' os
noncomputable def QO (H:List AO):Prop:=∀ao∈H,∀aR,ao.fl=some aR->∀x s,lk aR x=some (.str s)->s.length<=ew
theorem KW {S:aY} {W:Wd} {aR:List (Nm×AV)} {ps:List (Str×Value)} (h:fK S W aR ps) (x:Nm) (s:List Nat) (e:lk aR x=some (.str s)):s.length<=ew:=
 Exists.elim (tU h e) λv z=>z.2.gO λ_ l=>l
theorem b6.Y1 {S:aY} {W:Wd} {F:Addr->Option Obj} {H:List AO} {h:Heap} (I:b6 S W F H h):QO H:=λao m aR e=>Exists.elim (List.mem_iff_getElem?.mp m) λi hi=>Exists.elim (I.hs i _ ao (List.getElem?_eq_getElem (I.len▸iP hi)) hi) λo z=>z.2.yH e λps _ _ q=>KW q
noncomputable def CP (hs:Fn->fF->Prop) (G:cy) (f:Fn) (as:List AV) (H:List AO):Type:={x:AV×List AO×List Nat // QO H->∃d,hs f d/\gr G d as H x.1 x.2.1 x.2.2}
noncomputable def Ja {α:Type} (b:Bool) (f:b=true->α):Option α:=match b,f with
 |true,f=>some (f rfl)
 |false,_=>Option.none
theorem o2 {α:Type} {b:Bool} {f:b=true->α} (h:b=true):Ja b f=some (f h):=by subst h;rfl
noncomputable def A5 {hs:Fn->fF->Prop} (G:cy) (c :∀f as H,Option (CP hs G f as H)):cy:={G with call:=λf as H=>alt (c f as H) (λx=>some x.1) (G.call f as H)}
theorem mW {hs:Fn->fF->Prop} {G:cy} {c :∀f as H,Option (CP hs G f as H)} {f:Fn} {as:List AV} {H:List AO} {x:CP hs G f as H} (h:c f as H=some x):(A5 G c).call f as H=some x.1:=by
 show alt (c f as H) (λx=>some x.1) (G.call f as H)=_
 rw [h]
 rfl
theorem n8 {S:aY} {G:cy} {n:Nat} {hs:Fn->fF->Prop} {c :∀f as H,Option (CP hs G f as H)} (GO:bq S G n)
  (D :∀f d,hs f d->gP S f d):bq S (A5 G c) (n+2):=
 GO.with λf as H x e W F A s vs ro I rs hz=>b7 e (λy e _=>Exists.elim (y.2 I.Y1) λd z=>Exists.elim (D f d z.1) λfd w=>Exists.elim w λbody D'=>by
  obtain rfl:=Option.some.inj e
  cases z.2 with|mk V H1 fl σ' h1 h2 h3 h4 h5 h6 h7 h8 h9=>
  exact IU GO D' h1 h2 h3 h4 h5 h6 h7 h8 ro I rs λk m=>(h9 k m).elim (λh=>Nat.le_trans h (by unfold ew;decide)) λh=>Exists.elim h λj h=>Nat.le_trans h.2 (hz j h.1)) λe=>GO.low e ro I rs hz
noncomputable def dFn:Data->Option FuncData|.func fd=>some fd|_=>none
theorem Nw {d:Data} {fd:FuncData} (h:dFn d=some fd):d=.func fd:=by cases d<;>first|exact nn h|exact congrArg Data.func (Option.some.inj h)
noncomputable def fnOf (K:Frag) (a:Addr):Option FuncData:=bd (K.lookup a) λo=>dFn o.data
theorem yQ {K:Frag} {a:Addr} {fd:FuncData} (h:fnOf K a=some fd) :∃oc od osl,K.lookup a=some ⟨oc,od,.func fd,osl⟩:=ar h λo h e=>⟨o.cls,o.dict,o.slots,e.trans (congrArg some (Nw h▸rfl))⟩
noncomputable def P0:FuncBody->Option (List Stmt)|.stmts b=>some b|.expr _=>none
theorem zB {b:FuncBody} {l:List Stmt} (h:P0 b=some l):b=.stmts l:=by cases b<;>first|exact nn h|(cases h;rfl)
noncomputable def DW (s:ScopeKind):Bool:=match s with|.function=>true|_=>false
theorem uZ {s:ScopeKind} (h:DW s=true):s=.function:=by cases s<;>first|rfl|exact absurd h Bool.false_ne_true
noncomputable def oE (K:Frag) (a:Addr) (S:Setting) (vs:List Value):Option (List (Str×Value)):=bd (fnOf K a) λfd=>peek K S (bindArgs fd ⟨vs,[]⟩)
theorem ue {K:Frag} {a:Addr} {fd:FuncData} {vs:List Value} {l:List (Str×Value)} {s:Shared} (e:fnOf K a=some fd) (X:K.In s.heap) (h :∀S,oE K a S vs=some l):BindsTo s fd ⟨vs,[]⟩ l:=
 kp_binds X λS=>(congrArg (λo=>bd o λfd=>peek K S (bindArgs fd ⟨vs,[]⟩)) e).symm.trans (h S)
noncomputable def zQ (n:Nat) (P:List Value->Prop):Prop:=∀vs:List Value,vs.length=n->P vs
theorem c7 {P:List Value->Prop} (h:P []):zQ 0 P:=λvs e=>by rw [List.length_eq_zero_iff.mp e];exact h
theorem cj {n:Nat} {P:List Value->Prop} (h :∀v,zQ n λvs=>P (v::vs)):zQ (n+1) P:=λvs e=>by
 cases vs with
 |nil=>cases e
 |cons v r=>exact h v r (Nat.succ.inj e)
noncomputable def dV (a:AV):Value:=(zW a).elim .none .bool
noncomputable def Sh (a:AV):Bool:=(zW a).isSome||(kA a).isSome
theorem RO {S:aY} {W:Wd} {a:AV} (h:Sh a=true):VR S W a (dV a):=(Bool.or_eq_true_iff.mp h).elim (λh=>Exists.elim (Option.isSome_iff_exists.mp h) λb e=>wD (P:=λa=>VR S W a (dV a)) e (.bool b)) λh=>Exists.elim (Option.isSome_iff_exists.mp h) λb e=>wG (P:=λa=>VR S W a (dV a)) e .none
noncomputable def Xm (K:Frag) (a:Addr) (ps:List Nm) (ds:List AV):Prop:=∀vs:List Value,vs.length<=ps.length->ps.length<=vs.length+ds.length->
 ∃us,(∀S W,cq S W (ds.drop (vs.length+ds.length-ps.length)) us)/\∀S,oE K a S vs=some ((ps.map bY).zip (vs++us))
theorem pB {K:Frag} {a:Addr} {ps:List Nm} {n:Nat} (e:ps.length=n) (h:zQ n λvs=>∀S,oE K a S vs=some ((ps.map bY).zip vs)):Xm K a ps []:=λvs l1 l2=>⟨[],λS W=>by rw [List.drop_nil];exact .nil,λS=>by rw [List.append_nil];exact h vs (by rw [<-e];exact Nat.le_antisymm l1 l2) S⟩
theorem dB {K:Frag} {a:Addr} {ps:List Nm} {d:AV} {n:Nat} (e:ps.length=n+1) (hd:Sh d=true) (h1:zQ (n+1) λvs=>∀S,oE K a S vs=some ((ps.map bY).zip vs))
  (h2:zQ n λvs=>∀S,oE K a S vs=some ((ps.map bY).zip (vs++[dV d]))):Xm K a ps [d]:=λvs l1 l2=>by
 have l2:ps.length<=vs.length+1:=l2
 by_cases q:vs.length=n+1
 ·refine⟨[],λS W=>?_,λS=>by rw [List.append_nil];exact h1 vs q S⟩
  rw [show vs.length+[d].length-ps.length=1 by rw [q,e];exact Nat.add_sub_cancel_left _ _]
  exact .nil
 ·have q:vs.length=n:=Nat.le_antisymm (Nat.le_of_lt_succ (Nat.lt_of_le_of_ne (Nat.le_trans l1 (Nat.le_of_eq e)) q)) (Nat.le_of_succ_le_succ (Nat.le_trans (Nat.le_of_eq e.symm) l2))
  refine⟨[dV d],λS W=>?_,h2 vs q⟩
  rw [show vs.length+[d].length-ps.length=0 by rw [q,e];exact Nat.sub_self _]
  exact .cons (RO hd) .nil
theorem z0 {S:aY} {f:Fn} {fd:FuncData} {ps:List Nm} {ds:List AV} (e:fnOf S.K (S.fa f)=some fd) (h:Xm S.K (S.fa f) ps ds):BQ S ps ds fd:=λs vs X l1 l2=>Exists.elim (h vs l1 l2) λus z=>⟨us,z.1 S,ue e X z.2⟩
theorem Ba {ps:List Nm} (h:ps.Nodup):(ps.map bY).Nodup:=List.Pairwise.map (S:=(·≠·)) bY (λa b h e=>h (jB e)) h
noncomputable def YB (K:Frag) (a:Addr) (d:fF):Bool:=bindB (fnOf K a) λfd=>bindB (P0 fd.body) λb=>(DW fd.scope.kind&&!fd.scope.isCoroutine&&!fd.scope.isGenerator&&Nat.beq fd.globals mainGlobals&&Nat.beq fd.builtins builtinsNs&&fd.closure.isEmpty)&&(codeIn K fd.code fd.qualname&&
   u9 d.ks fd.scope&&WH d.ps fd.scope&&k8 d.ps&&rr d.ks d.ir b&&true)
theorem not_true {b:Bool} (h:(!b)=true):b=false:=by cases b<;>first|rfl|cases h
theorem bA {S:aY} {f:Fn} {d:fF} (h:YB S.K (S.fa f) d=true) (hb:Xm S.K (S.fa f) d.ps d.ds):gP S f d:=
 bg h λfd h e=>bg h λb h e'=>
 have y:=t9 (bf h).1
 have z:=t9 (bf h).2
 ⟨fd,b,yQ e,zB e',uZ y.1,not_true y.2.1,not_true y.2.2.1,Nat.eq_of_beq_eq_true y.2.2.2.1,Nat.eq_of_beq_eq_true y.2.2.2.2.1,List.isEmpty_iff.mp y.2.2.2.2.2,z.1,z.2.1,z.2.2.1,z.2.2.2.1,z.2.2.2.2.1,z0 e hb⟩
noncomputable def ZL (l:List Nat) (s:Str):Bool:=bQ l s.cps.toList&&Nat.ble l.length 1000
noncomputable def vI:Value->Option Int|.int i _=>some i|_=>none
noncomputable def vB:Value->Option Bool|.bool i=>some i|_=>none
noncomputable def vS:Value->Option Str|.str i _=>some i|_=>none
noncomputable def vR:Value->Option Addr|.ref i=>some i|_=>none
noncomputable def vT:Value->Option String|.type i=>some i|_=>none
noncomputable def Sk:Value->Bool|.none=>true|_=>false
section
variable {P:Value->Prop} {v:Value}
@[elab_as_elim] theorem Mb {i:Int} (h:vI v=some i) (k :∀t,P (.int i t)):P v:=by cases v<;>first|exact nn h|exact Option.some.inj h▸k _
@[elab_as_elim] theorem Xi {i:Bool} (h:vB v=some i) (k:P (.bool i)):P v:=by cases v<;>first|exact nn h|exact Option.some.inj h▸k
@[elab_as_elim] theorem Mc {i:Str} (h:vS v=some i) (k :∀t,P (.str i t)):P v:=by cases v<;>first|exact nn h|exact Option.some.inj h▸k _
@[elab_as_elim] theorem zL {i:Addr} (h:vR v=some i) (k:P (.ref i)):P v:=by cases v<;>first|exact nn h|exact Option.some.inj h▸k
@[elab_as_elim] theorem Xj {i:String} (h:vT v=some i) (k:P (.type i)):P v:=by cases v<;>first|exact nn h|exact Option.some.inj h▸k
@[elab_as_elim] theorem Jo (h:Sk v=true) (k:P .none):P v:=by cases v<;>first|exact k|exact absurd h Bool.false_ne_true
end
noncomputable def Kv {α:Type} (o:Option α) (f:α->Bool) (b:Bool):Bool:=match o with|some x=>f x|none=>b
theorem ku {α:Type} {o:Option α} {f:α->Bool} {b:Bool} {P:Prop} (h:Kv o f b=true) (k :∀x,f x=true->o=some x->P) (k':b=true->o=none->P):P:=by
 cases o with
 |none=>exact k' h rfl
 |some x=>exact k x h rfl
noncomputable def N6:List (Nm×AV)->List DictEntry->Bool
 |[],es=>es.isEmpty
 |p::r,es=>match es with
  |[]=>false
  |e::es=>bindB (vS e.key) (zi p.1)&&N6 r es
noncomputable def KX (p:AV->Value->Bool):List AV->List Value->Bool
 |[],us=>us.isEmpty
 |a::r,us=>match us with
  |[]=>false
  |v::q=>p a v&&KX p r q
noncomputable def Qg (p:AV->Value->Bool):List (Nm×AV)->List DictEntry->Bool
 |[],_=>true
 |x::r,es=>match es with
  |[]=>false
  |e::q=>p x.2 e.val&&Qg p r q
noncomputable def RN:Data->Option (List Value×Nat)|.seq us n=>some (us.toList,n)|_=>none
noncomputable def RM:Data->Option (List DictEntry×Nat)|.dict us n=>some (us.toList,n)|_=>none
theorem Ir {d:Data} {x:List Value×Nat} (h:RN d=some x):d=.seq ⟨x.1⟩ x.2:=by cases d<;>first|exact nn h|exact Option.some.inj h▸rfl
theorem Iq {d:Data} {x:List DictEntry×Nat} (h:RM d=some x):d=.dict ⟨x.1⟩ x.2:=by cases d<;>first|exact nn h|exact Option.some.inj h▸rfl
noncomputable def PU (K:Frag) (T:String) (v:Value):Option (List Value×Nat):=bd (vR v) λp=>bd (K.lookup p) λo=>bd (vT o.cls) λt=>cond (t==T) (RN o.data) none
theorem Fc {o:Obj} {c:Value} {d:Data} (h:o.cls=c) (h':o.data=d):o=⟨c,o.dict,d,o.slots⟩:=h▸h'▸rfl
theorem Me {v:Value} {i:String} (h:vT v=some i):v=.type i:=Xj (P:=λv=>v=.type i) h rfl
theorem zy {P:Value->Prop} {K:Frag} {T:String} {v:Value} {x:List Value×Nat} (h:PU K T v=some x) (k :∀p d sl,K.lookup p=some ⟨.type T,d,.seq ⟨x.1⟩ x.2,sl⟩->P (.ref p)):P v:=
 ar h λp h e1=>ar h λo h e2=>ar h λt h e3=>bR h (λh e4=>zL e1 (k p o.dict o.slots (e2.trans (congrArg some (Fc ((Me e3).trans (congrArg Value.type (beq_iff_eq.mp e4))) (Ir h)))))) λh _=>nn h
noncomputable def RS (K:Frag) (v:Value):Option (Addr×List DictEntry×Nat):=bd (vR v) λp=>bd (K.lookup p) λo=>bd (vT o.cls) λt=>cond (t=="dict"&&o.dict.isNone&&o.slots.isEmpty) (bd (RM o.data) λx=>some (p,x)) none
theorem Iz {P:Value->Prop} {K:Frag} {v:Value} {x:Addr×List DictEntry×Nat} (h:RS K v=some x) (k:K.lookup x.1=some ⟨.type "dict",none,.dict ⟨x.2.1⟩ x.2.2,#[]⟩->P (.ref x.1)):P v:=
 ar h λp h e1=>ar h λo h e2=>ar h λt h e3=>bR h (λh e4=>ar h λy h e5=>zL e1 (aw (P:=λx:Addr×List DictEntry×Nat=>(K.lookup x.1=some ⟨.type "dict",none,.dict ⟨x.2.1⟩ x.2.2,#[]⟩->P (.ref x.1))->P (.ref p)) h (λk=>k (by
  have z:=fL e4
  rw [e2,Fc ((Me e3).trans (congrArg Value.type (beq_iff_eq.mp z.1))) (Iq e5),Option.isNone_iff_eq_none.mp z.2.1,Array.isEmpty_iff.mp z.2.2])) k)) λh _=>nn h
noncomputable def BI (K:Frag) (fa:Fn->Addr) (ca:Cl->Addr):Nat->AV->Value->Bool
 |0,_,_=>false
 |n+1,a,v=>match a with
  |.none=>Sk v
  |.bool x=>bindB (vB v) λy=>x==y
  |.int i=>bindB (vI v) λj=>i==j
  |.str l=>bindB (vS v) λs=>ZL l s
  |.tup vs=>bindB (PU K "tuple" v) λx=>Nat.ble vs.length 1000&&KX (BI K fa ca n) vs x.1
  |.lst vs=>bindB (PU K "list" v) λx=>Nat.ble vs.length 1000&&KX (BI K fa ca n) vs x.1
  |.ck aR=>bindB (RS K v) λx=>Nat.ble aR.length 1000&&!(Nat.beq x.1 sysModules)&&k8 (aR.map (·.1))&&N6 aR x.2.1&&Qg (BI K fa ca n) aR x.2.1&&true
  |.fn f=>bindB (vR v) λp=>Nat.beq (fa f) p
  |.cls c=>bindB (vR v) λp=>Nat.beq (ca c) p
  |.bi b=>v==K9 b
  |_=>false
noncomputable def Sp:Value->Str|.str s _=>s|_=>default
noncomputable def Sl:Value->Bool|.str _ _=>true|_=>false
noncomputable def NA (o:Obj):List DictEntry:=match o.data with|.dict es _=>es.toList|_=>[]
noncomputable def q9:Frag->List DictEntry
 |[]=>[]
 |p::r=>NA p.2++q9 r
noncomputable abbrev DD (P:Params) (e:DictEntry):Int:=PyData.keyHash P (Sp e.key)
noncomputable def tY (P:Params) (l:List DictEntry):Prop:=l.all (λe=>Sl e.key)=true/\l.map (·.hash)=l.map (DD P)
theorem uN {a:Addr} {o:Obj} {e:DictEntry} :∀{K:Frag},K.lookup a=some o->e∈NA o->e∈q9 K
 |[],h,_=>nn h
 |(b,q)::r,h,m=>by
  rw [List.lookup_cons]at h
  cases hb:a==b with
  |true=>
   rw [hb]at h
   exact List.mem_append_left _ (Option.some.inj h▸m)
  |false=>
   rw [hb]at h
   exact List.mem_append_right _ (uN h m)
noncomputable def KY (P:Params) (e:DictEntry):Prop:=Sl e.key=true/\e.hash=DD P e
theorem tY.at {P:Params} {K:Frag} (h:tY P (q9 K)) {a:Addr} {o:Obj} (e:K.lookup a=some o) :∀e∈NA o,KY P e:=λx m=>have m:=uN e m
 ⟨List.all_eq_true.mp h.1 x m,List.map_inj_left.mp h.2 x m⟩
theorem tW {S:aY} {W:Wd} {p:AV->Value->Bool} (h :∀a v,p a v=true->VR S W a v) :∀{vs:List AV} {us:List Value},KX p vs us=true->cq S W vs us
 |[],_,z=>List.isEmpty_iff.mp z
 |_::_,[],z=>absurd z Bool.false_ne_true
 |_::_,_::_,z=>.cons (h _ _ (bf z).1) (tW h (bf z).2)
theorem zO {S:aY} {W:Wd} {p:AV->Value->Bool} (h :∀a v,p a v=true->VR S W a v) :∀{aR:List (Nm×AV)} {es:List DictEntry},N6 aR es=true->Qg p aR es=true->(∀e∈es,KY S.w.params e)->
  ∃ps,fK S W aR ps/\(∀e∈es,∃k,(PySem.strKind S.prog S.w).is k e.key=true/\e.hash=(PySem.strKind S.prog S.w).hash k)/\Pairs (PySem.strKind S.prog S.w) es ps/\ps.map (·.1)=aR.map (λq=>bY q.1)
 |[],_,z1,_,_=>by
  rw [List.isEmpty_iff.mp z1]
  exact⟨[],.nil,λe m=>(nomatch m),.nil,rfl⟩
 |_::_,[],z1,_,_=>absurd z1 Bool.false_ne_true
 |x::r,e::es,z1,z2,z3=>Exists.elim (zO h (bf z1).2 (bf z2).2 λe m=>z3 e (.tail _ m)) λps P=>bg (bf z1).1 λs hx hk=>have hs:=gM hx
  have q:(PySem.strKind S.prog S.w).is (bY x.1) e.key=true/\e.hash=(PySem.strKind S.prog S.w).hash (bY x.1):=Mc (P:=λv=>(PySem.strKind S.prog S.w).is (bY x.1) v=true/\PyData.keyHash S.w.params (Sp v)=(PySem.strKind S.prog S.w).hash (bY x.1)) hk (λt=>hs▸⟨beq_self_eq_true s,rfl⟩) |>.imp id (z3 e (.head _)).2.trans
  ⟨(bY x.1,e.val)::ps,.cons (h _ _ (bf z2).1) P.1,λe' m=>(List.mem_cons.mp m).elim (λz=>z▸⟨bY x.1,q⟩) (P.2.1 e'),.cons q.1 rfl P.2.2.1,congrArg (bY x.1::·) P.2.2.2⟩
theorem nT {n:Nat} (h:Nat.ble n 1000=true):n<=ew:=Nat.le_trans (Nat.le_of_ble_eq_true h) (by unfold ew;decide)
theorem KU {S:aY} {W:Wd} (hP :∀a o,S.K.lookup a=some o->W.P a=some o) (hD:tY S.w.params (q9 S.K)) (n:Nat) :∀(a:AV) (v:Value),BI S.K S.fa S.ca n a v=true->VR S W a v:=by
 induction n with
 |zero=>exact λa v h=>absurd h Bool.false_ne_true
 |succ n ih=>
  intro a v h
  cases a with
  |none=>exact Jo h .none
  |bool x=>exact bg h λy h e=>Xi e (beq_iff_eq.mp h▸.bool _)
  |int x=>exact bg h λy h e=>Mb e λt=>beq_iff_eq.mp h▸.int _ _
  |str l=>exact bg h λy h e=>Mc e λt=>(Gl (bf h).1).symm▸.str _ _ (nT (bf h).2)
  |tup vs=>exact bg h λy h e=>zy e λp d sl e1=>.tup (hP _ _ e1) (nT (bf h).1) (tW ih (bf h).2)
  |lst vs=>exact bg h λy h e=>zy e λp d sl e1=>.lst (hP _ _ e1) (nT (bf h).1) (tW ih (bf h).2)
  |ck aR=>
   refine bg h λy h1 e=>Iz e λe=>?_
   have z:=t9 h1
   obtain⟨ps,p1,p2,p3,p4⟩:=zO ih z.2.2.2.1 z.2.2.2.2.1 (hD.at e)
   refine .ck (hP _ _ e) ⟨⟨rfl,rfl,rfl⟩,_,_,rfl,λe' m=>p2 e' (Array.mem_def.mp m),p3,?_⟩ (beq_eq_false_iff_ne.mpr (Nat.ne_of_beq_eq_false (not_true z.2.1))) (nT z.1) p1
   have t:=Ba (mY z.2.2.1)
   rw [List.map_map]at t
   exact p4▸t
  |fn f=>exact bg h λy h e=>zL e (Nat.eq_of_beq_eq_true h▸.fn _)
  |cls f=>exact bg h λy h e=>zL e (Nat.eq_of_beq_eq_true h▸.cls _)
  |bi b=>exact(beq_iff_eq.mp h).symm▸.bi _
  |_=>exact absurd h Bool.false_ne_true
noncomputable def Sf (K:Frag) (fa:Fn->Addr) (ca:Cl->Addr) (x:Nm) (av:AV):Bool:=bindB (nsIn K mainGlobals (bY x)) λo=>Kv o (BI K fa ca 8 av) (bindB (nsIn K builtinsNs (bY x)) λo=>bindB o (BI K fa ca 8 av))
noncomputable def YE (K:Frag) (fa:Fn->Addr) (ca:Cl->Addr) (G:cy) (c:Cl):Bool:=
 ((findIn K (.ref (ca c)) "__getattribute__"==some (some (.builtin "object.__getattribute__")))&&(findIn K (.ref (ca c)) "__getattr__"==some none)&&(findIn K (.ref (ca c)) "__setattr__"==some (some (.builtin "object.__setattr__"))))&&
 (bindB (clsIn K (ca c)) (·.hasDict)&&plainOver K (ca c)&&makesIn K (ca c))&&((findIn K (.ref (ca c)) "__init__"==some (some (.ref (fa (G.init c)))))&&keepIn K (.ref (ca c))&&(typeIn K (.ref (fa (G.init c)))==some (.type "function")))
noncomputable def Zg (i:Int) (o:Option (Option Value)):Bool:=bindB o λo=>bindB o λv=>bindB (vI v) λj=>i==j
noncomputable def Yv (K:Frag) (fa:Fn->Addr) (ca:Cl->Addr) (G:cy) (c:Cl) (a:Nm):Bool:=Kv (G.bD c a) (λf=>(G.cP c a).isNone&&(findIn K (.ref (ca c)) (bY a)==some (some (.ref (fa f))))&&(typeIn K (.ref (fa f))==some (.type "function")))
 (Kv (G.cP c a) (λv=>bindB (jQ v) λi=>Zg i (findIn K (.ref (ca c)) (bY a))) (findIn K (.ref (ca c)) (bY a)==some none))
noncomputable def YQ (K:Frag) (fa:Fn->Addr) (f:Fn):Bool:=keepIn K (.ref (fa f))&&fnIn K (fa f)
structure x4 (S:aY) (G:cy) (gl:List (Nm×AV)):Prop where
 call :∀f as H,G.call f as H=none
 glob :∀x,G.glob x=lk gl x
 globs:gl.all (λp=>Sf S.K S.fa S.ca p.1 p.2)=true
 ns:(nsOkIn S.K mainGlobals&&nsOkIn S.K builtinsNs)=true
 dicts:tY S.w.params (q9 S.K)
 cls :∀c,YE S.K S.fa S.ca G c=true
 att :∀c,(List.finRange 184).all (Yv S.K S.fa S.ca G c)=true
 fns :∀f,YQ S.K S.fa f=true
 lim :∀h,S.K.In h->h.NoLimit
 sys :∃o,S.hB sysModules=some o
theorem Pm {K:Frag} {h:Heap} {N:Addr} {m:Str->Option Value} {x:Str} {v:Value} (X:K.In h) (G:h.Ns N m) (e:nsIn K N x=some (some v)):m x=some v:=by
 obtain⟨o,es,ep,g,d,_,f⟩:=G
 rw [nsIn]at e
 cases q:K.lookup N with
 |none=>rw [q]at e;exact nn e
 |some o'=>
  rw [q]at e
  obtain rfl:o=o':=Option.some.inj (g.symm.trans (X _ _ q))
  obtain⟨c,dd,dt,sl⟩:=o
  obtain rfl:dt=.dict es ep:=d
  replace e:(match es.toList.find? (·.key.isStr x)with|some e=>some (some e.val)|none=>if es.toList.any (·.refKey)then none else some none)=some (some v):=e
  rw [<-f,nsFind,findBy,<-Array.find?_toList]
  cases z:es.toList.find? (·.key.isStr x)with
  |none=>
   rw [z]at e
   replace e:(if es.toList.any (·.refKey)=true then none else some none:Option (Option Value))=some (some v):=e
   by_cases hb:es.toList.any (·.refKey)=true
   ·rw [if_pos hb]at e
    exact nn e
   ·rw [if_neg hb]at e
    exact nn (Option.some.inj e)
  |some en=>
   rw [z]at e
   exact Option.some.inj e
theorem Ao {S:aY} {G:cy} {gl:List (Nm×AV)} (g:x4 S G gl):bq S G 0:=
 have A:=λc a=>List.all_eq_true.mp (g.att c) a (List.mem_finRange a)
 have cl:=λc=>fL (g.cls c)
 have y:=λc=>fL (cl c).1
 have z:=λc=>fL (cl c).2.1
 have w:=λc=>fL (cl c).2.2
 {cls:=λc=>⟨beq_iff_eq.mp (y c).1,beq_iff_eq.mp (y c).2.1,beq_iff_eq.mp (y c).2.2,bg (z c).1 λcd h e=>⟨cd,e,h⟩,(z c).2.1,(z c).2.2,beq_iff_eq.mp (w c).1,λa f e=>ku (A c a) (λf' h e'=>have h:=fL h;Option.some.inj (e'.symm.trans e)▸⟨beq_iff_eq.mp h.2.1,beq_iff_eq.mp h.2.2⟩) λ_ e'=>nn (e'.symm.trans e),λa v e=>ku (A c a) (λf' h e'=>nn ((Option.isNone_iff_eq_none.mp (fL h).1).symm.trans e)) λh _=>ku h (λv' h e'=>Option.some.inj (e'.symm.trans e)▸bg h λi h ei=>wF (P:=λv=>∃i t,v=.int i/\findIn S.K (.ref (S.ca c)) (bY a)=some (some (.int i t))) ei
    (bg h λo h e1=>bg h λu h e2=>bg h λj h e3=>Mb (P:=λu=>o=some u->∃i' t,AV.int i=.int i'/\findIn S.K (.ref (S.ca c)) (bY a)=some (some (.int i' t))) e3 (λt e2=>⟨i,t,rfl,e1.trans (congrArg some (e2.trans (beq_iff_eq.mp h▸rfl)))⟩) e2)) λ_ e'=>nn (e'.symm.trans e),λa e e'=>ku (A c a) (λf h q=>nn (e.symm.trans q)) λh _=>ku h (λv h q=>nn (e'.symm.trans q)) λh _=>beq_iff_eq.mp h⟩
  call:=λf as H r H' os e=>nn ((g.call f as H).symm.trans e)
  glob:=λx av e W F H h I=>have q:=List.all_eq_true.mp g.globs _ (sM ((g.glob x).symm.trans e))
   have V:=KU (S:=S) (W:=W) (λa o z=>I.base a o z) g.dicts
   have n:=bf g.ns
   have N1:=Heap.Ns.of_isNs (isNs_of_in I.K n.1)
   have N2:=Heap.Ns.of_isNs (isNs_of_in I.K n.2)
   bg q λo q e1=>ku q (λv q eo=>⟨v,V _ _ _ q,.inl ⟨_,N1,mg_of I.K N1 (e1.trans (congrArg some eo))⟩⟩) λq eo=>bg q λo' q e2=>bg q λv q eo'=>⟨v,V _ _ _ q,.inr ⟨_,_,N1,mg_none_of I.K N1 (e1.trans (congrArg some eo)),N2,Pm I.K N2 (e2.trans (congrArg some eo'))⟩⟩
  kf:=λf=>bf (g.fns f)
  kc:=λc=>(w c).2.1
  ft:=λc=>beq_iff_eq.mp (w c).2.2
  lim:=g.lim
  sys:=g.sys}
noncomputable def wW:Ex:=.aq (.v .ae) .aC .nil
noncomputable def G8:Ex:=.at (.at (.v .ae) .aE) .d9
noncomputable def BM:Ex:=.at (.v .ae) .ai
noncomputable def Dn:Ex:=.aq (.at (.v .ae) .ai) .D7 (.cons (.c (.int 0)) .nil)
noncomputable def G9:Sx:=.asg (.at (.v .ae) .ai) (.lst .nil false)
noncomputable def gV (n:Nat):List (Nm×AV):=[(.ae,.inst .tok n)]
noncomputable def mj (n:Nat) (σ:St):St:={σ with V:=gV n}
noncomputable def bk (σ τ:St):St:={τ with V:=σ.V}
noncomputable def T9 (p:Fl×St) (k:St->Option St):Option St:=match p.1 with
 |.nx=>k p.2
 |.bk=>none
 |.rt _=>none
@[simp] theorem Zh {σ:St} {k:St->Option St}:T9 (.nx,σ) k=k σ:=rfl
theorem E9 {p:Fl×St} {k:St->Option St} {r:St} {P:Prop} (h:T9 p k=some r) (q:k p.2=some r->p.1=.nx->P):P:=by
 obtain⟨f,σ⟩:=p
 cases f with
 |nx=>exact q h rfl
 |bk=>exact nn h
 |rt v=>exact nn h
noncomputable def d6 (G:cy) (n:Nat) (x:Nm) (b:St->Option (Fl×St)):Nat->Bool->St->Option St
 |0,_,_=>none
 |k+1,ph,σ=>cond ph (bd (cZ G wW (mj n σ)) λp=>cond p.1 (bd (cZ G G8 p.2) λq=>cond q.1 none (d6 G n x b k false (bk σ q.2))) (some (bk σ p.2)))
  (bd (cZ G BM (mj n σ)) λp=>cond p.1 (bd (ev G Dn p.2) λq=>bd (b {H:=q.2.H,V:=pt σ.V x q.1,O:=q.2.O}) λr=>T9 r (d6 G n x b k false)) (d6 G n x b k true (bk σ p.2)))
section
variable {G:cy} {n:Nat} {x:Nm} {b:St->Option (Fl×St)} {σ:St} {L:List Nat}
theorem c6.cond {b:Bool} {x y:Option St} (h:c6 L x) (k:c6 L y):c6 L (cond b x y):=λr e z=>bR e (λe _=>h r e z) λe _=>k r e z
theorem J9 {p:Fl×St} {k:St->Option St} (h :∀σ,c6 σ.O (k σ)):c6 p.2.O (T9 p k):=λr e z=>E9 e λe _=>h _ r e z
theorem kX {k:Nat} (hb :∀σ,Mon σ.O (b σ)) (g :∀σ,c6 σ.O (d6 G n x b k false σ)) {V:List (Nm×AV)} (q:AV×St):c6 q.2.O (bd (b {H:=q.2.H,V:=pt V x q.1,O:=q.2.O}) λr=>T9 r (d6 G n x b k false)):=Mon.oD (L:=q.2.O) (hb _) λr=>J9 g
theorem gj (hb :∀σ,Mon σ.O (b σ)) :∀(k:Nat) (ph:Bool) (σ:St),c6 σ.O (d6 G n x b k ph σ)
 |0,_,_=>.no
 |k+1,_,σ=>.cond (Mon.oD (L:=σ.O) ((br wW).t (mj n σ)) λp=>.cond (((br G8).t p.2).oD λq=>.cond .no (gj hb k false (bk σ q.2))) .ret)
  (Mon.oD (L:=σ.O) ((br BM).t (mj n σ)) λp=>.cond (((br Dn).v p.2).oD λq=>kX hb (gj hb k false) q) (gj hb k true (bk σ p.2)))
noncomputable def KV {α:Type} (V:List (Nm×AV)) (o:Option (α×St)):Prop:=∀p,o=some p->p.2.V=V
section
variable {α β γ:Type} {V:List (Nm×AV)}
theorem KV.bd {o:Option (α×St)} {f:α×St->Option (β×St)} (h:KV V o) (k :∀p,p.2.V=V->KV V (f p)):KV V (bd o f):=λr e=>ar e λp e e'=>k p (h p e') r e
theorem KV.opt {o:Option γ} {f:γ->Option (β×St)} (k :∀x,KV V (f x)):KV V (Mine.bd o f):=λr e=>ar e λx e _=>k x r e
theorem KV.ret {a:α} (h:σ.V=V):KV V (some (a,σ)):=λ_ e=>aw (P:=λp:α×St=>p.2.V=V) e h
end
theorem Ig {v:AV} {as:List AV}:KV σ.V (fG G v as σ):=λp h=>oG (P:=λ_ p=>p.2.V=σ.V) h (λ_ _ _=>rfl) (λ_ _ _ _=>rfl) (λ_ _ _ _=>rfl) λ_ _ _=>rfl
theorem yi {f:Sum AV (AV×Nm)} {as:List AV}:KV σ.V (iX G f as σ):=by
 cases f with
 |inl f=>exact Ig
 |inr p=>exact λr h=>b7 h (λs h _=>ar h λq h _=>aw (P:=λp:AV×St=>p.2.V=σ.V) h rfl) λh=>ar h λ_ h _=>ar h λ_ h _=>ar h λ_ h _=>aw (P:=λp:AV×St=>p.2.V=σ.V) h rfl
theorem Rk {y a:Nm}:KV σ.V (ev G (.at (.v y) a) σ):=KV.bd (.opt λ_=>.ret rfl) λ_ e=>.opt λ_=>.ret e
theorem R7:KV σ.V (cZ G wW σ):=KV.bd (.opt λ_=>.ret rfl) λp e=>.opt λf=>KV.bd (.ret e) λq e=>KV.bd (e▸yi) λr e=>.opt λb=>.ret e
theorem R8:KV σ.V (cZ G G8 σ):=KV.bd Rk λp e=>.opt λ_=>.opt λ_=>.ret e
theorem R9:KV σ.V (cZ G BM σ):=KV.bd (.opt λ_=>.ret rfl) λp e=>.opt λ_=>.opt λ_=>.ret e
theorem Sa:KV σ.V (ev G Dn σ):=KV.bd Rk λp e=>.opt λf=>KV.bd (KV.bd (.ret e) λp e=>KV.bd (.ret e) λq e=>.ret e) λq e=>e▸yi
theorem v_V {y:Nm}:KV σ.V (ev G (.v y) σ):=.opt λ_=>.ret rfl
theorem SY:KV σ.V (ev G (.lst .nil false) σ):=KV.bd (.ret rfl) λp e=>.ret e
theorem Kw {v r:AV} {a:Nm} {τ:St} (h:setAt G v a r σ=some τ):τ.V=σ.V:=ar h λi h _=>ar h λaR h _=>bR h (λh _=>aw (P:=λτ:St=>τ.V=σ.V) h rfl) λh _=>nn h
theorem Sb:KV σ.V (ex G G9 σ):=λr h=>ar (o:=ev G (.lst .nil false) σ) (f:=λp=>bd (iN G (.at (.v .ae) .ai) p.1 p.2) λσ2=>some (Fl.nx,σ2)) h λp h e=>ar h λτ h h'=>ar (o:=ev G (.v .ae) p.2) (f:=λq=>setAt G q.1 .ai p.1 q.2) h' λq h' e1=>aw (P:=λr:Fl×St=>r.2.V=σ.V) h ((Kw h').trans ((v_V q e1).trans (SY p e)))
end
noncomputable abbrev X2 (y4:Expr) (yp ep:Pos):List Stmt:=[.Expr (.Yield (some y4) yp) ep]
noncomputable abbrev R6 (t2 t3 y4:Expr) (b2:List Stmt) (p2 p3 yp ep:Pos):List Stmt:=[.While t2 b2 [] p2,.While t3 (X2 y4 yp ep) [] p3]
noncomputable abbrev Dk (st0:Stmt) (t1 t2 t3 y4:Expr) (b2:List Stmt) (p1 p2 p3 yp ep:Pos):List Stmt:=[st0,.While t1 (R6 t2 t3 y4 b2 p2 p3 yp ep) [] p1]
noncomputable def GF (S:aY) (F0:Addr->Option Obj) (fm:Fm) (n:Nat) (Lg:Addr) (W:Wd) (h:Heap):Prop:=
 Un W F0 fm Lg/\∃m xv,h.Ns Lg m/\m (bY .ae)=some xv/\VR S W (.inst .tok n) xv
section
variable {S:aY} {G:cy} {W W0 W1 W':Wd} {F F0:Addr->Option Obj} {fm:Fm} {σ τ:St} {s:Shared} {A:Around} {n:Nat} {h h0:Heap} {ge:Env} {Lg:Addr}
structure B4 (S:aY) (ge:Env) (Lg:Addr):Prop where
 os:B2 S ⟨ge,[Lg]⟩
 lo:ge.locals=Lg
 self:ge.kindOf (bY .ae)=some .local
 nocell :∀x,ge.kindOf x≠some .cell
 co:ge.scope.isCoroutine=false
theorem L0 (gE:B4 S ge Lg) (I:Inv S W F0 fm σ h) (g:GF S F0 fm n Lg W h):Inv S W (nL fm F0 h) ⟨ge,[Lg]⟩ (mj n σ) h:=by
 obtain⟨u,m,xv,ns,ex,rx⟩:=g
 refine⟨I.freeze,λa ma=>?_,λx c k _=>absurd k (gE.nocell x),⟨⟨m,gE.lo.symm▸ns,λx av e=>?_⟩,λx e=>absurd e (gE.nocell x)⟩⟩
 ·rw [List.mem_singleton.mp ma]
  exact⟨u.P,(jb u.ow).trans u.f,u.ρ,Exists.elim ns λo z=>Exists.elim z λ_ z=>Exists.elim z λ_ z=>⟨o,z.1⟩⟩
 ·have e:lk [(.ae,.inst .tok n)] x=some av:=e
  rw [dT]at e
  by_cases z:Nm.ae=x
  ·rw [if_pos z]at e
   exact⟨xv,Option.some.inj e▸rx,.inl (z▸⟨gE.self,ex⟩)⟩
  ·rw [if_neg z]at e
   exact nn e
theorem LJ (gE:B4 S ge Lg) (ok:gC S fm) (I0:Inv S W0 F0 fm σ h0) (L:W0.Le W) (J:Inv S W (nL fm F0 h0) ⟨ge,[Lg]⟩ τ h) (hV:τ.V=gV n) :
  Inv S W F0 fm (bk σ τ) h/\GF S F0 fm n Lg W h:=by
 have o:=J.own Lg (.head _)
 have no:Lg∉fm.ow:=λm=>Exists.elim (I0.own Lg m).2.2.2 λx e=>nn (((lJ (F:=F0) m).symm.trans o.2.1).symm.trans e)
 refine⟨I0.P8 ok L J.tob6,⟨o.1,(jb no).symm.trans o.2.1,o.2.2.1,no⟩,?_⟩
 obtain⟨m,ns,hv⟩:=J.vars.ns
 obtain⟨v,r,w⟩:=hv .ae (.inst .tok n) (by rw [hV];rfl)
 exact⟨m,v,gE.lo▸ns,w.elim (λz=>z.2) λz=>absurd z.1 (gE.nocell _),r⟩
theorem xZ (t:Expr) (b o:List Stmt) (e:Env):(Code.whileLoop t b o e).weight=0:=by kernel_rfl
theorem BJ (t:Expr) (b o:List Stmt) (e:Env):(Code.whileLoop t b o e).cUnits=0:=by kernel_rfl
theorem wV (b:List Stmt) (e:Env):(Code.func b e).weight=1:=by kernel_rfl
theorem Aj (b:List Stmt) (e:Env):(Code.func b e).cUnits=3:=by kernel_rfl
variable {m N:Nat} {x:Nm} {b:St->Option (Fl×St)} {σ':St} {ph:Bool}
noncomputable def Good (S:aY) (F0:Addr->Option Obj) (fm:Fm) (n:Nat) (Lg:Addr) (W1:Wd) (σ:St) (s:Shared):Prop:=∃W,W1.Le W/\Inv S W F0 fm σ s.heap/\GF S F0 fm n Lg W s.heap
inductive YY (S:aY) (G:cy) (b:St->Option (Fl×St)) (x:Nm) (σ':St) (F0:Addr->Option Obj) (fm:Fm) (n:Nat) (Lg:Addr) (W1:Wd) (s₀:Shared) (v:Value) (s₁:Shared) (kap:Resume->Shared->Prop):Prop
 |mk (k:Nat) (W:Wd) (q:AV×St) (p:Fl×St):W1.Le W->Inv S W F0 fm q.2 s₁.heap->GF S F0 fm n Lg W s₁.heap->VR S W q.1 v->Kp s₀ s₁->b {H:=q.2.H,V:=pt q.2.V x q.1,O:=q.2.O}=some p->p.1=.nx->d6 G n x b k false p.2=some σ'->
  (∀s'',Good S F0 fm n Lg W1 p.2 s''->kap (.send .none) s'')->YY S G b x σ' F0 fm n Lg W1 s₀ v s₁ kap
noncomputable def RE (S:aY) (F0:Addr->Option Obj) (fm:Fm) (n:Nat) (Lg:Addr) (W1:Wd) (σ':St) (s₀ s₁:Shared):Prop:=Good S F0 fm n Lg W1 σ' s₁/\Kp s₀ s₁
structure Loop (S:aY) (G:cy) (n0:Nat) (A:Around) (ge:Env) (Lg:Addr) (ks:c4) (t1 t2 t3 y4:Expr) (fm:Fm):Prop where
 go:bq S G n0
 gE:B4 S ge Lg
 kd:qm ks ge
 m1:mE ks wW t1=true
 m2:mE ks G8 t2=true
 m3:mE ks BM t3=true
 m4:mE ks Dn y4=true
 ro:Ro (n0+2) A
 ok:gC S fm
theorem lW {n0:Nat} {c c1 c2:Code} {k1 k2:Result->Sem Fin} {l1 l2:List Value} {p1 p2:Pos} (ro:Ro (n0+2) A) (h1:c.weight<=1/\c1.weight<=1/\c2.weight<=1) (h2:c.cUnits<=3/\c1.cUnits<=3/\c2.cUnits<=3) :
  Ro (n0+1) (A.over c [.ret k1 none false l1 c1 p1 [],.ret k2 none false l2 c2 p2 []])/\Ro (n0+1) (A.over c [.ret k1 none false l1 c1 p1 []])/\Ro (n0+1) (A.over c []):=by
 have a:=ro.dp
 have b:=ro.un
 refine⟨⟨ro.hd,?_,?_⟩,⟨ro.hd,?_,?_⟩,⟨ro.hd,?_,?_⟩⟩
 ·simp only [Around.over,List.map_cons,List.map_nil,Frame.where_,frameCount,List.sum_cons,List.sum_nil];lia
 ·simp only [Around.over,List.map_cons,List.map_nil,Frame.where_,unitsOf_cons,unitsOf_nil];lia
 ·simp only [Around.over,List.map_cons,List.map_nil,Frame.where_,frameCount,List.sum_cons,List.sum_nil];lia
 ·simp only [Around.over,List.map_cons,List.map_nil,Frame.where_,unitsOf_cons,unitsOf_nil];lia
 ·simp only [Around.over,List.map_nil,frameCount,List.sum_cons,List.sum_nil];lia
 ·simp only [Around.over,List.map_nil,unitsOf_nil];lia
noncomputable def Loop.cx {n0:Nat} {ks:c4} {t1 t2 t3 y4:Expr} {c:Code} {fs:List Frame} (P:Loop S G n0 A ge Lg ks t1 t2 t3 y4 fm) (F:Addr->Option Obj) (ro:Ro (n0+1) (A.over c fs)):Cx S n0:=⟨⟨ge,[Lg]⟩,ks,F,A.over c fs,P.gE.os.togC,P.kd,ro⟩
theorem oU {n0:Nat} {ks:c4} {t1 t2 t3 y4 ti:Expr} {gi:Ex} {p:Bool×St} {c:Code} {fs:List Frame} {X Y:Shared->Prop} {E:Value->Shared->Prop} (P:Loop S G n0 A ge Lg ks t1 t2 t3 y4 fm) (mi:mE ks gi ti=true) (e:cZ G gi σ=some p) (ro:Ro (n0+1) (A.over c fs))
  (I:Inv S W F ⟨ge,[Lg]⟩ σ s.heap) (hz:fN p.2.O) (h :∀W2 s2,W.Le W2->Inv S W2 F ⟨ge,[Lg]⟩ p.2 s2.heap->Kp s s2->if p.1=true then X s2 else Y s2):wpAny (MD S) (A.over c fs) (isTrue ti ge (eval ti ge)) (λb s2=>if b=true then X s2 else Y s2) E s:=
 wpAny_mono ((fh P.go (jV P.go.sys) gi).t (P.cx F ro) ti mi W σ s I p e hz) (λr s2 z=>by
  cases z with|mk W2 L e' I k=>exact(show p.1=r from Eq.symm e')▸h W2 s2 L I k) λ_ _ z=>z.elim
theorem wY (h:τ.V=gV n):mj n (bk σ τ)=τ:=by
 obtain⟨H,V,O⟩:=τ
 exact(show V=gV n from h)▸rfl
theorem La {σc:St} (h:σc.V=σ.V):bk σc τ=bk σ τ:=congrArg (λV=>({τ with V:=V}:St)) h
noncomputable def Ym (S:aY) (A:Around) (ge:Env) (t1 t2 t3 y4:Expr) (b2:List Stmt) (p2 p3 yp ep:Pos) (k1:Result->Sem Fin) (l1:List Value) (cF:Code) (R:GenEnd) (Y:Protocol) (m:Nat) (s₀ s:Shared) (pa:Pos) (ph:Bool):Prop:=match ph with
 |true=>Seg (MD S) A R Y m s₀ (.whileLoop t1 (R6 t2 t3 y4 b2 p2 p3 yp ep) [] ge) ((MD S).den (.whileLoop t1 (R6 t2 t3 y4 b2 p2 p3 yp ep) [] ge)) [.ret k1 none false l1 cF pa []] s
 |false=>∀(k3:Result->Sem Fin) (l3:List Value) (pb:Pos),k3 (.ok .next)=.pure (.again (.whileLoop t1 (R6 t2 t3 y4 b2 p2 p3 yp ep) [] ge))->
   Seg (MD S) A R Y m s₀ (.whileLoop t3 (X2 y4 yp ep) [] ge) ((MD S).den (.whileLoop t3 (X2 y4 yp ep) [] ge)) [.ret k3 none false l3 (.whileLoop t1 (R6 t2 t3 y4 b2 p2 p3 yp ep) [] ge) pb [],.ret k1 none false l1 cF pa []] s
theorem Ak {n0:Nat} {ks:c4} {t1 t2 t3 y4:Expr} {b2:List Stmt} {p2 p3 yp ep:Pos} (P:Loop S G n0 A ge Lg ks t1 t2 t3 y4 fm) (hb :∀σ,Mon σ.O (b σ)) (hz:fN σ'.O)
  {k1:Result->Sem Fin} {l1:List Value} {cF:Code} (hcF:cF.weight<=1/\cF.cUnits<=3) (hk1:k1 (.ok .next)=leafOf (.ok (.ret .none))) :∀(k:Nat) {m:Nat} {ph:Bool} {σ:St},k<=m->d6 G n x b k ph σ=some σ'->
  ∀{s₀ s:Shared} {W0 W:Wd} {σc:St},W1.Le W0->Inv S W0 F0 fm σc s₀.heap->σc.V=σ.V->W0.Le W->Inv S W (nL fm F0 s₀.heap) ⟨ge,[Lg]⟩ (mj n σ) s.heap->Kp s₀ s->∀pa:Pos,Ym S A ge t1 t2 t3 y4 b2 p2 p3 yp ep k1 l1 cF (λ_ s₀ r s₁=>r=.ok (.ret .none)/\RE S F0 fm n Lg W1 σ' s₀ s₁) (λ_=>YY S G b x σ' F0 fm n Lg W1) m s₀ s pa ph:=by
 have w1 :∀{t b o},(Code.whileLoop t b o ge).weight<=1:=λ{_ _ _}=>Nat.le_trans (Nat.le_of_eq (xZ ..)) (by decide)
 have w2 :∀{t b o},(Code.whileLoop t b o ge).cUnits<=3:=λ{_ _ _}=>Nat.le_trans (Nat.le_of_eq (BJ ..)) (by decide)
 intro k
 induction k with
 |zero=>exact λ_ q=>nn q
 |succ k ih=>
  intro m ph σ hm q s₀ s W0 W σc L1 I0 hV L I kk pa
  have gm:=λph σ=>gj (G:=G) (n:=n) (x:=x) hb k ph σ
  have hm':k<=m:=Nat.le_of_succ_le hm
  cases ph with
  |true=>
   refine ar q λp q e=>?_
   have V1:p.2.V=gV n:=R7 p e
   refine seg_whileLoop (oU P P.m1 e (lW P.ro ⟨w1,hcF.1,hcF.1⟩ ⟨w2,hcF.2,hcF.2⟩ (k2:=k1) (l2:=l1) (p2:=pa)).2.1 I (c6.cond (((br G8).t p.2).oD λq=>.cond .no (gm false (bk σ q.2))) .ret _ q hz) λW2 s2 L2 I2 k2=>?_)
   refine bR q (λq c=>Jb c ?_) λq c=>DF c ?_
   ·refine ar q λp' q e'=>bR q (λq _=>nn q) λq c'=>?_
    have V2:p'.2.V=gV n:=(R8 p' e').trans V1
    refine seg_execs_cons (seg_While λ_=>seg_whileLoop (oU P P.m2 e' (lW P.ro ⟨w1,w1,hcF.1⟩ ⟨w2,w2,hcF.2⟩).1 I2 (gm false (bk σ p'.2) _ q hz) λW3 s3 L3 I3 k3=>DF c' (seg_leaf (.ok .next) ?_)))
    show Seg _ _ _ _ _ _ _ ((execs [.While t3 (X2 y4 yp ep) [] p3] ge).wrap _ _ _ _) _ _
    refine seg_execs_cons (seg_While λq'=>?_)
    exact ih hm' q L1 I0 hV (L.trans (L2.trans L3)) (by rw [wY V2];exact I3) (kk.trans (k2.trans k3)) pa _ _ _ rfl
   ·refine seg_leaf (.ok .next) ?_
    rw [hk1]
    have z:=LJ P.gE P.ok I0 (L.trans L2) I2 V1
    exact seg_end (.ok (.ret .none)) ⟨rfl,⟨W2,L1.trans (L.trans L2),Option.some.inj q▸La hV▸z.1,z.2⟩,kk.trans k2⟩
  |false=>
   intro k3 l3 pb hk3
   refine ar q λp q e=>?_
   have V1:p.2.V=gV n:=R9 p e
   refine seg_whileLoop (oU P P.m3 e (lW P.ro ⟨w1,w1,hcF.1⟩ ⟨w2,w2,hcF.2⟩).1 I (c6.cond (((br Dn).v p.2).oD λq=>kX hb (gm false) q) (gm true (bk σ p.2)) _ q hz) λW2 s2 L2 I2 k2=>?_)
   refine bR q (λq c=>Jb c ?_) λq c=>DF c ?_
   ·refine ar q λp' q e'=>?_
    have V2:p'.2.V=gV n:=(Sa p' e').trans V1
    have lz:fN p'.2.O:=kX hb (gm false) p' _ q hz
    refine ar q λr q eb=>E9 q λq en=>?_
    obtain⟨m,rfl⟩ :∃m',m=m'+1:=⟨m-1,by lia⟩
    refine seg_execs_cons (seg_Expr_Yield rfl rfl rfl (wpAny_mono ((fh P.go (jV P.go.sys) Dn).e (P.cx _ (lW P.ro ⟨w1,w1,hcF.1⟩ ⟨w2,w2,hcF.2⟩).1) y4 P.m4 W2 p.2 s2 I2 p' e' lz) (λu s3 z=>?_) λ_ _ z=>z.elim) P.gE.co (vl P.gE.os.togC))
    cases z with|mk W3 L3 rv I3 k3'=>?_
    intro kap hk
    have z:=LJ P.gE P.ok I0 (L.trans (L2.trans L3)) I3 V2
    rw [La hV]at z
    refine .mk k W3 (p'.1,bk σ p'.2) r (L1.trans (L.trans (L2.trans L3))) z.1 z.2 rv (kk.trans (k2.trans k3')) eb en q λs'' gd=>hk .none s'' (seg_execs_nil (seg_again rfl ?_))
    exact Exists.elim gd λW4 g=>ih (Nat.le_of_succ_le_succ hm) q g.1 g.2.1 rfl (.refl _) (L0 P.gE g.2.1 g.2.2) (.refl _) pa k3 l3 pb hk3
   ·refine seg_leaf (.ok .next) ?_
    rw [hk3]
    exact seg_again rfl (ih (ph:=true) hm' q L1 I0 hV (L.trans L2) (by rw [wY V1];exact I2) (kk.trans k2) pa)
end
structure jr (S:aY) (fd:FuncData) (ks:c4) (st0:Stmt) (t1 t2 t3 y4:Expr) (b2:List Stmt) (p1 p2 p3 yp ep:Pos):Prop where
 at_ :∃oc od osl,S.K.lookup (S.fa .j8)=some ⟨oc,od,.func fd,osl⟩
 bod:fd.body=.stmts (Dk st0 t1 t2 t3 y4 b2 p1 p2 p3 yp ep)
 kind:fd.scope.kind=.function
 co:fd.scope.isCoroutine=false
 ge:fd.scope.isGenerator=true
 gl:fd.globals=mainGlobals
 bu:fd.builtins=builtinsNs
 nK:fd.closure=[]
 code:codeIn S.K fd.code fd.qualname=true
 qt :∀y∈fd.scope.names,y.2≠.cell
 kin:u9 ks fd.scope=true
 self:fd.scope.names.lookup (bY .ae)=some .local
 fo:fnOf S.K (S.fa .j8)=some fd
 par :∀v St,oE S.K (S.fa .j8) St [v]=some [(bY .ae,v)]
 m0:mS ks G9 st0=true
 m1:mE ks wW t1=true
 m2:mE ks G8 t2=true
 m3:mE ks BM t3=true
 m4:mE ks Dn y4=true
 it:findIn S.K (.ref (S.ca .tok)) "__iter__" = some (some (.ref (S.fa .j8)))
 ty:typeIn S.K (.ref (S.fa .j8))=some (.type "function")
section
variable {S:aY} {G:cy} {W W0 W1 W':Wd} {F F0:Addr->Option Obj} {fm:Fm} {σ τ:St} {s:Shared} {A:Around} {E:Value->Shared->Prop} {n:Nat} {h h0:Heap} {ge:Env} {Lg:Addr}
 {m N:Nat} {x:Nm} {b:St->Option (Fl×St)} {σ':St} {ph:Bool}
theorem qT :∀(names:List (Str×NameKind)) (k:Nat) (acc:List (Str×Addr)),(∀y∈names,y.2≠.cell)->cellsFrom k names acc=acc
 |[],_,_,_=>rfl
 |(a,kd)::r,k,acc,hh=>by
  unfold cellsFrom
  rw [if_neg λe=>hh (a,kd) (.head _) (eq_of_beq e)]
  exact qT r k acc λy hy=>hh y (.tail _ hy)
theorem D4 {M:Model} {K:Frag} {x C f:Addr} {ox:Obj} {od:Option Obj} {Q:Value->Shared->Prop} (X:K.In s.heap) (I:InstAt s.heap x ox C od) (hs:findIn K (.ref C) "__iter__" = some (some (.ref f))) (hf:typeIn K (.ref f)=some (.type "function"))
  (h:wpAny M A (call (.ref f) [.ref x]) (λit s'=>∃T r,s'.TypeIs it T/\typeLookup (.type T) "__next__" = pure (some r)/\Q it s') E s):wpAny M A (pyIter (.ref x)) Q E s:=by
 have fin:wpAny M A (call (.ref f) [.ref x] >>= λv=>pure (some v)) (λr s'=>∃v,r=some v/\∃T r,s'.TypeIs v T/\typeLookup (.type T) "__next__" = pure (some r)/\Q v s') E s:=
  wpAny_bind (wpAny_mono h (λv s' h'=>wpAny_pure ⟨v,rfl,h'⟩) λ_ _ z=>z)
 have one :∀refuse:Sem Value,wpAny M A (callSpecialIfBoundUnlessNone? (.ref x) "__iter__" refuse) (λr s'=>∃v,r=some v/\∃T r,s'.TypeIs v T/\typeLookup (.type T) "__next__" = pure (some r)/\Q v s') E s:=by
  intro refuse
  simp only [callSpecialIfBoundUnlessNone?,bindSpecialIfBound?]
  refine wpAny_holding (wpAny_bind (wpAny_bind (wpAny_bind (I.type.here ((looks_findIn X hs).here ?_)))))
  refine wpAny_bind (wpAny_askSetting (wpAny_ite ?_))
  have fin2:wpAny M A (if(Value.ref f==Value.none)=true then(refuse >>= λv=>pure (some v))else(call (.ref f) [.ref x] >>= λv=>pure (some v))) (λr s'=>∃v,r=some v/\∃T r,s'.TypeIs v T/\typeLookup (.type T) "__next__" = pure (some r)/\Q v s') E s:=by
   rw [if_neg (show¬((Value.ref f==Value.none)=true)from Bool.false_ne_true)]
   exact fin
  split
  ·exact wpAny_bind ((bind_fn X _ hf).here (wpAny_pure (by exact fin2)))
  ·exact wpAny_tryCatch (wpAny_bind ((bind_fn X _ hf).here (wpAny_pure (by exact fin2))))
 unfold pyIter
 refine wpAny_bind (wpAny_bind (I.type.here ((looks_findIn X hs).here ?_)))
 show wpAny M A (callSpecialIfBoundUnlessNone? (.ref x) "__iter__" _ >>= _) Q E s
 refine wpAny_bind (wpAny_mono (one _) (λr s' hr=>?_) λ_ _ z=>z)
 obtain⟨v,rfl,T,r,hT,hl,hv⟩:=hr
 exact wpAny_bind (wpAny_specialOf hT hl (wpAny_pure hv))
structure Made (S:aY) (W:Wd) (F:Addr->Option Obj) (fm:Fm) (σ:St) (ks:c4) (n:Nat) (ge:Env) (Lg ga:Addr) (og:Obj) (g:Nat) (h':Heap):Prop where
 gE:B4 S ge Lg
 kd:qm ks ge
 isg :∀h'':Heap,h''.get? ga=some og->h''.IsGen ga g
 un:Un W F fm ga
 nc :∀x c,fm.env.kindOf x=some .cell->fm.env.cells.lookup x=some c->c≠ga
 inv:Inv S W (gD F ga og) fm σ h'
 gf:GF S (gD F ga og) fm n Lg W h'
theorem jr.env {fd:FuncData} {ks:c4} {st0:Stmt} {t1 t2 t3 y4:Expr} {b2:List Stmt} {p1 p2 p3 yp ep:Pos} (T:jr S fd ks st0 t1 t2 t3 y4 b2 p1 p2 p3 yp ep) (L a:Addr):B4 S (callEnvC fd L a) L:=
 have cf :∀y c,(callEnvC fd L a).cells.lookup y≠some c:=λy c e=>nn ((congrArg (List.lookup y) (qT fd.scope.names (L+1) [] T.qt)).symm.trans e)
 ⟨{kf:=T.kind,gl:=T.gl,bu:=T.bu,lo:=.head _,cl:=λy c e=>absurd e (cf y c),ce:=λy c _ e=>absurd e (cf y c),ci:=λy z c _ e=>absurd e (cf y c)},rfl,T.self,λy z=>T.qt (y,.cell) (mem_of_lookup z) rfl,T.co⟩
theorem GC {fd:FuncData} {ks:c4} {st0:Stmt} {t1 t2 t3 y4:Expr} {b2:List Stmt} {p1 p2 p3 yp ep:Pos} {n0:Nat} {aR:List (Nm×AV)} {v:Value} {Q:Value->Shared->Prop} (lim :∀h,S.K.In h->h.NoLimit)
  (T:jr S fd ks st0 t1 t2 t3 y4 b2 p1 p2 p3 yp ep) (hx:VR S W (.inst .tok n) v) (e:iO σ.H n=some aR) (I:Inv S W F fm σ s.heap) (ro:Ro n0 A)
  (k :∀(ge:Env) (Lg ga:Addr) (og:Obj) (h':Heap) (tk:Nat),Made S W F fm σ ks n ge Lg ga og s.gens.size h'->
   Q (.ref ga) {s with heap:=h',toks:=tk,gens:=s.gens.push (.fresh (.func (Dk st0 t1 t2 t3 y4 b2 p1 p2 p3 yp ep) ge))}):wpAny (MD S) A (pyIter v) Q no s:=
 hx.yW I.tob6 e λxa d od ps r1 g dd rs z J hx0=>by
 have K:=I.K
 obtain⟨oc,odd,osl,at_⟩:=T.at_
 refine D4 K J T.it T.ty (wpAny_call (codeAny_call_generator (Nat.lt_of_lt_of_le (Nat.lt_add_of_pos_right (by lia)) ro.dp) (K _ _ at_) rfl T.co T.ge T.bod (codeRec_of K T.code) ?_))
 refine ue T.fo K (λSt=>T.par _ St) _ _ _ _ ?_
 rw [T.nK]
 refine wpAny_newFunctionEnv_cells T.kind (λy my=>by rw [List.mem_singleton.mp my];exact .inl T.self) λenv he s₁ ic=>?_
 subst he
 refine⟨(lim s.heap K).keeps ic.toInCall.keep,?_⟩
 obtain⟨h₁,tk,rfl,hk⟩:=ic.done
 refine⟨"generator",_,⟨_,Heap.get?_push_size _ rfl,rfl⟩,slot_gen_next.lookup,?_⟩
 have lt1:s.heap.objs.size<h₁.objs.size:=ic.toInCall.ns.lt
 have uga:=I.above (Nat.le_of_lt lt1)
 exact k (callEnvC fd s.heap.objs.size (S.fa .j8)) s.heap.objs.size h₁.objs.size _ _ _ ⟨T.env _ _,λy k e=>D9 T.kin e,λh'' e=>⟨_,_,_,e,rfl,rfl,rfl⟩,uga,λy d k l=>uga.ne (I.nC k l),((I.keeps hk).push _).hold uga (Heap.get?_push_size _ rfl),I.un.gD (Nat.ne_of_lt lt1),_,_,ic.toInCall.ns.push _,uf (k:=λy=>List.lookup y fd.scope.names) T.self (List.nodup_cons.mpr ⟨List.not_mem_nil,.nil⟩) (.head _),hx0⟩
theorem set_push {α:Type} (a:Array α) (x y:α):(a.push x).setIfInBounds a.size y=a.push y:=by
 apply Array.ext_getElem?
 intro i
 rw [Array.getElem?_setIfInBounds,Array.getElem?_push,Array.getElem?_push]
 by_cases e:a.size=i
 ·rw [if_pos e,if_pos e.symm,if_pos (by rw [Array.size_push];exact e▸Nat.lt_succ_self _)]
 ·rw [if_neg e,if_neg (Ne.symm e),if_neg (Ne.symm e)]
theorem uP {s1 s2 s3:Shared} {gs gs' r:GenState} (hg:s2.gens=s1.gens.push gs) (kp:Kp (s2.setGen s1.gens.size r) s3):(s3.setGen s1.gens.size gs').gens=s1.gens.push gs':=by
 show s3.gens.setIfInBounds _ _=_
 rw [kp.gens]
 show(s2.gens.setIfInBounds _ _).setIfInBounds _ _=_
 rw [hg,set_push,set_push]
theorem KJ {P:Expr->Prop} {ks:c4} {tg:Expr} (h:nj ks [x] tg=true) (k :∀pos,lk ks x=some .loc->P (.Name (bY x) pos)):P tg:=
 zG (P:=λl tg=>l=[x]->P tg) h (λy pos hk e=>(List.cons.inj e).1▸k pos ((List.cons.inj e).1▸hk)) (λt es p pos it _ _ e=>by
  rw [e]at it
  exact absurd it Bool.false_ne_true) rfl
inductive GI (S:aY) (A:Around) (G:cy) (b:St->Option (Fl×St)) (x:Nm) (σ':St) (F0:Addr->Option Obj) (fm:Fm) (n:Nat) (Lg:Addr) (W1:Wd) (s1:Shared) (g:Array GenState) (k:Nat) (s2:Shared):Prop
 |mk (W2:Wd) (σ2:St) (gs:GenState):W1.Le W2->Inv S W2 F0 fm σ2 s2.heap->s2.os=s1.os->s2.gens=g.push gs->
  gs.Goes (MD S) A.in1 (λ_ s₀ r s₁=>r=.ok (.ret .none)/\RE S F0 fm n Lg W1 σ' s₀ s₁) (λ_=>YY S G b x σ' F0 fm n Lg W1) k (.send .none) (s2.setGen g.size .running)->GI S A G b x σ' F0 fm n Lg W1 s1 g k s2
noncomputable def Cx.low {n k:Nat} (c:Cx S (n+k)):Cx S n:=⟨c.fm,c.ks,c.F,c.A,c.ok,c.kd,c.ro.mono (Nat.add_le_add_right (Nat.le_add_right n k) 1)⟩
theorem Dr {n0 k:Nat} {ge:Env} {Lg ga:Addr} {og:Obj} {ksg:c4} {bd:c5} {tg:Expr} {body:List Stmt} {s0 s1 s2:Shared} {σ1:St} {h':Heap} {c:Cx S (n0+2)} (GO:bq S G n0) (os:B2 S c.fm) (h1:nj c.ks [x] tg=true) (h3:rr c.ks bd body=true)
  (hz:fN σ'.O) (M:Made S W1 c.F c.fm σ1 ksg n ge Lg ga og s1.gens.size h') (k1:Kp s0 s1) (L1:W.Le W1) (J:GI S c.A G (cG G bd) x σ' (gD c.F ga og) c.fm n Lg W1 s1 s1.gens k s2) :
  wpAny (MD S) c.A (pyNext (.ref ga)) (λr s₁=>match r with
    |none=>(Flow.next=.next/\∃W',W.Le W'/\Inv S W' c.F c.fm σ' s₁.heap/\s₁.os=s0.os/\∃gs,s₁.gens=s0.gens.push gs/\gs.bare=true)
    |some v=>wpAny (MD S) c.A (letOwnedTupleGo tg (.ref ga) v) (λ_ s₁'=>wpAny (MD S) c.A (assign tg c.fm.env v) (λ_ s₂=>wpAny (MD S) c.A (execs body c.fm.env) (λf s₃=>match f with
      |.next|.cont=>∃m,m<k/\GI S c.A G (cG G bd) x σ' (gD c.F ga og) c.fm n Lg W1 s1 s1.gens m s₃
      |.brk=>(Flow.next=.next/\∃W',W.Le W'/\Inv S W' c.F c.fm σ' s₃.heap/\s₃.os=s0.os/\∃gs,s₃.gens=s0.gens.push gs/\gs.bare=true)
      |.ret v=>(Flow.ret v=.next/\∃W',W.Le W'/\Inv S W' c.F c.fm σ' s₃.heap/\s₃.os=s0.os/\∃gs,s₃.gens=s0.gens.push gs/\gs.bare=true)) no s₂) no s₁') no s₁) no s2:=by
 cases J with|mk W2 σ2 gs L2 J2 hos hg go=>?_
 refine wpAny_pyNext_gen (n:=k) c.ro.hd (GO.lim _ J2.K) (Nat.lt_of_lt_of_le (Nat.lt_add_of_pos_right (by lia)) c.ro.dp) (M.isg _ (J2.f ga og (if_pos rfl))) (by rw [hg];exact Array.getElem?_push_size ..) go (λv s3 gs' hyy=>?_) λs3 hp h4 hk4=>?_
 ·cases hyy with|mk kf W3 q p L3 J3 gf3 rv kp eb en ef kap=>?_
  obtain⟨uL,mL,xv,⟨oL,es,epp,gL,rest⟩,exv,rxv⟩:=gf3
  refine KJ (P:=λtg=>wpAny (MD S) c.A (letOwnedTupleGo tg (.ref ga) v) (λ_ s₁'=>wpAny (MD S) c.A (assign tg c.fm.env v) _ no s₁') no (s3.setGen s1.gens.size gs')) h1 λpos hk=>wpAny_pure (jv (s:=s3.setGen s1.gens.size gs') c.ok (J3.hold uL gL) rv (c.kd x _ hk) λs5 J5 k5=>?_)
  refine Mine.seq ((oA GO (jV GO.sys) bd) (c.low.fz (gD (gD c.F ga og) Lg oL)) body h3 os W3 _ s5 J5 p eb (gj (eT bd) kf false p.2 _ ef hz)) λW6 f s6 L6 fr J6 k6=>?_
  have ff:f=.next:=(en▸fr:FR S W6 .nx f)
  subst ff
  have B:=J6.free uL.f λy d kk l=>uL.ne (J3.nC kk l)
  have gd:Good S (gD c.F ga og) c.fm n Lg W1 p.2 s6:=⟨W6,L3.trans L6,B.1,B.2.1,mL,xv,⟨oL,es,epp,B.2.2,rest⟩,exv,rxv.mono L6⟩
  cases k with
  |zero=>exact(kap s6 gd:False).elim
  |succ k=>exact⟨k,Nat.lt_succ_self k,.mk W6 _ gs' (L3.trans L6) B.1 ((k6.os.trans k5.os).trans (kp.os.trans hos)) ((k6.gens.trans k5.gens).trans (uP hg kp)) (kap (s6.setGen s1.gens.size .running) gd)⟩
 ·exact Exists.elim hp.1 λW3 z=>⟨rfl,W3,L1.trans z.1,((z.2.1.keeps hk4).free M.un.f M.nc).1,(hp.2.os.trans hos).trans k1.os,.finished,(uP hg hp.2).trans (congrArg (λg:Array GenState=>g.push .finished) k1.gens),rfl⟩
theorem IW {fd:FuncData} {ksg:c4} {st0:Stmt} {t1 t2 t3 y4:Expr} {b2:List Stmt} {p1 p2 p3 yp ep:Pos} {n0 fu:Nat} {it:Ex} {bd:c5} {tg ite:Expr} {body:List Stmt} {pos:Pos} {σ1 τ0:St} {aR:List (Nm×AV)} {c:Cx S (n0+2)}
  (GO:bq S G n0) (T:jr S fd ksg st0 t1 t2 t3 y4 b2 p1 p2 p3 yp ep) (os:B2 S c.fm) (h1:nj c.ks [x] tg=true) (h2:mE c.ks it ite=true) (h3:rr c.ks bd body=true) (h4:gN ite=true)
  (e1:ev G it σ=some (.inst .tok n,σ1)) (eK:iO σ1.H n=some aR) (e0:ex G G9 (mj n σ1)=some (.nx,τ0)) (eg:d6 G n x (cG G bd) fu true (bk σ1 τ0)=some σ')
  (I:c.I W σ s) (hz:fN σ'.O) :
  wpAny (MD S) c.A (exec (.For tg ite body [] pos) c.fm.env) (λfl s'=>fl=.next/\∃W',W.Le W'/\Inv S W' c.F c.fm σ' s'.heap/\s'.os=s.os/\∃gs,s'.gens=s.gens.push gs/\gs.bare=true) no s:=by
 have hz0:fN τ0.O:=gj (eT bd) fu true (bk σ1 τ0) _ eg hz
 have hz1:fN σ1.O:=wO G9 (mj n σ1) _ e0 hz0
 refine Dh h4 (Mine.seq ((fh GO (jV GO.sys) it).e c.low ite h2 W σ s I _ e1 hz1) λW1 u s1 L1 r1 I1 k1=>GC GO.lim T r1 eK I1 c.ro λge Lg ga og h' tk M=>?_)
 have Pl:Loop S G n0 c.A.in1 ge Lg ksg t1 t2 t3 y4 c.fm:=⟨GO,M.gE,M.kd,T.m1,T.m2,T.m3,T.m4,⟨c.ro.hd,by have:=c.ro.dp;show c.A.depth+_<=_;lia,by have:=c.ro.un;show c.A.units+1+_<=_;lia⟩,c.ok⟩
 have fw :∀b,(Code.func b ge).weight<=1:=λb=>Nat.le_of_eq (wV b ge)
 have fu3 :∀b,(Code.func b ge).cUnits<=3:=λb=>Nat.le_of_eq (Aj b ge)
 have roF:=(lW (c:=.func (Dk st0 t1 t2 t3 y4 b2 p1 p2 p3 yp ep) ge) (c1:=.func [] ge) (c2:=.func [] ge) (k1:=λ_=>.pure (.done .next)) (k2:=λ_=>.pure (.done .next)) (l1:=[]) (l2:=[]) (p1:=default) (p2:=default) Pl.ro ⟨fw _,fw _,fw _⟩ ⟨fu3 _,fu3 _,fu3 _⟩).2.2
 refine⟨GI S c.A G (cG G bd) x σ' (gD c.F ga og) c.fm n Lg W1 s1 s1.gens,fu,.mk W1 σ1 _ (.refl _) M.inv rfl rfl ⟨rfl,seg_func (seg_execs_cons (seg_wrap (wpAny_mono ((K4 GO (jV GO.sys) G9) (Pl.cx _ roF) st0 T.m0 M.gE.os W1 _ _ (L0 M.gE M.inv M.gf) _ e0 hz0) (λfl s4 p=>?_) λ_ _ z=>z.elim)))⟩,λk s2 J=>Dr GO os h1 h3 hz M k1 L1 J⟩
 cases p with|mk W2 L2 fr I3 k3=>?_
 have ff:fl=.next:=fr
 subst ff
 exact seg_execs_cons (seg_While λpa=>Ak Pl (eT bd) hz ⟨fw _,fu3 _⟩ rfl fu (Nat.le_refl fu) eg (σc:=σ1) (.refl _) M.inv rfl L2 (by rw [wY (Sb _ e0)];exact I3) k3 pa)
end
noncomputable def f7:c5->c5->c5
 |.nil,b=>b
 |.cons s r,b=>.cons s (f7 r b)
theorem zf {ks:c4} {b:c5} :∀{a:c5} {l:List Stmt} {P:List Stmt->Prop},rr ks (f7 a b) l=true->(∀l1 l2,rr ks a l1=true->rr ks b l2=true->P (l1++l2))->P l
 |.nil,l,_,h,k=>k [] l rfl h
 |.cons s r,_,P,h,k=>pD (r:=f7 r b) (P:=P) h λx xs h1 h2=>zf (P:=λxs=>P (x::xs)) h2 λl1 l2 h3 h4=>k (x::l1) l2 (Bool.and_eq_true_iff.mpr ⟨h1,h3⟩) h4
theorem q8 (env:Env) (l2:List Stmt) :∀l1:List Stmt,execs (l1++l2) env=(do match<-execs l1 env with|.next=>execs l2 env|f=>pure f)
 |[]=>by
  show execs l2 env=(pure Flow.next >>= _)
  rw [pure_bind]
 |st::r=>by
  rw [List.cons_append,execs_cons,execs_cons,bind_assoc,q8 env l2 r]
  congr 1
  funext f
  cases f<;>simp
theorem nO {M:Model} {A:Around} {E:Value->Shared->Prop} {env:Env} {Q:Flow->Shared->Prop} {l1 l2:List Stmt} {s:Shared}
  (h:wpAny M A (execs l1 env) (λf s'=>match f with|.next=>wpAny M A (execs l2 env) Q E s'|f=>Q f s') E s):wpAny M A (execs (l1++l2) env) Q E s:=λΓ p hΓ=>by
 rw [q8,Sem.wp_bind']
 refine Sem.wp_mono M Γ _ (λf p' s' h'=>?_) (λ_ _ _ h'=>h') _ _ (h Γ p hΓ)
 cases f<;>first|exact h' Γ p' hΓ|exact h'
noncomputable def one:List Stmt->Option Stmt:=jN
noncomputable def two (l:List Stmt):Option (Stmt×Stmt):=match l with|[]=>none|x::r=>bd (jN r) λy=>some (x,y)
theorem GK {l:List Stmt} {x:Stmt×Stmt} (h:two l=some x):l=[x.1,x.2]:=by
 cases l with
 |nil=>exact nn h
 |cons a r=>exact ar h λy h e=>aw (P:=λx:Stmt×Stmt=>a::r=[x.1,x.2]) h (congrArg (a::·) (jt e))
noncomputable def K8:Expr->Option (Expr×Pos)|.Yield v p=>bd v λv=>some (v,p)|_=>none
theorem Cr {e:Expr} {x:Expr×Pos} (h:K8 e=some x):e=.Yield (some x.1) x.2:=by
 cases e with
 |Yield v p=>exact ar h λw h e=>aw (P:=λx:Expr×Pos=>Expr.Yield v p=.Yield (some x.1) x.2) h (e▸rfl)
 |_=>exact nn h
noncomputable def x9 (s:Stmt):Option (Expr×List Stmt×Pos):=cond (u3 5 s&&(cg s).m.isEmpty) (some ((cg s).a,(cg s).l,(cg s).p)) none
theorem oB {s:Stmt} {x:Expr×List Stmt×Pos} (h:x9 s=some x):s=.While x.1 x.2.1 [] x.2.2:=bR h (λh c=>aw (P:=λx:Expr×List Stmt×Pos=>s=.While x.1 x.2.1 [] x.2.2) h
 (to3 (P:=λt=>s=t->s=.While (cg s).a (cg s).l [] (cg s).p) (F:=λo=>.While (cg s).a (cg s).l o (cg s).p) (jy (bf c).1) (List.isEmpty_iff.mp (bf c).2) id rfl)) λh _=>nn h
noncomputable def K7 (s:Stmt):Option (Expr×Pos):=cond (u3 1 s) (some ((cg s).a,(cg s).p)) none
theorem Cn {s:Stmt} {x:Expr×Pos} (h:K7 s=some x):s=.Expr x.1 x.2:=bR h (λh c=>aw (P:=λx:Expr×Pos=>s=.Expr x.1 x.2) h (jy c).symm) λh _=>nn h
noncomputable def NZ:NameKind->Bool|.cell=>true|_=>false
noncomputable def YC (K:Frag) (fa:Fn->Addr) (ca:Cl->Addr) (ks:c4):Bool:=bindB (fnOf K (fa .j8)) λfd=>bindB (P0 fd.body) λb=>bindB (two b) λx=>bindB (x9 x.2) λw1=>bindB (two w1.2.1) λy=>bindB (x9 y.1) λw2=>bindB (x9 y.2) λw3=>bindB (one w3.2.1) λz=>bindB (K7 z) λye=>bindB (K8 ye.1) λy4=>(DW fd.scope.kind&&!fd.scope.isCoroutine&&fd.scope.isGenerator&&Nat.beq fd.globals mainGlobals&&Nat.beq fd.builtins builtinsNs&&fd.closure.isEmpty)&&
 (codeIn K fd.code fd.qualname&&(fd.scope.names.all λy=>!NZ y.2)&&u9 ks fd.scope&&decide (fd.scope.names.lookup (bY .ae)=some .local)&&mS ks G9 x.1&&mE ks wW w1.1)&&
 (mE ks G8 w2.1&&mE ks BM w3.1&&mE ks Dn y4.1&&(findIn K (.ref (ca .tok)) "__iter__"==some (some (.ref (fa .j8))))&&(typeIn K (.ref (fa .j8))==some (.type "function"))&&true)
theorem wZ {S:aY} {ks:c4} (h:YC S.K S.fa S.ca ks=true) (hp :∀v St,oE S.K (S.fa .j8) St [v]=some [(bY .ae,v)]) :∃fd st0 t1 t2 t3 y4 b2 p1 p2 p3 yp ep,jr S fd ks st0 t1 t2 t3 y4 b2 p1 p2 p3 yp ep:=
 bg h λfd h e=>bg h λb h e'=>bg h λx0 h q0=>bg h λw1 h q1=>bg h λx2 h q2=>bg h λw2 h q3=>bg h λw3 h q4=>bg h λzz h q5=>bg h λye h q6=>bg h λy4 h q7=>
 have w:=fL h
 have y:=t9 w.1
 have z:=t9 w.2.1
 have v:=t9 w.2.2
 ⟨fd,x0.1,w1.1,w2.1,w3.1,y4.1,w2.2.1,w1.2.2,w2.2.2,w3.2.2,y4.2,ye.2,yQ e,(by rw [zB e',GK q0,oB q1,GK q2,oB q3,oB q4,jt q5,Cn q6,Cr q7]),uZ y.1,not_true y.2.1,y.2.2.1,Nat.eq_of_beq_eq_true y.2.2.2.1,Nat.eq_of_beq_eq_true y.2.2.2.2.1,List.isEmpty_iff.mp y.2.2.2.2.2,z.1,λu m q=>(by have:=not_true (List.all_eq_true.mp z.2.1 u m);rw [q]at this;cases this),z.2.2.1,of_decide_eq_true z.2.2.2.1,e,hp,z.2.2.2.2.1,z.2.2.2.2.2,v.1,v.2.1,v.2.2.1,beq_iff_eq.mp v.2.2.2.1,beq_iff_eq.mp v.2.2.2.2.1⟩
section
variable {S:aY} {G:cy} {W:Wd} {F:Addr->Option Obj} {s:Shared} {A:Around}
noncomputable def x5 (S:aY) (W:Wd) (F:Addr->Option Obj) (r:AV) (s:Shared) (res:Result) (s':Shared):Prop:=
 ∃v W',res=.ok (.ret v)/\W.Le W'/\VR S W' r v/\(∀a o,W'.P a=some o->s'.heap.get? a=some o)/\(∀a o,F a=some o->s'.heap.get? a=some o)/\s'.os=s.os/\∃gs,s'.gens=s.gens.push gs/\gs.bare=true
theorem Dq {f:Fn} {ps:List Nm} {ds:List AV} {ks ksg:c4} {irA irB irC:c5} {it:Ex} {x:Nm} {fd fdg:FuncData} {body:List Stmt} {as:List AV} {V:List (Nm×AV)} {H:List AO} {n0 n fu:Nat} {st0:Stmt} {t1 t2 t3 y4:Expr} {b2:List Stmt} {p1 p2 p3 yp ep:Pos}
  {σ1 σ2 τ0 σ3 σ4:St} {aR:List (Nm×AV)} {r:AV}
  (GO:bq S G n0) (T:jr S fdg ksg st0 t1 t2 t3 y4 b2 p1 p2 p3 yp ep) (D:B3 S f ps ds ks (f7 irA (.cons (.fr [x] false it irB) irC)) fd body) (hb:kG ps ds as=some V)
  (eA:cG G irA {H:=H,V:=V,O:=[]}=some (.nx,σ1)) (e1:ev G it σ1=some (.inst .tok n,σ2)) (eK:iO σ2.H n=some aR) (e0:ex G G9 (mj n σ2)=some (.nx,τ0))
  (eg:d6 G n x (cG G irB) fu true (bk σ2 τ0)=some σ3) (eC:cG G irC σ3=some (.rt r,σ4))
  {vs:List Value} (ro:Ro (n0+4) A) (I:b6 S W F H s.heap) (rs:cq S W as vs) (hz:fN σ4.O) :
  codeAny (MD S) A (.call (.ref (S.fa f)) ⟨vs,[]⟩) (x5 S W F r s) s:=by
 have hz3:fN σ3.O:=eT irC σ3 _ eC hz
 have hz2:fN τ0.O:=gj (eT irB) fu true (bk σ2 τ0) _ eg hz3
 have hz1:fN σ1.O:=(br it).v σ1 _ e1 (wO G9 (mj n σ2) _ e0 hz2)
 refine uO (n:=n0+2) GO.lim D hb ro I rs λfm h₁ tk os kd ro1 I1=>zf (P:=λbody=>wpAny (MD S) (A.deeper fm.env) (execs body fm.env) _ no _) D.m λl1 l2 m1 m2=>nO ?_
 refine wpAny_mono ((oA GO (jV GO.sys) irA) (Cx.low ⟨fm,ks,F,A.deeper fm.env,os.togC,kd,ro1⟩) l1 m1 os W _ {s with heap:=h₁,toks:=tk} I1 _ eA hz1) (λg s2 p=>?_) λ_ _ z=>z.elim
 cases p with|mk W2 L2 fr I2 k2=>?_
 have ff:g=.next:=fr
 subst ff
 refine pD (P:=λl2=>wpAny (MD S) (A.deeper fm.env) (execs l2 fm.env) _ no s2) m2 λst l3 m3 m4=>wpAny_execs_cons (LB (P:=λst=>wpAny (MD S) (A.deeper fm.env) (exec st fm.env) _ no s2) m3 λtg ite bd pos q1 _ q3 q4 q5=>?_)
 refine wpAny_mono (IW (c:=⟨fm,ks,F,A.deeper fm.env,os.togC,kd,ro1⟩) (fu:=fu) GO T os q1 q3 q4 q5 e1 eK e0 eg I2 hz3) (λg s3 p=>?_) λ_ _ z=>z.elim
 obtain⟨rfl,W3,L3,I3,os3,gs,eg3,bare⟩:=p
 refine wpAny_mono ((oA GO (jV GO.sys) irC) (Cx.low ⟨fm,ks,F,A.deeper fm.env,os.togC,kd,ro1⟩) l3 m4 os W3 _ s3 I3 _ eC hz) (λg s4 p=>?_) λ_ _ z=>z.elim
 cases p with|mk W4 L4 fr I4 k4=>?_
 exact Exists.elim fr λu z=>⟨u,W4,by rw [z.1],L2.trans (L3.trans L4),z.2,I4.p,I4.f,(k4.os.trans os3).trans k2.os,gs,k4.gens.trans (eg3.trans (congrArg (λg:Array GenState=>g.push gs) k2.gens)),bare⟩
end
theorem bp {α:Type} {x:Nm} {v:α} :∀{V:List (Nm×α)},lk (pt V x v) x=some v
 |[]=>if_pos rfl
 |p::r=>by
  rw [fD]
  by_cases e:p.1=x
  ·rw [if_pos e];exact if_pos e
  ·rw [if_neg e];exact(if_neg e).trans bp
theorem bt {α:Type} {x y:Nm} {v:α} (n:x≠y) :∀{V:List (Nm×α)},lk (pt V x v) y=lk V y
 |[]=>if_neg n
 |p::r=>by
  rw [fD,dT]
  by_cases e:p.1=x
  ·rw [if_pos e,if_neg (e▸n)];exact if_neg (e▸n)
  ·rw [if_neg e,dT,bt n]
theorem oF {α:Type} {b:Bool} {x y r:α} (e:b=true) (h:x=r):cond b x y=r:=e▸h
theorem z5 {α:Type} {b:Bool} {x y r:α} (e:b=false) (h:y=r):cond b x y=r:=e▸h
theorem jo.bD {m:Nat} {f:Fn} {s:AV} (h:jo m s):jo m (.bD f s):=h
section
variable {G:cy} {σ σ1 σ2 σ3:St} {v w r:AV} {vs ws:List AV} {b b':Bool} {e f i o lo hi:Ex} {es as:fe} {a m x:Nm} {z:Option (Fl×St)} {s:Sx} {q k:c5} {c:Cl} {n:Nat} {aR:List (Nm×AV)} {fl:Fl} {H' H0 H1 H2 H3:List AO} {O' O0 O1 O2 O3:List Nat} {V0 V1 V2 V3:List (Nm×AV)}
theorem aK (h:ex G s σ=some (.nx,σ1)) (k:cG G q σ1=z):cG G (.cons s q) σ=z:=aA h k
theorem sr :∀{k:c5} {σ:St},cG G (f7 k q) σ=bd (cG G k σ) λp=>Fb p (cG G q)
 |.nil,_=>rfl
 |.cons s r,σ=>by
  show bd (ex G s σ) (λp=>Fb p (cG G (f7 r q)))=bd (bd (ex G s σ) λp=>Fb p (cG G r)) λp=>Fb p (cG G q)
  cases ex G s σ with
  |none=>rfl
  |some p=>
   obtain⟨f,τ⟩:=p
   cases f with
   |nx=>exact sr
   |_=>rfl
theorem dW {t:Ex} {k':c5} (h:cZ G t σ=some (b,σ1)) (j:cond b (cG G (f7 k q) σ1) (cG G (f7 k' q) σ1)=z):cG G (.cons (.ite t k k') q) σ=z:=by
 show bd (bd (cZ G t σ) λp=>cond p.1 (cG G k p.2) (cG G k' p.2)) (λp=>Fb p (cG G q))=z
 rw [h]
 cases b with
 |true=>exact sr.symm.trans j
 |false=>exact sr.symm.trans j
theorem xA {t:Ex} {k' r:c5} (h:cZ G t σ=some (b,σ1)) (j:cond b (cG G (f7 k (f7 q r)) σ1) (cG G (f7 k' (f7 q r)) σ1)=z):cG G (f7 (.cons (.ite t k k') q) r) σ=z:=dW h j
theorem te (h:ex G s σ=some (.nx,σ1)) (j:cG G (f7 k q) σ1=z):cG G (f7 (.cons s k) q) σ=z:=aA h j
theorem xF:cG G (.cons .brk q) σ=some (.bk,σ):=rfl
theorem FQ:cG G (f7 (.cons .brk k) q) σ=some (.bk,σ):=rfl
theorem pS {t:Ex} (h:fc G.fuel (cZ G t) (cG G k) σ=some (.nx,σ1)) (j:cG G q σ1=z):cG G (.cons (.nN t k) q) σ=z:=aA h j
theorem xB (j:cG G q σ=z):cG G (f7 .nil q) σ=z:=j
theorem xC (h:ev G e σ=some (v,σ1)):cG G (f7 (.cons (.ret e) k) q) σ=some (.rt v,σ1):=aA (aA h rfl) rfl
theorem ik (h:ev G e σ=some (v,σ1)):cG G (.cons (.ret e) q) σ=some (.rt v,σ1):=aA (aA h rfl) rfl
theorem pO (h:ev G e σ=some (v,σ1)) (j:DY v=true):ex G (.exp e) σ=some (.nx,σ1):=aA h (oF j rfl)
theorem b9 (h:ev G e σ=some (v,⟨H1,V1,O1⟩)):ex G (.asg (.v x) e) σ=some (.nx,⟨H1,pt V1 x v,O1⟩):=aA h rfl
theorem pM (h:ev G e σ=some (v,σ1)) (j:ev G o σ1=some (.inst c n,⟨H2,V2,O2⟩)) (l:gQ H2 n=some aR) (me:G.bD c a=none) (ca:G.cP c a=none):ex G (.asg (.at o a) e) σ=some (.nx,⟨H2.set n (.dict (pt aR a v)),V2,(aR.length+1)::O2⟩):=
 aA h (aA (aA j (aA rfl (aA l (oF (by rw [me,ca];rfl) rfl)))) rfl)
theorem PD {p0 p1 p2 p3 p4 p5 p6 p7 p8 p9:Nm×AV} {a0 a1 a2 a3 a4:AO} {J:List AO} (h:ev G e σ=some (v,σ1)) (j:ev G o σ1=some (.inst c n,⟨H2,V2,O2⟩)) (l:gQ H2 n=some aR) (me:G.bD c a=none) (ca:G.cP c a=none) (g:pt aR a v=[p0,p1,p2,p3,p4,p5,p6,p7,p8,p9]) (g2:H2.set n (.dict [p0,p1,p2,p3,p4,p5,p6,p7,p8,p9])=a0::a1::a2::a3::a4::J) :
  ex G (.asg (.at o a) e) σ=some (.nx,⟨a0::a1::a2::a3::a4::J,V2,(aR.length+1)::O2⟩):=g2▸g▸pM h j l me ca
theorem mZ {ts:List Tg} (h:ev G e σ=some (.tup vs,σ1)) (j:jH G ts vs σ1=some σ2):ex G (.iN ts e) σ=some (.nx,σ2):=aA h (aA rfl (aA j rfl))
theorem qQ:jH G [] [] σ=some σ:=rfl
theorem Ce {ts:List Tg} {z:Option St} (h:jH G ts vs ⟨H0,pt V0 x v,O0⟩=z):jH G (.v x::ts) (v::vs) ⟨H0,V0,O0⟩=z:=aA rfl h
theorem MJ {ts:List Tg} {z:Option St} (j:ev G o σ=some (.inst c n,⟨H2,V2,O2⟩)) (l:gQ H2 n=some aR) (me:G.bD c a=none) (ca:G.cP c a=none) (h:jH G ts vs ⟨H2.set n (.dict (pt aR a v)),V2,(aR.length+1)::O2⟩=z):jH G (.at o a::ts) (v::vs) σ=z:=
 aA (aA j (aA rfl (aA l (oF (by rw [me,ca];rfl) rfl)))) h
theorem QZ {p0 p1 p2 p3 p4 p5 p6 p7 p8 p9:Nm×AV} {a0 a1 a2 a3 a4:AO} {J:List AO} {ts:List Tg} {z:Option St} (j:ev G o σ=some (.inst c n,⟨H2,V2,O2⟩)) (l:gQ H2 n=some aR) (me:G.bD c a=none) (ca:G.cP c a=none) (g:pt aR a v=[p0,p1,p2,p3,p4,p5,p6,p7,p8,p9]) (g2:H2.set n (.dict [p0,p1,p2,p3,p4,p5,p6,p7,p8,p9])=a0::a1::a2::a3::a4::J)
  (h:jH G ts vs ⟨a0::a1::a2::a3::a4::J,V2,(aR.length+1)::O2⟩=z):jH G (.at o a::ts) (v::vs) σ=z:=MJ j l me ca (by rw [g,g2];exact h)
theorem pN {op:nP} {y:AV} {os:List Nat} (h:lk V0 x=some w) (j:ev G e ⟨H0,V0,O0⟩=some (v,⟨H1,V1,O1⟩)) (l:mz op w v=some (y,os)):ex G (.aug (.v x) op e) ⟨H0,V0,O0⟩=some (.nx,⟨H1,pt V1 x y,os++O1⟩):=aA (aA h (aA j (aA l rfl))) rfl
theorem FU {op:nP} {y:AV} {os:List Nat} (j:ev G o σ=some (.inst c n,⟨H1,V1,O1⟩)) (g:rP G H1 (.inst c n) a=some w) (h:ev G e ⟨H1,V1,O1⟩=some (v,⟨H2,V2,O2⟩)) (g2:mz op w v=some (y,os)) (l:gQ H2 n=some aR) (me:G.bD c a=none) (ca:G.cP c a=none) :
  ex G (.aug (.at o a) op e) σ=some (.nx,⟨H2.set n (.dict (pt aR a y)),V2,(aR.length+1)::(os++O2)⟩):=aA (aA j (aA g (aA h (aA g2 (aA rfl (aA l (oF (by rw [me,ca];rfl) rfl))))))) rfl
theorem kO {t:Ex} {k':c5} (h:cZ G t σ=some (b,σ1)) (j:cond b (cG G k σ1) (cG G k' σ1)=z):ex G (.ite t k k') σ=z:=aA h j
theorem tV {N:Nat} {t:St->Option (Bool×St)} {g:St->Option (Fl×St)} (h:t σ=some (false,σ1)):fc (N+1) t g σ=some (.nx,σ1):=aA h rfl
theorem wj {N:Nat} {t:St->Option (Bool×St)} {g:St->Option (Fl×St)} (h:t σ=some (true,σ1)) (j:g σ1=some (.nx,σ2)) (l:fc N t g σ2=z):fc (N+1) t g σ=z:=aA h (aA j l)
theorem Mf {N:Nat} {t:St->Option (Bool×St)} {g:St->Option (Fl×St)} (h:t σ=some (true,σ1)) (j:g σ1=some (.bk,σ2)):fc (N+1) t g σ=some (.nx,σ2):=aA h (aA j rfl)
theorem GD {p p':Bool×St} {t:Ex} (h:cZ G t σ=some p') (j:p'=p):cZ G t σ=some p:=j▸h
theorem FT (h:cZ G e σ=some (b,σ1)) (j:b=true):ex G (.zZ e) σ=some (.nx,σ1):=aA h (oF j rfl)
theorem FV {op:nP} {y:AV} {os:List Nat} {p0 p1 p2 p3 p4 p5 p6 p7 p8 p9:Nm×AV} {a0 a1 a2 a3 a4:AO} {J:List AO} (j:ev G o σ=some (.inst c n,⟨H1,V1,O1⟩)) (g:rP G H1 (.inst c n) a=some w) (h:ev G e ⟨H1,V1,O1⟩=some (v,⟨H2,V2,O2⟩)) (g2:mz op w v=some (y,os)) (l:gQ H2 n=some aR) (me:G.bD c a=none) (ca:G.cP c a=none) (d:pt aR a y=[p0,p1,p2,p3,p4,p5,p6,p7,p8,p9]) (d2:H2.set n (.dict [p0,p1,p2,p3,p4,p5,p6,p7,p8,p9])=a0::a1::a2::a3::a4::J) :
  ex G (.aug (.at o a) op e) σ=some (.nx,⟨a0::a1::a2::a3::a4::J,V2,(aR.length+1)::(os++O2)⟩):=d2▸d▸FU j g h g2 l me ca
theorem vm {ts:List Nm} {t:Bool} (h:ev G e σ=some (v,σ1)) (j:nA v=some vs) (l:jY (hK ts t) (cG G q) vs σ1=z):ex G (.fr ts t e q) σ=z:=aA h (aA j l)
theorem nW {asg:AV->St->Option St} {g:St->Option (Fl×St)} (h:asg v σ=some σ1) (j:g σ1=some (.nx,σ2)) (l:jY asg g vs σ2=z):jY asg g (v::vs) σ=z:=aA h (aA j l)
theorem bZ (h:lk V0 x=some v):ev G (.v x) ⟨H0,V0,O0⟩=some (v,⟨H0,V0,O0⟩):=aA h rfl
theorem ll (h:G.glob x=some v):ev G (.g x) σ=some (v,σ):=aA h rfl
theorem rY (h:ev G e σ=some (v,⟨H1,V1,O1⟩)) (j:rP G H1 v a=some r):ev G (.at e a) σ=some (r,⟨H1,V1,O1⟩):=aA h (aA j rfl)
theorem jO (h:ev G e σ=some (v,σ1)) (j:ev G i σ1=some (w,⟨H2,V2,O2⟩)) (l:nM H2 v w=some r):ev G (.ix e i) σ=some (r,⟨H2,V2,O2⟩):=aA h (aA j (aA l rfl))
theorem mG (h:ev G e σ=some (v,σ1)) (j:ev G lo σ1=some (w,σ2)) {w':AV} (l:ev G hi σ2=some (w',⟨H3,V3,O3⟩)) (g:vx H3 v w w'=some r):ev G (.sl e lo hi) σ=some (r,⟨H3,V3,O3⟩):=aA h (aA j (aA l (aA g rfl)))
theorem eF {op:nP} {y:AV} {os:List Nat} (h:ev G e σ=some (v,σ1)) (j:ev G i σ1=some (w,⟨H2,V2,O2⟩)) (l:M3 op v w=some (y,os)):ev G (.bin op e i) σ=some (y,⟨H2,V2,os++O2⟩):=aA h (aA j (aA l rfl))
theorem qY {r:kz} (h:ev G e σ=some (v,σ1)) (j:uj G v r σ1=some (b,σ2)):ev G (.cmp e r) σ=some (.bool b,σ2):=aA h (aA j rfl)
theorem fM {op:nR} (h:ev G e σ=some (w,⟨H1,V1,O1⟩)) (j:jU H1 op v w=some b):uj G v (.cons op e .nil) σ=some (b,⟨H1,V1,O1⟩):=aA h (aA j rfl)
theorem Nj {op op':nR} {e':Ex} {cs:kz} {z:Option (Bool×St)} (h:ev G e σ=some (w,⟨H1,V1,O1⟩)) (j:jU H1 op v w=some b) (l:cond b (uj G w (.cons op' e' cs) ⟨H1,V1,O1⟩) (some (false,⟨H1,V1,O1⟩))=z):uj G v (.cons op e (.cons op' e' cs)) σ=z:=aA h (aA j l)
theorem yK (h:ev G e σ=some (v,⟨H1,V1,O1⟩)) (j:bW H1 v=some b):ev G (.not e) σ=some (.bool (!b),⟨H1,V1,O1⟩):=aA h (aA j rfl)
theorem yJ {j:Int} (h:ev G e σ=some (.int j,σ1)):ev G (.neg e) σ=some (.int (-j),σ1):=aA h rfl
theorem kH {t:Ex} {z:Option (AV×St)} (h:cZ G t σ=some (b,σ1)) (j:cond b (ev G e σ1) (ev G i σ1)=z):ev G (.ite t e i) σ=z:=aA h j
theorem i8 (h:qZ G es σ=some (vs,⟨H1,V1,O1⟩)):ev G (.tup es) σ=some (.tup vs,⟨H1,V1,vs.length::O1⟩):=aA h rfl
theorem uG (h:qZ G es σ=some (vs,⟨H1,V1,O1⟩)):ev G (.lst es true) σ=some (.lst vs,⟨H1,V1,vs.length::O1⟩):=aA h rfl
theorem yI (h:qZ G es σ=some (vs,⟨H1,V1,O1⟩)):ev G (.lst es false) σ=some (.a5 H1.length,⟨H1++[.list vs],V1,vs.length::O1⟩):=aA h rfl
theorem dC {z:Option (AV×St)} (h:ev G f σ=some (v,σ1)) (j:qZ G as σ1=some (vs,σ2)) (l:fG G v vs σ2=z):ev G (.call f as) σ=z:=aA h (aA j l)
theorem d0 {g:Sum AV (AV×Nm)} {z:Option (AV×St)} (h:ev G o σ=some (v,⟨H1,V1,O1⟩)) (d:gS G H1 v m=some g) (j:qZ G as ⟨H1,V1,O1⟩=some (vs,σ2)) (l:iX G g vs σ2=z):ev G (.aq o m as) σ=z:=aA h (aA d (aA j l))
theorem aU (h:ev G e σ=some (v,σ1)) (j:qZ G as σ1=some (vs,σ2)):qZ G (.cons e as) σ=some (v::vs,σ2):=aA h (aA j rfl)
theorem su {g:Fn} (h:G.call g vs H0=some (r,H',O')):fG G (.fn g) vs ⟨H0,V0,O0⟩=some (r,⟨H',V0,O'++O0⟩):=aA h rfl
theorem uM {g:Fn} (h:G.call g (w::vs) H0=some (r,H',O')):fG G (.bD g w) vs ⟨H0,V0,O0⟩=some (r,⟨H',V0,O'++O0⟩):=aA h rfl
theorem kD {g:Bi} {y:AV} {os:List Nat} (h:BL H0 g vs=some (y,os)):fG G (.bi g) vs ⟨H0,V0,O0⟩=some (y,⟨H0,V0,os++O0⟩):=aA h rfl
theorem YP (h:G.call (G.init c) (.inst c H0.length::vs) (H0++[.dict []])=some (.none,H',O')):fG G (.cls c) vs ⟨H0,V0,O0⟩=some (.inst c H0.length,⟨H',V0,O'++O0⟩):=aA h rfl
theorem nv {z:Option (AV×St)} (h:fG G v vs σ=z):iX G (.inl v) vs σ=z:=h
theorem ny {l:List Nat} {y:AV} {os:List Nat} (h:jJ H0 m l vs=some (y,os)):iX G (.inr (.str l,m)) vs ⟨H0,V0,O0⟩=some (y,⟨H0,V0,os++O0⟩):=aA h rfl
theorem oQ {l:List AV} {y:AV} {us:List AV} {os:List Nat} (h:fb H0 n=some l) (j:JG m l vs=some (y,us,os)):iX G (.inr (.a5 n,m)) vs ⟨H0,V0,O0⟩=some (y,⟨H0.set n (.list us),V0,os++O0⟩):=aA h (aA j rfl)
theorem EP {H:List AO} (l:iO H n=some aR) (me:G.bD c a=none) (ca:G.cP c a=none) (h:lk aR a=some v):rP G H (.inst c n) a=some v:=aA rfl (aA l ((Ct me ca).trans h))
theorem EN {H:List AO} (l:iO H n=some aR) (h:GZ G aR c n a=some v):rP G H (.inst c n) a=some v:=aA rfl (aA l h)
theorem pE {H:List AO} {g:Sum AV (AV×Nm)} (l:iO H n=some aR) (h:nE G aR c n m=some g):gS G H (.inst c n) m=some g:=aA l h
theorem ES {H:List AO} {g:Fn} (l:iO H n=some aR) (me:G.bD c m=some g) (ca:G.cP c m=none) (h:lk aR m=none):gS G H (.inst c n) m=some (.inl (.bD g (.inst c n))):=aA l (xr me ca h)
theorem nD {H:List AO} {l:List Nat} {so:SO} (h:jK m=some so):gS G H (.str l) m=some (.inr (.str l,m)):=aA h rfl
theorem pF {H:List AO} {l:List AV} {so:LO} (h:lR m=some so) (j:fb H n=some l):gS G H (.a5 n) m=some (.inr (.a5 n,m)):=aA h (aA j rfl)
theorem ni (h:cZ G e σ=some (b,σ1)):cZ G (.not e) σ=some (!b,σ1):=aA h rfl
theorem cN {r:kz} {z:Option (Bool×St)} (h:ev G e σ=some (v,σ1)) (j:uj G v r σ1=z):cZ G (.cmp e r) σ=z:=aA h j
theorem l9 (h:lk V0 x=some v) (j:bW H0 v=some b):cZ G (.v x) ⟨H0,V0,O0⟩=some (b,⟨H0,V0,O0⟩):=aA h (aA j rfl)
theorem Gv (h:ev G e σ=some (v,⟨H1,V1,O1⟩)) (j:rP G H1 v a=some r) (l:bW H1 r=some b):cZ G (.at e a) σ=some (b,⟨H1,V1,O1⟩):=aA h (aA j (aA l rfl))
theorem oo (h:ev G f σ=some (v,σ1)) (j:qZ G as σ1=some (vs,σ2)) (g:fG G v vs σ2=some (r,⟨H3,V3,O3⟩)) (l:bW H3 r=some b):cZ G (.call f as) σ=some (b,⟨H3,V3,O3⟩):=aA h (aA j (aA g (aA l rfl)))
theorem j9 {g:Sum AV (AV×Nm)} (h:ev G o σ=some (v,⟨H1,V1,O1⟩)) (d:gS G H1 v m=some g) (j:qZ G as ⟨H1,V1,O1⟩=some (vs,σ2)) (u:iX G g vs σ2=some (r,⟨H3,V3,O3⟩)) (l:bW H3 r=some b):cZ G (.aq o m as) σ=some (b,⟨H3,V3,O3⟩):=aA h (aA d (aA j (aA u (aA l rfl))))
theorem iU {z:Option (Bool×St)} (h:wA G es σ=z):cZ G (.and es) σ=z:=h
theorem rE {z:Option (Bool×St)} (h:Pu G es σ=z):cZ G (.or es) σ=z:=h
theorem eE {z:Option (Bool×St)} (h:cZ G e σ=some (b,σ1)) (j:cond b (wA G es σ1) (some (false,σ1))=z):wA G (.cons e es) σ=z:=aA h j
theorem or_cons {z:Option (Bool×St)} (h:cZ G e σ=some (b,σ1)) (j:cond b (some (true,σ1)) (Pu G es σ1)=z):Pu G (.cons e es) σ=z:=aA h j
theorem run_eq {p p':Fl×St} (h:cG G q σ=some p') (j:p'=p):cG G q σ=some p:=j▸h
theorem C9 {p p':AV×St} (h:ev G e σ=some p') (j:p'=p):ev G e σ=some p:=j▸h
theorem k9 {d:fF} {H:List AO} {V V':List (Nm×AV)} (h:kG d.ps d.ds vs=some V) (j:cG G d.ir ⟨H,V,[]⟩=some (fl,⟨H',V',O'⟩)) (l:lF fl=some r):kE G d vs H=some (r,H',O'):=aA h (aA j (aA l rfl))
end
noncomputable def fa:Fn->Addr
 |.ju=>42
 |.g8=>84
 |.oq=>63
 |.iM=>70
 |.zt=>98
 |.tf=>105
 |.zu=>112
 |.jl=>119
 |.lZ=>126
 |.ip=>133
 |.iL=>141
 |.jk=>148
 |.pU=>156
 |.pT=>163
 |.wa=>261
 |.j8=>268
 |.zD=>297
 |.bw=>304
 |.tRc=>318
 |.Xa=>332
 |.Gq=>346
 |.LW=>374
 |.LV=>381
 |.LU=>388
 |.Gu=>395
 |.Gs=>402
 |.Gr=>409
 |.jC=>535
 |.tAN=>542
 |.tAAN=>549
 |.BB=>556
 |.tADQ=>563
 |.tASQ=>570
 |.BA=>577
 |.tAAV=>584
 |.BN=>591
 |.tEnt=>311
 |.tCRR=>325
 |.wb=>353
 |.tS=>339
 |.tSLt=>416
 |.tSEO=>423
 |.tSEN=>430
 |.tSES=>437
 |.tSESD=>444
 |.tSE=>451
 |.tSED=>458
 |.tSEDD=>465
 |.tSELt=>472
 |.tSEEO=>479
 |.tSEEN=>486
 |.tSDES=>493
 |.tSDE=>500
 |.tSDED=>507
 |.bG=>514
 |.bB=>521
 |.tSDEE=>528
 |.mU=>798
 |.pq=>805
 |.iT=>812
 |.lSeek=>819
 |.lClose=>826
 |.law=>831
 |.zp=>290
 |_=>42
noncomputable def ca:Cl->Addr
 |.txt=>73
 |.ay=>166
 |.tok=>762
noncomputable def SS (w:World):aY:={prog:=wo,w:=w,K:=KK w.params,fa:=fa,ca:=ca}
noncomputable def qK:List Nm:=[.aj]
noncomputable def qI:c4:=[(.aj,.loc)]
noncomputable def qG:c5:=(.cons (.ret (.aq (.c (.str [])) .gJ (.cons (.comp [(.pd,.loc),(.nB,.cS),(.hW,.cS)] (.ite (.cmp (.c (.str [65])) (.cons .le (.v .pd) (.cons .le (.c (.str [90])) .nil))) (.call (.g .nB) (.cons (.bin .add (.call (.g .hW) (.cons (.v .pd) .nil)) (.c (.int 32))) .nil)) (.v .pd)) [.pd] (.v .aj) .nil) .nil))) .nil)
noncomputable def xx:List Nm:=[.ae,.aj]
noncomputable def xj:c4:=[(.ae,.loc),(.aj,.loc)]
noncomputable def xc:c5:=(.cons (.asg (.at (.v .ae) .aj) (.v .aj)) (.cons (.asg (.at (.v .ae) .ah) (.c (.int 0))) .nil))
noncomputable def xy:List Nm:=[.ae,.b8]
noncomputable def xk:c4:=[(.ae,.loc),(.b8,.loc),(.sI,.loc),(.ba,.cS)]
noncomputable def kZ:c5:=(.cons (.asg (.v .sI) (.sl (.at (.v .ae) .aj) (.at (.v .ae) .ah) (.bin .add (.at (.v .ae) .ah) (.v .b8)))) (.cons (.aug (.at (.v .ae) .ah) .add (.call (.g .ba) (.cons (.v .sI) .nil))) (.cons (.ret (.v .sI)) .nil)))
noncomputable def td:List Nm:=[.dF]
noncomputable def sJ:c4:=[(.dF,.loc)]
noncomputable def sD:c5:=(.cons (.ret (.or (.cons (.cmp (.c (.int 1)) (.cons .le (.v .dF) (.cons .le (.c (.int 8)) .nil))) (.cons (.cmp (.v .dF) (.cons .eq (.c (.int 11)) .nil)) (.cons (.cmp (.c (.int 14)) (.cons .le (.v .dF) (.cons .le (.c (.int 31)) .nil))) (.cons (.cmp (.c (.int 127)) (.cons .le (.v .dF) (.cons .le (.c (.int 159)) .nil))) (.cons (.cmp (.c (.int 64976)) (.cons .le (.v .dF) (.cons .le (.c (.int 65007)) .nil))) (.cons (.cmp (.bin .mod (.v .dF) (.c (.int 65536))) (.cons .isin (.tup (.cons (.c (.int 65534)) (.cons (.c (.int 65535)) .nil))) .nil)) (.cons (.cmp (.c (.int 55296)) (.cons .le (.v .dF) (.cons .le (.c (.int 57343)) .nil))) .nil))))))))) .nil)
noncomputable def Fo:List Nm:=[.ae,.gy]
noncomputable def Eg:c4:=[(.ae,.loc),(.gy,.loc)]
noncomputable def uX:c5:=(.cons (.asg (.at (.v .ae) .a9) (.at (.v .ae) .gb)) (.cons (.asg (.at (.v .ae) .eQ) (.lst (.cons (.c (.int 0)) .nil) true)) (.cons (.asg (.at (.v .ae) .c9) (.aq (.v .ae) .lQ (.cons (.v .gy) .nil))) (.cons (.exp (.aq (.v .ae) .y5 .nil)) .nil))))
noncomputable def Bm:List Nm:=[.ae]
noncomputable def AY:c4:=[(.ae,.loc)]
noncomputable def AK:c5:=(.cons (.asg (.at (.v .ae) .bC) (.c (.str []))) (.cons (.asg (.at (.v .ae) .aH) (.c (.int 0))) (.cons (.asg (.at (.v .ae) .az) (.c (.int 0))) (.cons (.asg (.at (.v .ae) .d9) (.lst .nil true)) (.cons (.asg (.at (.v .ae) .bM) (.c (.int 0))) (.cons (.asg (.at (.v .ae) .bS) (.c (.int 0))) (.cons (.asg (.at (.v .ae) .a7) (.c .none)) .nil)))))))
noncomputable def Fp:List Nm:=[.ae,.gy]
noncomputable def Eh:c4:=[(.ae,.loc),(.gy,.loc),(.aE,.loc),(.xg,.cS)]
noncomputable def DJ:c5:=(.cons (.asg (.v .aE) (.call (.g .xg) (.cons (.v .gy) .nil))) (.cons (.ret (.v .aE)) .nil))
noncomputable def Fq:List Nm:=[.ae,.gv]
noncomputable def Ei:c4:=[(.ae,.loc),(.gv,.loc),(.bC,.loc),(.pj,.loc),(.hY,.loc),(.gq,.loc),(.eX,.loc)]
noncomputable def jZ:c5:=(.cons (.asg (.v .bC) (.at (.v .ae) .bC)) (.cons (.asg (.v .pj) (.aq (.v .bC) .n6 (.cons (.c (.str [10])) (.cons (.c (.int 0)) (.cons (.v .gv) .nil))))) (.cons (.asg (.v .hY) (.bin .add (.at (.v .ae) .bM) (.v .pj))) (.cons (.asg (.v .gq) (.aq (.v .bC) .n7 (.cons (.c (.str [10])) (.cons (.c (.int 0)) (.cons (.v .gv) .nil))))) (.cons (.ite (.cmp (.v .gq) (.cons .eq (.neg (.c (.int 1))) .nil)) (.cons (.asg (.v .eX) (.bin .add (.at (.v .ae) .bS) (.v .gv))) .nil) (.cons (.asg (.v .eX) (.bin .sub (.v .gv) (.bin .add (.v .gq) (.c (.int 1))))) .nil)) (.cons (.ret (.tup (.cons (.v .hY) (.cons (.v .eX) .nil)))) .nil))))))
noncomputable def Kg:List Nm:=[.ae]
noncomputable def Js:c4:=[(.ae,.loc),(.dD,.loc),(.y0,.loc)]
noncomputable def sE:c5:=(.cons (.iN [(.v .dD),(.v .y0)] (.aq (.v .ae) .gu (.cons (.at (.v .ae) .az) .nil))) (.cons (.ret (.tup (.cons (.bin .add (.v .dD) (.c (.int 1))) (.cons (.v .y0) .nil)))) .nil))
noncomputable def Fi:List Nm:=[.ae]
noncomputable def Ee:c4:=[(.ae,.loc),(.cT,.cS),(.az,.loc),(.bK,.loc)]
noncomputable def fS:c5:=(.cons (.ite (.cmp (.at (.v .ae) .az) (.cons .ge (.at (.v .ae) .aH) .nil)) (.cons (.ite (.not (.aq (.v .ae) .gx .nil)) (.cons (.ret (.g .cT)) .nil) .nil) .nil) .nil) (.cons (.asg (.v .az) (.at (.v .ae) .az)) (.cons (.asg (.v .bK) (.ix (.at (.v .ae) .bC) (.v .az))) (.cons (.asg (.at (.v .ae) .az) (.bin .add (.v .az) (.c (.int 1)))) (.cons (.ret (.v .bK)) .nil)))))
noncomputable def Fs:List Nm:=[.ae,.aH]
noncomputable def Ej:c4:=[(.ae,.loc),(.aH,.loc),(.af,.loc),(.ba,.cS),(.lP,.loc),(.hW,.cS)]
noncomputable def fT:c5:=(.cons (.ite (.cmp (.v .aH) (.cons .is (.c .none) .nil)) (.cons (.asg (.v .aH) (.at (.v .ae) .gR)) .nil) .nil) (.cons (.iN [(.at (.v .ae) .bM),(.at (.v .ae) .bS)] (.aq (.v .ae) .gu (.cons (.at (.v .ae) .aH) .nil))) (.cons (.asg (.at (.v .ae) .bC) (.c (.str []))) (.cons (.asg (.at (.v .ae) .aH) (.c (.int 0))) (.cons (.asg (.at (.v .ae) .az) (.c (.int 0))) (.cons (.asg (.v .af) (.aq (.at (.v .ae) .c9) .D8 (.cons (.v .aH) .nil))) (.cons (.ite (.at (.v .ae) .a7) (.cons (.asg (.v .af) (.bin .add (.at (.v .ae) .a7) (.v .af))) (.cons (.asg (.at (.v .ae) .a7) (.c .none)) .nil)) (.cons (.ite (.not (.v .af)) (.cons (.ret (.c (.bool false))) .nil) .nil) .nil)) (.cons (.ite (.cmp (.call (.g .ba) (.cons (.v .af) .nil)) (.cons .gt (.c (.int 1)) .nil)) (.cons (.asg (.v .lP) (.call (.g .hW) (.cons (.ix (.v .af) (.neg (.c (.int 1)))) .nil))) (.cons (.ite (.or (.cons (.cmp (.v .lP) (.cons .eq (.c (.int 13)) .nil)) (.cons (.cmp (.c (.int 55296)) (.cons .le (.v .lP) (.cons .le (.c (.int 56319)) .nil))) .nil))) (.cons (.asg (.at (.v .ae) .a7) (.ix (.v .af) (.neg (.c (.int 1))))) (.cons (.asg (.v .af) (.sl (.v .af) .no (.neg (.c (.int 1))))) .nil)) .nil) .nil)) .nil) (.cons (.ite (.at (.v .ae) .a9) (.cons (.exp (.aq (.v .ae) .a9 (.cons (.v .af) .nil))) .nil) .nil) (.cons (.asg (.v .af) (.aq (.v .af) .jh (.cons (.c (.str [13,10])) (.cons (.c (.str [10])) .nil)))) (.cons (.asg (.v .af) (.aq (.v .af) .jh (.cons (.c (.str [13])) (.cons (.c (.str [10])) .nil)))) (.cons (.asg (.at (.v .ae) .bC) (.v .af)) (.cons (.asg (.at (.v .ae) .aH) (.call (.g .ba) (.cons (.v .af) .nil))) (.cons (.ret (.c (.bool true))) .nil))))))))))))))
noncomputable def Fj:List Nm:=[.ae,.af]
noncomputable def Ef:c4:=[(.ae,.loc),(.af,.loc),(.pd,.loc),(.fk,.cS),(.hW,.cS)]
noncomputable def o4:c5:=(.cons (.fr [.pd] false (.v .af) (.cons (.ite (.call (.g .fk) (.cons (.call (.g .hW) (.cons (.v .pd) .nil)) .nil)) (.cons (.exp (.aq (.at (.v .ae) .d9) .ak (.cons (.c (.str [105,110,118,97,108,105,100,45,99,111,100,101,112,111,105,110,116])) .nil))) .nil) .nil) .nil)) .nil)
noncomputable def kq:List Nm:=[.ae,.cI,.dj]
noncomputable def A0:c4:=[(.ae,.loc),(.cI,.loc),(.dj,.loc),(.fq,.loc),(.cV,.loc),(.Qy,.loc)]
noncomputable def mP:c5:=(.cons (.asg (.v .fq) (.lst .nil false)) (.cons (.nN (.c (.bool true)) (.cons (.asg (.v .cV) (.at (.v .ae) .az)) (.cons (.nN (.and (.cons (.cmp (.v .cV) (.cons .ne (.at (.v .ae) .aH) .nil)) (.cons (.cmp (.cmp (.ix (.at (.v .ae) .bC) (.v .cV)) (.cons .isin (.v .cI) .nil)) (.cons .eq (.v .dj) .nil)) .nil))) (.cons (.aug (.v .cV) .add (.c (.int 1))) .nil)) (.cons (.ite (.cmp (.v .cV) (.cons .eq (.at (.v .ae) .az) .nil)) (.cons (.ite (.cmp (.at (.v .ae) .az) (.cons .ne (.at (.v .ae) .aH) .nil)) (.cons .brk .nil) .nil) .nil) (.cons (.ite (.cmp (.v .cV) (.cons .ne (.at (.v .ae) .aH) .nil)) (.cons (.exp (.aq (.v .fq) .ak (.cons (.sl (.at (.v .ae) .bC) (.at (.v .ae) .az) (.v .cV)) .nil))) (.cons (.asg (.at (.v .ae) .az) (.v .cV)) (.cons .brk .nil))) .nil) .nil)) (.cons (.exp (.aq (.v .fq) .ak (.cons (.sl (.at (.v .ae) .bC) (.at (.v .ae) .az) .no) .nil))) (.cons (.ite (.not (.aq (.v .ae) .gx .nil)) (.cons .brk .nil) .nil) .nil)))))) (.cons (.asg (.v .Qy) (.aq (.c (.str [])) .gJ (.cons (.v .fq) .nil))) (.cons (.ret (.v .Qy)) .nil))))
noncomputable def Bn:List Nm:=[.ae,.bK]
noncomputable def AZ:c4:=[(.ae,.loc),(.bK,.loc),(.cT,.cS)]
noncomputable def mO:c5:=(.cons (.ite (.cmp (.v .bK) (.cons .isn (.g .cT) .nil)) (.cons (.ite (.cmp (.at (.v .ae) .az) (.cons .eq (.c (.int 0)) .nil)) (.cons (.asg (.at (.v .ae) .bC) (.bin .add (.v .bK) (.at (.v .ae) .bC))) (.cons (.aug (.at (.v .ae) .aH) .add (.c (.int 1))) .nil)) (.cons (.aug (.at (.v .ae) .az) .sub (.c (.int 1))) (.cons (.zZ (.cmp (.ix (.at (.v .ae) .bC) (.at (.v .ae) .az)) (.cons .eq (.v .bK) .nil))) .nil))) .nil) .nil) .nil)
noncomputable def Fv:List Nm:=[.ae,.aE,.gw]
noncomputable def Em:c4:=[(.ae,.loc),(.aE,.loc),(.gw,.loc),(.dJ,.cS)]
noncomputable def DM:c5:=(.cons (.asg (.at (.v .ae) .aE) (.call (.g .dJ) (.cons (.v .aE) .nil))) (.cons (.asg (.at (.v .ae) .gw) (.v .gw)) (.cons (.asg (.at (.v .ae) .fZ) (.c (.bool false))) (.cons (.asg (.at (.v .ae) .ee) (.lst .nil true)) (.cons (.asg (.at (.v .ae) .aC) (.at (.v .ae) .bU)) (.cons (.asg (.at (.v .ae) .j0) (.c (.bool false))) (.cons (.asg (.at (.v .ae) .aB) (.c .none)) .nil)))))))
noncomputable def Fw:List Nm:=[.ae]
noncomputable def ve:c4:=[(.ae,.loc)]
noncomputable def DN:c5:=(.cons (.asg (.at (.v .ae) .ai) (.lst .nil false)) (.cons (.nN (.aq (.v .ae) .aC .nil) (.cons (.nN (.at (.at (.v .ae) .aE) .d9) (.cons .bad .nil)) (.cons (.nN (.at (.v .ae) .ai) (.cons .bad .nil)) .nil))) .nil))
noncomputable def Fu:List Nm:=[.ae]
noncomputable def El:c4:=[(.ae,.loc),(.aD,.loc),(.gK,.cS),(.fX,.cS),(.ag,.cS),(.y3,.loc),(.af,.loc),(.D6,.cS),(.ba,.cS)]
noncomputable def DL:c5:=(.cons (.asg (.v .aD) (.at (.v .ae) .aB)) (.cons (.ite (.cmp (.ix (.v .aD) (.c (.str [116,121,112,101]))) (.cons .isin (.g .gK) .nil)) (.cons (.asg (.ix (.v .aD) (.c (.str [110,97,109,101]))) (.call (.g .fX) (.cons (.ix (.v .aD) (.c (.str [110,97,109,101]))) .nil))) (.cons (.ite (.cmp (.ix (.v .aD) (.c (.str [116,121,112,101]))) (.cons .eq (.ix (.g .ag) (.c (.str [83,116,97,114,116,84,97,103]))) .nil)) (.cons (.asg (.v .y3) (.ix (.v .aD) (.c (.str [100,97,116,97])))) (.cons (.asg (.v .af) (.call (.g .D6) (.cons (.v .y3) .nil))) (.cons (.ite (.cmp (.call (.g .ba) (.cons (.v .y3) .nil)) (.cons .gt (.call (.g .ba) (.cons (.v .af) .nil)) .nil)) (.cons .bad .nil) .nil) (.cons (.asg (.ix (.v .aD) (.c (.str [100,97,116,97]))) (.v .af)) .nil)))) .nil) (.cons (.ite (.cmp (.ix (.v .aD) (.c (.str [116,121,112,101]))) (.cons .eq (.ix (.g .ag) (.c (.str [69,110,100,84,97,103]))) .nil)) (.cons (.ite (.ix (.v .aD) (.c (.str [100,97,116,97]))) (.cons (.exp (.aq (.at (.v .ae) .ai) .ak (.cons (.ck (.cons .aJ (.ix (.g .ag) (.c (.str [80,97,114,115,101,69,114,114,111,114]))) (.cons .af (.c (.str [97,116,116,114,105,98,117,116,101,115,45,105,110,45,101,110,100,45,116,97,103])) .nil)) true) .nil))) .nil) .nil) (.cons (.ite (.ix (.v .aD) (.c (.str [115,101,108,102,67,108,111,115,105,110,103]))) (.cons (.exp (.aq (.at (.v .ae) .ai) .ak (.cons (.ck (.cons .aJ (.ix (.g .ag) (.c (.str [80,97,114,115,101,69,114,114,111,114]))) (.cons .af (.c (.str [115,101,108,102,45,99,108,111,115,105,110,103,45,102,108,97,103,45,111,110,45,101,110,100,45,116,97,103])) .nil)) true) .nil))) .nil) .nil) .nil)) .nil) .nil))) .nil) (.cons (.exp (.aq (.at (.v .ae) .ai) .ak (.cons (.v .aD) .nil))) (.cons (.asg (.at (.v .ae) .aC) (.at (.v .ae) .bU)) .nil))))
noncomputable def Ft:List Nm:=[.ae]
noncomputable def Ek:c4:=[(.ae,.loc),(.af,.loc),(.ag,.cS),(.cT,.cS),(.aI,.cS),(.gX,.loc)]
noncomputable def DK:c5:=(.cons (.asg (.v .af) (.aq (.at (.v .ae) .aE) .bK .nil)) (.cons (.ite (.cmp (.v .af) (.cons .eq (.c (.str [38])) .nil)) (.cons (.asg (.at (.v .ae) .aC) (.at (.v .ae) .iG)) .nil) (.cons (.ite (.cmp (.v .af) (.cons .eq (.c (.str [60])) .nil)) (.cons (.asg (.at (.v .ae) .aC) (.at (.v .ae) .j5)) .nil) (.cons (.ite (.cmp (.v .af) (.cons .eq (.c (.str [0])) .nil)) (.cons (.exp (.aq (.at (.v .ae) .ai) .ak (.cons (.ck (.cons .aJ (.ix (.g .ag) (.c (.str [80,97,114,115,101,69,114,114,111,114]))) (.cons .af (.c (.str [105,110,118,97,108,105,100,45,99,111,100,101,112,111,105,110,116])) .nil)) true) .nil))) (.cons (.exp (.aq (.at (.v .ae) .ai) .ak (.cons (.ck (.cons .aJ (.ix (.g .ag) (.c (.str [67,104,97,114,97,99,116,101,114,115]))) (.cons .af (.c (.str [0])) .nil)) true) .nil))) .nil)) (.cons (.ite (.cmp (.v .af) (.cons .is (.g .cT) .nil)) (.cons (.ret (.c (.bool false))) .nil) (.cons (.ite (.cmp (.v .af) (.cons .isin (.g .aI) .nil)) (.cons (.exp (.aq (.at (.v .ae) .ai) .ak (.cons (.ck (.cons .aJ (.ix (.g .ag) (.c (.str [83,112,97,99,101,67,104,97,114,97,99,116,101,114,115]))) (.cons .af (.bin .add (.v .af) (.aq (.at (.v .ae) .aE) .c8 (.cons (.g .aI) (.cons (.c (.bool true)) .nil)))) .nil)) true) .nil))) .nil) (.cons (.asg (.v .gX) (.aq (.at (.v .ae) .aE) .c8 (.cons (.tup (.cons (.c (.str [38])) (.cons (.c (.str [60])) (.cons (.c (.str [0])) .nil)))) .nil))) (.cons (.exp (.aq (.at (.v .ae) .ai) .ak (.cons (.ck (.cons .aJ (.ix (.g .ag) (.c (.str [67,104,97,114,97,99,116,101,114,115]))) (.cons .af (.bin .add (.v .af) (.v .gX)) .nil)) true) .nil))) .nil))) .nil)) .nil)) .nil)) .nil)) (.cons (.ret (.c (.bool true))) .nil)))
noncomputable def WI:List Nm:=[.ae]
noncomputable def Sq:c4:=[(.ae,.loc),(.af,.loc),(.ag,.cS),(.cT,.cS),(.gX,.loc)]
noncomputable def Lk:c5:=(.cons (.asg (.v .af) (.aq (.at (.v .ae) .aE) .bK .nil)) (.cons (.ite (.cmp (.v .af) (.cons .eq (.c (.str [60])) .nil)) (.cons (.asg (.at (.v .ae) .aC) (.at (.v .ae) .dY)) .nil) (.cons (.ite (.cmp (.v .af) (.cons .eq (.c (.str [0])) .nil)) (.cons (.exp (.aq (.at (.v .ae) .ai) .ak (.cons (.ck (.cons .aJ (.ix (.g .ag) (.c (.str [80,97,114,115,101,69,114,114,111,114]))) (.cons .af (.c (.str [105,110,118,97,108,105,100,45,99,111,100,101,112,111,105,110,116])) .nil)) true) .nil))) (.cons (.exp (.aq (.at (.v .ae) .ai) .ak (.cons (.ck (.cons .aJ (.ix (.g .ag) (.c (.str [67,104,97,114,97,99,116,101,114,115]))) (.cons .af (.c (.str [65533])) .nil)) true) .nil))) .nil)) (.cons (.ite (.cmp (.v .af) (.cons .eq (.g .cT) .nil)) (.cons (.ret (.c (.bool false))) .nil) (.cons (.asg (.v .gX) (.aq (.at (.v .ae) .aE) .c8 (.cons (.tup (.cons (.c (.str [60])) (.cons (.c (.str [0])) .nil))) .nil))) (.cons (.exp (.aq (.at (.v .ae) .ai) .ak (.cons (.ck (.cons .aJ (.ix (.g .ag) (.c (.str [67,104,97,114,97,99,116,101,114,115]))) (.cons .af (.bin .add (.v .af) (.v .gX)) .nil)) true) .nil))) .nil))) .nil)) .nil)) (.cons (.ret (.c (.bool true))) .nil)))
noncomputable def Kq:List Nm:=[.ae]
noncomputable def JB:c4:=[(.ae,.loc),(.af,.loc),(.ag,.cS)]
noncomputable def Jm:c5:=(.cons (.asg (.v .af) (.aq (.at (.v .ae) .aE) .bK .nil)) (.cons (.ite (.cmp (.v .af) (.cons .eq (.c (.str [47])) .nil)) (.cons (.asg (.at (.v .ae) .aF) (.c (.str []))) (.cons (.asg (.at (.v .ae) .aC) (.at (.v .ae) .eJ)) .nil)) (.cons (.ite (.cmp (.v .af) (.cons .eq (.c (.str [33])) .nil)) (.cons (.exp (.aq (.at (.v .ae) .ai) .ak (.cons (.ck (.cons .aJ (.ix (.g .ag) (.c (.str [67,104,97,114,97,99,116,101,114,115]))) (.cons .af (.c (.str [60,33])) .nil)) true) .nil))) (.cons (.asg (.at (.v .ae) .aC) (.at (.v .ae) .eh)) .nil)) (.cons (.exp (.aq (.at (.v .ae) .ai) .ak (.cons (.ck (.cons .aJ (.ix (.g .ag) (.c (.str [67,104,97,114,97,99,116,101,114,115]))) (.cons .af (.c (.str [60])) .nil)) true) .nil))) (.cons (.exp (.aq (.at (.v .ae) .aE) .d5 (.cons (.v .af) .nil))) (.cons (.asg (.at (.v .ae) .aC) (.at (.v .ae) .bF)) .nil)))) .nil)) (.cons (.ret (.c (.bool true))) .nil)))
noncomputable def Kn:List Nm:=[.ae]
noncomputable def Jz:c4:=[(.ae,.loc),(.af,.loc),(.aW,.cS),(.ag,.cS)]
noncomputable def Jk:c5:=(.cons (.asg (.v .af) (.aq (.at (.v .ae) .aE) .bK .nil)) (.cons (.ite (.cmp (.v .af) (.cons .isin (.g .aW) .nil)) (.cons (.aug (.at (.v .ae) .aF) .add (.v .af)) (.cons (.asg (.at (.v .ae) .aC) (.at (.v .ae) .eI)) .nil)) (.cons (.exp (.aq (.at (.v .ae) .ai) .ak (.cons (.ck (.cons .aJ (.ix (.g .ag) (.c (.str [67,104,97,114,97,99,116,101,114,115]))) (.cons .af (.c (.str [60,47])) .nil)) true) .nil))) (.cons (.exp (.aq (.at (.v .ae) .aE) .d5 (.cons (.v .af) .nil))) (.cons (.asg (.at (.v .ae) .aC) (.at (.v .ae) .bF)) .nil)))) (.cons (.ret (.c (.bool true))) .nil)))
noncomputable def Km:List Nm:=[.ae]
noncomputable def Jy:c4:=[(.ae,.loc),(.cm,.loc),(.af,.loc),(.aI,.cS),(.ag,.cS),(.aW,.cS)]
noncomputable def eU:c5:=(.cons (.asg (.v .cm) (.and (.cons (.at (.v .ae) .aB) (.cons (.cmp (.aq (.ix (.at (.v .ae) .aB) (.c (.str [110,97,109,101]))) .eW .nil) (.cons .eq (.aq (.at (.v .ae) .aF) .eW .nil) .nil)) .nil)))) (.cons (.asg (.v .af) (.aq (.at (.v .ae) .aE) .bK .nil)) (.cons (.ite (.and (.cons (.cmp (.v .af) (.cons .isin (.g .aI) .nil)) (.cons (.v .cm) .nil))) (.cons (.asg (.at (.v .ae) .aB) (.ck (.cons .aJ (.ix (.g .ag) (.c (.str [69,110,100,84,97,103]))) (.cons .aO (.at (.v .ae) .aF) (.cons .af (.lst .nil false) (.cons .bT (.c (.bool false)) .nil)))) false)) (.cons (.asg (.at (.v .ae) .aC) (.at (.v .ae) .b0)) .nil)) (.cons (.ite (.and (.cons (.cmp (.v .af) (.cons .eq (.c (.str [47])) .nil)) (.cons (.v .cm) .nil))) (.cons (.asg (.at (.v .ae) .aB) (.ck (.cons .aJ (.ix (.g .ag) (.c (.str [69,110,100,84,97,103]))) (.cons .aO (.at (.v .ae) .aF) (.cons .af (.lst .nil false) (.cons .bT (.c (.bool false)) .nil)))) false)) (.cons (.asg (.at (.v .ae) .aC) (.at (.v .ae) .b5)) .nil)) (.cons (.ite (.and (.cons (.cmp (.v .af) (.cons .eq (.c (.str [62])) .nil)) (.cons (.v .cm) .nil))) (.cons (.asg (.at (.v .ae) .aB) (.ck (.cons .aJ (.ix (.g .ag) (.c (.str [69,110,100,84,97,103]))) (.cons .aO (.at (.v .ae) .aF) (.cons .af (.lst .nil false) (.cons .bT (.c (.bool false)) .nil)))) false)) (.cons (.exp (.aq (.v .ae) .b4 .nil)) (.cons (.asg (.at (.v .ae) .aC) (.at (.v .ae) .bU)) .nil))) (.cons (.ite (.cmp (.v .af) (.cons .isin (.g .aW) .nil)) (.cons (.aug (.at (.v .ae) .aF) .add (.v .af)) .nil) (.cons (.exp (.aq (.at (.v .ae) .ai) .ak (.cons (.ck (.cons .aJ (.ix (.g .ag) (.c (.str [67,104,97,114,97,99,116,101,114,115]))) (.cons .af (.bin .add (.c (.str [60,47])) (.at (.v .ae) .aF)) .nil)) true) .nil))) (.cons (.exp (.aq (.at (.v .ae) .aE) .d5 (.cons (.v .af) .nil))) (.cons (.asg (.at (.v .ae) .aC) (.at (.v .ae) .bF)) .nil)))) .nil)) .nil)) .nil)) (.cons (.ret (.c (.bool true))) .nil))))
noncomputable def Ko:List Nm:=[.ae]
noncomputable def JA:c4:=[(.ae,.loc),(.af,.loc),(.ag,.cS)]
noncomputable def Jl:c5:=(.cons (.asg (.v .af) (.aq (.at (.v .ae) .aE) .bK .nil)) (.cons (.ite (.cmp (.v .af) (.cons .eq (.c (.str [45])) .nil)) (.cons (.exp (.aq (.at (.v .ae) .ai) .ak (.cons (.ck (.cons .aJ (.ix (.g .ag) (.c (.str [67,104,97,114,97,99,116,101,114,115]))) (.cons .af (.c (.str [45])) .nil)) true) .nil))) (.cons (.asg (.at (.v .ae) .aC) (.at (.v .ae) .dH)) .nil)) (.cons (.exp (.aq (.at (.v .ae) .aE) .d5 (.cons (.v .af) .nil))) (.cons (.asg (.at (.v .ae) .aC) (.at (.v .ae) .bF)) .nil))) (.cons (.ret (.c (.bool true))) .nil)))
noncomputable def FI:List Nm:=[.ae]
noncomputable def Ew:c4:=[(.ae,.loc),(.af,.loc),(.ag,.cS)]
noncomputable def DU:c5:=(.cons (.asg (.v .af) (.aq (.at (.v .ae) .aE) .bK .nil)) (.cons (.ite (.cmp (.v .af) (.cons .eq (.c (.str [45])) .nil)) (.cons (.exp (.aq (.at (.v .ae) .ai) .ak (.cons (.ck (.cons .aJ (.ix (.g .ag) (.c (.str [67,104,97,114,97,99,116,101,114,115]))) (.cons .af (.c (.str [45])) .nil)) true) .nil))) (.cons (.asg (.at (.v .ae) .aC) (.at (.v .ae) .cK)) .nil)) (.cons (.exp (.aq (.at (.v .ae) .aE) .d5 (.cons (.v .af) .nil))) (.cons (.asg (.at (.v .ae) .aC) (.at (.v .ae) .bF)) .nil))) (.cons (.ret (.c (.bool true))) .nil)))
noncomputable def PA:List Nm:=[.ae]
noncomputable def Oa:c4:=[(.ae,.loc),(.af,.loc),(.ag,.cS),(.cT,.cS),(.gX,.loc)]
noncomputable def NY:c5:=(.cons (.asg (.v .af) (.aq (.at (.v .ae) .aE) .bK .nil)) (.cons (.ite (.cmp (.v .af) (.cons .eq (.c (.str [45])) .nil)) (.cons (.exp (.aq (.at (.v .ae) .ai) .ak (.cons (.ck (.cons .aJ (.ix (.g .ag) (.c (.str [67,104,97,114,97,99,116,101,114,115]))) (.cons .af (.c (.str [45])) .nil)) true) .nil))) (.cons (.asg (.at (.v .ae) .aC) (.at (.v .ae) .ej)) .nil)) (.cons (.ite (.cmp (.v .af) (.cons .eq (.c (.str [60])) .nil)) (.cons (.asg (.at (.v .ae) .aC) (.at (.v .ae) .bJ)) .nil) (.cons (.ite (.cmp (.v .af) (.cons .eq (.c (.str [0])) .nil)) (.cons (.exp (.aq (.at (.v .ae) .ai) .ak (.cons (.ck (.cons .aJ (.ix (.g .ag) (.c (.str [80,97,114,115,101,69,114,114,111,114]))) (.cons .af (.c (.str [105,110,118,97,108,105,100,45,99,111,100,101,112,111,105,110,116])) .nil)) true) .nil))) (.cons (.exp (.aq (.at (.v .ae) .ai) .ak (.cons (.ck (.cons .aJ (.ix (.g .ag) (.c (.str [67,104,97,114,97,99,116,101,114,115]))) (.cons .af (.c (.str [65533])) .nil)) true) .nil))) .nil)) (.cons (.ite (.cmp (.v .af) (.cons .eq (.g .cT) .nil)) (.cons (.asg (.at (.v .ae) .aC) (.at (.v .ae) .bU)) .nil) (.cons (.asg (.v .gX) (.aq (.at (.v .ae) .aE) .c8 (.cons (.tup (.cons (.c (.str [60])) (.cons (.c (.str [45])) (.cons (.c (.str [0])) .nil)))) .nil))) (.cons (.exp (.aq (.at (.v .ae) .ai) .ak (.cons (.ck (.cons .aJ (.ix (.g .ag) (.c (.str [67,104,97,114,97,99,116,101,114,115]))) (.cons .af (.bin .add (.v .af) (.v .gX)) .nil)) true) .nil))) .nil))) .nil)) .nil)) .nil)) (.cons (.ret (.c (.bool true))) .nil)))
noncomputable def Kl:List Nm:=[.ae]
noncomputable def Jx:c4:=[(.ae,.loc),(.af,.loc),(.ag,.cS),(.cT,.cS)]
noncomputable def Jj:c5:=(.cons (.asg (.v .af) (.aq (.at (.v .ae) .aE) .bK .nil)) (.cons (.ite (.cmp (.v .af) (.cons .eq (.c (.str [45])) .nil)) (.cons (.exp (.aq (.at (.v .ae) .ai) .ak (.cons (.ck (.cons .aJ (.ix (.g .ag) (.c (.str [67,104,97,114,97,99,116,101,114,115]))) (.cons .af (.c (.str [45])) .nil)) true) .nil))) (.cons (.asg (.at (.v .ae) .aC) (.at (.v .ae) .cK)) .nil)) (.cons (.ite (.cmp (.v .af) (.cons .eq (.c (.str [60])) .nil)) (.cons (.asg (.at (.v .ae) .aC) (.at (.v .ae) .bJ)) .nil) (.cons (.ite (.cmp (.v .af) (.cons .eq (.c (.str [0])) .nil)) (.cons (.exp (.aq (.at (.v .ae) .ai) .ak (.cons (.ck (.cons .aJ (.ix (.g .ag) (.c (.str [80,97,114,115,101,69,114,114,111,114]))) (.cons .af (.c (.str [105,110,118,97,108,105,100,45,99,111,100,101,112,111,105,110,116])) .nil)) true) .nil))) (.cons (.exp (.aq (.at (.v .ae) .ai) .ak (.cons (.ck (.cons .aJ (.ix (.g .ag) (.c (.str [67,104,97,114,97,99,116,101,114,115]))) (.cons .af (.c (.str [65533])) .nil)) true) .nil))) (.cons (.asg (.at (.v .ae) .aC) (.at (.v .ae) .aV)) .nil))) (.cons (.ite (.cmp (.v .af) (.cons .eq (.g .cT) .nil)) (.cons (.asg (.at (.v .ae) .aC) (.at (.v .ae) .bU)) .nil) (.cons (.exp (.aq (.at (.v .ae) .ai) .ak (.cons (.ck (.cons .aJ (.ix (.g .ag) (.c (.str [67,104,97,114,97,99,116,101,114,115]))) (.cons .af (.v .af) .nil)) true) .nil))) (.cons (.asg (.at (.v .ae) .aC) (.at (.v .ae) .aV)) .nil))) .nil)) .nil)) .nil)) (.cons (.ret (.c (.bool true))) .nil)))
noncomputable def FA:List Nm:=[.ae]
noncomputable def Er:c4:=[(.ae,.loc),(.af,.loc),(.ag,.cS),(.cT,.cS)]
noncomputable def DR:c5:=(.cons (.asg (.v .af) (.aq (.at (.v .ae) .aE) .bK .nil)) (.cons (.ite (.cmp (.v .af) (.cons .eq (.c (.str [45])) .nil)) (.cons (.exp (.aq (.at (.v .ae) .ai) .ak (.cons (.ck (.cons .aJ (.ix (.g .ag) (.c (.str [67,104,97,114,97,99,116,101,114,115]))) (.cons .af (.c (.str [45])) .nil)) true) .nil))) .nil) (.cons (.ite (.cmp (.v .af) (.cons .eq (.c (.str [60])) .nil)) (.cons (.asg (.at (.v .ae) .aC) (.at (.v .ae) .bJ)) .nil) (.cons (.ite (.cmp (.v .af) (.cons .eq (.c (.str [62])) .nil)) (.cons (.exp (.aq (.at (.v .ae) .ai) .ak (.cons (.ck (.cons .aJ (.ix (.g .ag) (.c (.str [67,104,97,114,97,99,116,101,114,115]))) (.cons .af (.c (.str [62])) .nil)) true) .nil))) (.cons (.asg (.at (.v .ae) .aC) (.at (.v .ae) .bF)) .nil)) (.cons (.ite (.cmp (.v .af) (.cons .eq (.c (.str [0])) .nil)) (.cons (.exp (.aq (.at (.v .ae) .ai) .ak (.cons (.ck (.cons .aJ (.ix (.g .ag) (.c (.str [80,97,114,115,101,69,114,114,111,114]))) (.cons .af (.c (.str [105,110,118,97,108,105,100,45,99,111,100,101,112,111,105,110,116])) .nil)) true) .nil))) (.cons (.exp (.aq (.at (.v .ae) .ai) .ak (.cons (.ck (.cons .aJ (.ix (.g .ag) (.c (.str [67,104,97,114,97,99,116,101,114,115]))) (.cons .af (.c (.str [65533])) .nil)) true) .nil))) (.cons (.asg (.at (.v .ae) .aC) (.at (.v .ae) .aV)) .nil))) (.cons (.ite (.cmp (.v .af) (.cons .eq (.g .cT) .nil)) (.cons (.asg (.at (.v .ae) .aC) (.at (.v .ae) .bU)) .nil) (.cons (.exp (.aq (.at (.v .ae) .ai) .ak (.cons (.ck (.cons .aJ (.ix (.g .ag) (.c (.str [67,104,97,114,97,99,116,101,114,115]))) (.cons .af (.v .af) .nil)) true) .nil))) (.cons (.asg (.at (.v .ae) .aC) (.at (.v .ae) .aV)) .nil))) .nil)) .nil)) .nil)) .nil)) (.cons (.ret (.c (.bool true))) .nil)))
noncomputable def FH:List Nm:=[.ae]
noncomputable def Eu:c4:=[(.ae,.loc),(.af,.loc),(.aW,.cS),(.ag,.cS)]
noncomputable def DT:c5:=(.cons (.asg (.v .af) (.aq (.at (.v .ae) .aE) .bK .nil)) (.cons (.ite (.cmp (.v .af) (.cons .eq (.c (.str [47])) .nil)) (.cons (.asg (.at (.v .ae) .aF) (.c (.str []))) (.cons (.asg (.at (.v .ae) .aC) (.at (.v .ae) .du)) .nil)) (.cons (.ite (.cmp (.v .af) (.cons .isin (.g .aW) .nil)) (.cons (.exp (.aq (.at (.v .ae) .ai) .ak (.cons (.ck (.cons .aJ (.ix (.g .ag) (.c (.str [67,104,97,114,97,99,116,101,114,115]))) (.cons .af (.bin .add (.c (.str [60])) (.v .af)) .nil)) true) .nil))) (.cons (.asg (.at (.v .ae) .aF) (.v .af)) (.cons (.asg (.at (.v .ae) .aC) (.at (.v .ae) .dm)) .nil))) (.cons (.exp (.aq (.at (.v .ae) .ai) .ak (.cons (.ck (.cons .aJ (.ix (.g .ag) (.c (.str [67,104,97,114,97,99,116,101,114,115]))) (.cons .af (.c (.str [60])) .nil)) true) .nil))) (.cons (.exp (.aq (.at (.v .ae) .aE) .d5 (.cons (.v .af) .nil))) (.cons (.asg (.at (.v .ae) .aC) (.at (.v .ae) .aV)) .nil)))) .nil)) (.cons (.ret (.c (.bool true))) .nil)))
noncomputable def FG:List Nm:=[.ae]
noncomputable def Et:c4:=[(.ae,.loc),(.af,.loc),(.aW,.cS),(.ag,.cS)]
noncomputable def DS:c5:=(.cons (.asg (.v .af) (.aq (.at (.v .ae) .aE) .bK .nil)) (.cons (.ite (.cmp (.v .af) (.cons .isin (.g .aW) .nil)) (.cons (.asg (.at (.v .ae) .aF) (.v .af)) (.cons (.asg (.at (.v .ae) .aC) (.at (.v .ae) .dq)) .nil)) (.cons (.exp (.aq (.at (.v .ae) .ai) .ak (.cons (.ck (.cons .aJ (.ix (.g .ag) (.c (.str [67,104,97,114,97,99,116,101,114,115]))) (.cons .af (.c (.str [60,47])) .nil)) true) .nil))) (.cons (.exp (.aq (.at (.v .ae) .aE) .d5 (.cons (.v .af) .nil))) (.cons (.asg (.at (.v .ae) .aC) (.at (.v .ae) .aV)) .nil)))) (.cons (.ret (.c (.bool true))) .nil)))
noncomputable def FC:List Nm:=[.ae]
noncomputable def Es:c4:=[(.ae,.loc),(.cm,.loc),(.af,.loc),(.aI,.cS),(.ag,.cS),(.aW,.cS)]
noncomputable def dU:c5:=(.cons (.asg (.v .cm) (.and (.cons (.at (.v .ae) .aB) (.cons (.cmp (.aq (.ix (.at (.v .ae) .aB) (.c (.str [110,97,109,101]))) .eW .nil) (.cons .eq (.aq (.at (.v .ae) .aF) .eW .nil) .nil)) .nil)))) (.cons (.asg (.v .af) (.aq (.at (.v .ae) .aE) .bK .nil)) (.cons (.ite (.and (.cons (.cmp (.v .af) (.cons .isin (.g .aI) .nil)) (.cons (.v .cm) .nil))) (.cons (.asg (.at (.v .ae) .aB) (.ck (.cons .aJ (.ix (.g .ag) (.c (.str [69,110,100,84,97,103]))) (.cons .aO (.at (.v .ae) .aF) (.cons .af (.lst .nil false) (.cons .bT (.c (.bool false)) .nil)))) false)) (.cons (.asg (.at (.v .ae) .aC) (.at (.v .ae) .b0)) .nil)) (.cons (.ite (.and (.cons (.cmp (.v .af) (.cons .eq (.c (.str [47])) .nil)) (.cons (.v .cm) .nil))) (.cons (.asg (.at (.v .ae) .aB) (.ck (.cons .aJ (.ix (.g .ag) (.c (.str [69,110,100,84,97,103]))) (.cons .aO (.at (.v .ae) .aF) (.cons .af (.lst .nil false) (.cons .bT (.c (.bool false)) .nil)))) false)) (.cons (.asg (.at (.v .ae) .aC) (.at (.v .ae) .b5)) .nil)) (.cons (.ite (.and (.cons (.cmp (.v .af) (.cons .eq (.c (.str [62])) .nil)) (.cons (.v .cm) .nil))) (.cons (.asg (.at (.v .ae) .aB) (.ck (.cons .aJ (.ix (.g .ag) (.c (.str [69,110,100,84,97,103]))) (.cons .aO (.at (.v .ae) .aF) (.cons .af (.lst .nil false) (.cons .bT (.c (.bool false)) .nil)))) false)) (.cons (.exp (.aq (.v .ae) .b4 .nil)) (.cons (.asg (.at (.v .ae) .aC) (.at (.v .ae) .bU)) .nil))) (.cons (.ite (.cmp (.v .af) (.cons .isin (.g .aW) .nil)) (.cons (.aug (.at (.v .ae) .aF) .add (.v .af)) .nil) (.cons (.exp (.aq (.at (.v .ae) .ai) .ak (.cons (.ck (.cons .aJ (.ix (.g .ag) (.c (.str [67,104,97,114,97,99,116,101,114,115]))) (.cons .af (.bin .add (.c (.str [60,47])) (.at (.v .ae) .aF)) .nil)) true) .nil))) (.cons (.exp (.aq (.at (.v .ae) .aE) .d5 (.cons (.v .af) .nil))) (.cons (.asg (.at (.v .ae) .aC) (.at (.v .ae) .aV)) .nil)))) .nil)) .nil)) .nil)) (.cons (.ret (.c (.bool true))) .nil))))
noncomputable def Fz:List Nm:=[.ae]
noncomputable def Ep:c4:=[(.ae,.loc),(.af,.loc),(.aI,.cS),(.ag,.cS),(.aW,.cS)]
noncomputable def DQ:c5:=(.cons (.asg (.v .af) (.aq (.at (.v .ae) .aE) .bK .nil)) (.cons (.ite (.cmp (.v .af) (.cons .isin (.bin .add (.g .aI) (.tup (.cons (.c (.str [47])) (.cons (.c (.str [62])) .nil)))) .nil)) (.cons (.exp (.aq (.at (.v .ae) .ai) .ak (.cons (.ck (.cons .aJ (.ix (.g .ag) (.c (.str [67,104,97,114,97,99,116,101,114,115]))) (.cons .af (.v .af) .nil)) true) .nil))) (.cons (.ite (.cmp (.aq (.at (.v .ae) .aF) .eW .nil) (.cons .eq (.c (.str [115,99,114,105,112,116])) .nil)) (.cons (.asg (.at (.v .ae) .aC) (.at (.v .ae) .aQ)) .nil) (.cons (.asg (.at (.v .ae) .aC) (.at (.v .ae) .aV)) .nil)) .nil)) (.cons (.ite (.cmp (.v .af) (.cons .isin (.g .aW) .nil)) (.cons (.exp (.aq (.at (.v .ae) .ai) .ak (.cons (.ck (.cons .aJ (.ix (.g .ag) (.c (.str [67,104,97,114,97,99,116,101,114,115]))) (.cons .af (.v .af) .nil)) true) .nil))) (.cons (.aug (.at (.v .ae) .aF) .add (.v .af)) .nil)) (.cons (.exp (.aq (.at (.v .ae) .aE) .d5 (.cons (.v .af) .nil))) (.cons (.asg (.at (.v .ae) .aC) (.at (.v .ae) .aV)) .nil))) .nil)) (.cons (.ret (.c (.bool true))) .nil)))
noncomputable def Kk:List Nm:=[.ae]
noncomputable def Jw:c4:=[(.ae,.loc),(.af,.loc),(.ag,.cS),(.cT,.cS)]
noncomputable def Ji:c5:=(.cons (.asg (.v .af) (.aq (.at (.v .ae) .aE) .bK .nil)) (.cons (.ite (.cmp (.v .af) (.cons .eq (.c (.str [45])) .nil)) (.cons (.exp (.aq (.at (.v .ae) .ai) .ak (.cons (.ck (.cons .aJ (.ix (.g .ag) (.c (.str [67,104,97,114,97,99,116,101,114,115]))) (.cons .af (.c (.str [45])) .nil)) true) .nil))) (.cons (.asg (.at (.v .ae) .aC) (.at (.v .ae) .dn)) .nil)) (.cons (.ite (.cmp (.v .af) (.cons .eq (.c (.str [60])) .nil)) (.cons (.exp (.aq (.at (.v .ae) .ai) .ak (.cons (.ck (.cons .aJ (.ix (.g .ag) (.c (.str [67,104,97,114,97,99,116,101,114,115]))) (.cons .af (.c (.str [60])) .nil)) true) .nil))) (.cons (.asg (.at (.v .ae) .aC) (.at (.v .ae) .bj)) .nil)) (.cons (.ite (.cmp (.v .af) (.cons .eq (.c (.str [0])) .nil)) (.cons (.exp (.aq (.at (.v .ae) .ai) .ak (.cons (.ck (.cons .aJ (.ix (.g .ag) (.c (.str [80,97,114,115,101,69,114,114,111,114]))) (.cons .af (.c (.str [105,110,118,97,108,105,100,45,99,111,100,101,112,111,105,110,116])) .nil)) true) .nil))) (.cons (.exp (.aq (.at (.v .ae) .ai) .ak (.cons (.ck (.cons .aJ (.ix (.g .ag) (.c (.str [67,104,97,114,97,99,116,101,114,115]))) (.cons .af (.c (.str [65533])) .nil)) true) .nil))) .nil)) (.cons (.ite (.cmp (.v .af) (.cons .eq (.g .cT) .nil)) (.cons (.exp (.aq (.at (.v .ae) .ai) .ak (.cons (.ck (.cons .aJ (.ix (.g .ag) (.c (.str [80,97,114,115,101,69,114,114,111,114]))) (.cons .af (.c (.str [101,111,102,45,105,110,45,115,99,114,105,112,116,45,105,110,45,115,99,114,105,112,116])) .nil)) true) .nil))) (.cons (.asg (.at (.v .ae) .aC) (.at (.v .ae) .bU)) .nil)) (.cons (.exp (.aq (.at (.v .ae) .ai) .ak (.cons (.ck (.cons .aJ (.ix (.g .ag) (.c (.str [67,104,97,114,97,99,116,101,114,115]))) (.cons .af (.v .af) .nil)) true) .nil))) .nil)) .nil)) .nil)) .nil)) (.cons (.ret (.c (.bool true))) .nil)))
noncomputable def Fx:List Nm:=[.ae]
noncomputable def En:c4:=[(.ae,.loc),(.af,.loc),(.ag,.cS),(.cT,.cS)]
noncomputable def DO:c5:=(.cons (.asg (.v .af) (.aq (.at (.v .ae) .aE) .bK .nil)) (.cons (.ite (.cmp (.v .af) (.cons .eq (.c (.str [45])) .nil)) (.cons (.exp (.aq (.at (.v .ae) .ai) .ak (.cons (.ck (.cons .aJ (.ix (.g .ag) (.c (.str [67,104,97,114,97,99,116,101,114,115]))) (.cons .af (.c (.str [45])) .nil)) true) .nil))) (.cons (.asg (.at (.v .ae) .aC) (.at (.v .ae) .cX)) .nil)) (.cons (.ite (.cmp (.v .af) (.cons .eq (.c (.str [60])) .nil)) (.cons (.exp (.aq (.at (.v .ae) .ai) .ak (.cons (.ck (.cons .aJ (.ix (.g .ag) (.c (.str [67,104,97,114,97,99,116,101,114,115]))) (.cons .af (.c (.str [60])) .nil)) true) .nil))) (.cons (.asg (.at (.v .ae) .aC) (.at (.v .ae) .bj)) .nil)) (.cons (.ite (.cmp (.v .af) (.cons .eq (.c (.str [0])) .nil)) (.cons (.exp (.aq (.at (.v .ae) .ai) .ak (.cons (.ck (.cons .aJ (.ix (.g .ag) (.c (.str [80,97,114,115,101,69,114,114,111,114]))) (.cons .af (.c (.str [105,110,118,97,108,105,100,45,99,111,100,101,112,111,105,110,116])) .nil)) true) .nil))) (.cons (.exp (.aq (.at (.v .ae) .ai) .ak (.cons (.ck (.cons .aJ (.ix (.g .ag) (.c (.str [67,104,97,114,97,99,116,101,114,115]))) (.cons .af (.c (.str [65533])) .nil)) true) .nil))) (.cons (.asg (.at (.v .ae) .aC) (.at (.v .ae) .aQ)) .nil))) (.cons (.ite (.cmp (.v .af) (.cons .eq (.g .cT) .nil)) (.cons (.exp (.aq (.at (.v .ae) .ai) .ak (.cons (.ck (.cons .aJ (.ix (.g .ag) (.c (.str [80,97,114,115,101,69,114,114,111,114]))) (.cons .af (.c (.str [101,111,102,45,105,110,45,115,99,114,105,112,116,45,105,110,45,115,99,114,105,112,116])) .nil)) true) .nil))) (.cons (.asg (.at (.v .ae) .aC) (.at (.v .ae) .bU)) .nil)) (.cons (.exp (.aq (.at (.v .ae) .ai) .ak (.cons (.ck (.cons .aJ (.ix (.g .ag) (.c (.str [67,104,97,114,97,99,116,101,114,115]))) (.cons .af (.v .af) .nil)) true) .nil))) (.cons (.asg (.at (.v .ae) .aC) (.at (.v .ae) .aQ)) .nil))) .nil)) .nil)) .nil)) (.cons (.ret (.c (.bool true))) .nil)))
noncomputable def Bo:List Nm:=[.ae]
noncomputable def A1:c4:=[(.ae,.loc),(.af,.loc),(.ag,.cS),(.cT,.cS)]
noncomputable def AL:c5:=(.cons (.asg (.v .af) (.aq (.at (.v .ae) .aE) .bK .nil)) (.cons (.ite (.cmp (.v .af) (.cons .eq (.c (.str [45])) .nil)) (.cons (.exp (.aq (.at (.v .ae) .ai) .ak (.cons (.ck (.cons .aJ (.ix (.g .ag) (.c (.str [67,104,97,114,97,99,116,101,114,115]))) (.cons .af (.c (.str [45])) .nil)) true) .nil))) .nil) (.cons (.ite (.cmp (.v .af) (.cons .eq (.c (.str [60])) .nil)) (.cons (.exp (.aq (.at (.v .ae) .ai) .ak (.cons (.ck (.cons .aJ (.ix (.g .ag) (.c (.str [67,104,97,114,97,99,116,101,114,115]))) (.cons .af (.c (.str [60])) .nil)) true) .nil))) (.cons (.asg (.at (.v .ae) .aC) (.at (.v .ae) .bj)) .nil)) (.cons (.ite (.cmp (.v .af) (.cons .eq (.c (.str [62])) .nil)) (.cons (.exp (.aq (.at (.v .ae) .ai) .ak (.cons (.ck (.cons .aJ (.ix (.g .ag) (.c (.str [67,104,97,114,97,99,116,101,114,115]))) (.cons .af (.c (.str [62])) .nil)) true) .nil))) (.cons (.asg (.at (.v .ae) .aC) (.at (.v .ae) .bF)) .nil)) (.cons (.ite (.cmp (.v .af) (.cons .eq (.c (.str [0])) .nil)) (.cons (.exp (.aq (.at (.v .ae) .ai) .ak (.cons (.ck (.cons .aJ (.ix (.g .ag) (.c (.str [80,97,114,115,101,69,114,114,111,114]))) (.cons .af (.c (.str [105,110,118,97,108,105,100,45,99,111,100,101,112,111,105,110,116])) .nil)) true) .nil))) (.cons (.exp (.aq (.at (.v .ae) .ai) .ak (.cons (.ck (.cons .aJ (.ix (.g .ag) (.c (.str [67,104,97,114,97,99,116,101,114,115]))) (.cons .af (.c (.str [65533])) .nil)) true) .nil))) (.cons (.asg (.at (.v .ae) .aC) (.at (.v .ae) .aQ)) .nil))) (.cons (.ite (.cmp (.v .af) (.cons .eq (.g .cT) .nil)) (.cons (.exp (.aq (.at (.v .ae) .ai) .ak (.cons (.ck (.cons .aJ (.ix (.g .ag) (.c (.str [80,97,114,115,101,69,114,114,111,114]))) (.cons .af (.c (.str [101,111,102,45,105,110,45,115,99,114,105,112,116,45,105,110,45,115,99,114,105,112,116])) .nil)) true) .nil))) (.cons (.asg (.at (.v .ae) .aC) (.at (.v .ae) .bU)) .nil)) (.cons (.exp (.aq (.at (.v .ae) .ai) .ak (.cons (.ck (.cons .aJ (.ix (.g .ag) (.c (.str [67,104,97,114,97,99,116,101,114,115]))) (.cons .af (.v .af) .nil)) true) .nil))) (.cons (.asg (.at (.v .ae) .aC) (.at (.v .ae) .aQ)) .nil))) .nil)) .nil)) .nil)) .nil)) (.cons (.ret (.c (.bool true))) .nil)))
noncomputable def Bp:List Nm:=[.ae]
noncomputable def A2:c4:=[(.ae,.loc),(.af,.loc),(.ag,.cS)]
noncomputable def AM:c5:=(.cons (.asg (.v .af) (.aq (.at (.v .ae) .aE) .bK .nil)) (.cons (.ite (.cmp (.v .af) (.cons .eq (.c (.str [47])) .nil)) (.cons (.exp (.aq (.at (.v .ae) .ai) .ak (.cons (.ck (.cons .aJ (.ix (.g .ag) (.c (.str [67,104,97,114,97,99,116,101,114,115]))) (.cons .af (.c (.str [47])) .nil)) true) .nil))) (.cons (.asg (.at (.v .ae) .aF) (.c (.str []))) (.cons (.asg (.at (.v .ae) .aC) (.at (.v .ae) .dG)) .nil))) (.cons (.exp (.aq (.at (.v .ae) .aE) .d5 (.cons (.v .af) .nil))) (.cons (.asg (.at (.v .ae) .aC) (.at (.v .ae) .aQ)) .nil))) (.cons (.ret (.c (.bool true))) .nil)))
noncomputable def Fy:List Nm:=[.ae]
noncomputable def Eo:c4:=[(.ae,.loc),(.af,.loc),(.aI,.cS),(.ag,.cS),(.aW,.cS)]
noncomputable def DP:c5:=(.cons (.asg (.v .af) (.aq (.at (.v .ae) .aE) .bK .nil)) (.cons (.ite (.cmp (.v .af) (.cons .isin (.bin .add (.g .aI) (.tup (.cons (.c (.str [47])) (.cons (.c (.str [62])) .nil)))) .nil)) (.cons (.exp (.aq (.at (.v .ae) .ai) .ak (.cons (.ck (.cons .aJ (.ix (.g .ag) (.c (.str [67,104,97,114,97,99,116,101,114,115]))) (.cons .af (.v .af) .nil)) true) .nil))) (.cons (.ite (.cmp (.aq (.at (.v .ae) .aF) .eW .nil) (.cons .eq (.c (.str [115,99,114,105,112,116])) .nil)) (.cons (.asg (.at (.v .ae) .aC) (.at (.v .ae) .aV)) .nil) (.cons (.asg (.at (.v .ae) .aC) (.at (.v .ae) .aQ)) .nil)) .nil)) (.cons (.ite (.cmp (.v .af) (.cons .isin (.g .aW) .nil)) (.cons (.exp (.aq (.at (.v .ae) .ai) .ak (.cons (.ck (.cons .aJ (.ix (.g .ag) (.c (.str [67,104,97,114,97,99,116,101,114,115]))) (.cons .af (.v .af) .nil)) true) .nil))) (.cons (.aug (.at (.v .ae) .aF) .add (.v .af)) .nil)) (.cons (.exp (.aq (.at (.v .ae) .aE) .d5 (.cons (.v .af) .nil))) (.cons (.asg (.at (.v .ae) .aC) (.at (.v .ae) .aQ)) .nil))) .nil)) (.cons (.ret (.c (.bool true))) .nil)))
noncomputable def Ki:List Nm:=[.ae]
noncomputable def Ju:c4:=[(.ae,.loc),(.af,.loc),(.aI,.cS),(.aW,.cS),(.ag,.cS),(.cT,.cS)]
noncomputable def Jg:c5:=(.cons (.asg (.v .af) (.aq (.at (.v .ae) .aE) .bK .nil)) (.cons (.ite (.cmp (.v .af) (.cons .isin (.g .aI) .nil)) (.cons (.exp (.aq (.at (.v .ae) .aE) .c8 (.cons (.g .aI) (.cons (.c (.bool true)) .nil)))) .nil) (.cons (.ite (.cmp (.v .af) (.cons .isin (.g .aW) .nil)) (.cons (.exp (.aq (.ix (.at (.v .ae) .aB) (.c (.str [100,97,116,97]))) .ak (.cons (.lst (.cons (.v .af) (.cons (.c (.str [])) .nil)) false) .nil))) (.cons (.asg (.at (.v .ae) .aC) (.at (.v .ae) .cU)) .nil)) (.cons (.ite (.cmp (.v .af) (.cons .eq (.c (.str [62])) .nil)) (.cons (.exp (.aq (.v .ae) .b4 .nil)) .nil) (.cons (.ite (.cmp (.v .af) (.cons .eq (.c (.str [47])) .nil)) (.cons (.asg (.at (.v .ae) .aC) (.at (.v .ae) .b5)) .nil) (.cons (.ite (.cmp (.v .af) (.cons .isin (.tup (.cons (.c (.str [39])) (.cons (.c (.str [34])) (.cons (.c (.str [61])) (.cons (.c (.str [60])) .nil))))) .nil)) (.cons (.exp (.aq (.at (.v .ae) .ai) .ak (.cons (.ck (.cons .aJ (.ix (.g .ag) (.c (.str [80,97,114,115,101,69,114,114,111,114]))) (.cons .af (.c (.str [105,110,118,97,108,105,100,45,99,104,97,114,97,99,116,101,114,45,105,110,45,97,116,116,114,105,98,117,116,101,45,110,97,109,101])) .nil)) true) .nil))) (.cons (.exp (.aq (.ix (.at (.v .ae) .aB) (.c (.str [100,97,116,97]))) .ak (.cons (.lst (.cons (.v .af) (.cons (.c (.str [])) .nil)) false) .nil))) (.cons (.asg (.at (.v .ae) .aC) (.at (.v .ae) .cU)) .nil))) (.cons (.ite (.cmp (.v .af) (.cons .eq (.c (.str [0])) .nil)) (.cons (.exp (.aq (.at (.v .ae) .ai) .ak (.cons (.ck (.cons .aJ (.ix (.g .ag) (.c (.str [80,97,114,115,101,69,114,114,111,114]))) (.cons .af (.c (.str [105,110,118,97,108,105,100,45,99,111,100,101,112,111,105,110,116])) .nil)) true) .nil))) (.cons (.exp (.aq (.ix (.at (.v .ae) .aB) (.c (.str [100,97,116,97]))) .ak (.cons (.lst (.cons (.c (.str [65533])) (.cons (.c (.str [])) .nil)) false) .nil))) (.cons (.asg (.at (.v .ae) .aC) (.at (.v .ae) .cU)) .nil))) (.cons (.ite (.cmp (.v .af) (.cons .is (.g .cT) .nil)) (.cons (.exp (.aq (.at (.v .ae) .ai) .ak (.cons (.ck (.cons .aJ (.ix (.g .ag) (.c (.str [80,97,114,115,101,69,114,114,111,114]))) (.cons .af (.c (.str [101,120,112,101,99,116,101,100,45,97,116,116,114,105,98,117,116,101,45,110,97,109,101,45,98,117,116,45,103,111,116,45,101,111,102])) .nil)) true) .nil))) (.cons (.asg (.at (.v .ae) .aC) (.at (.v .ae) .bU)) .nil)) (.cons (.exp (.aq (.ix (.at (.v .ae) .aB) (.c (.str [100,97,116,97]))) .ak (.cons (.lst (.cons (.v .af) (.cons (.c (.str [])) .nil)) false) .nil))) (.cons (.asg (.at (.v .ae) .aC) (.at (.v .ae) .cU)) .nil))) .nil)) .nil)) .nil)) .nil)) .nil)) .nil)) (.cons (.ret (.c (.bool true))) .nil)))
noncomputable def Px:List Nm:=[.ae]
noncomputable def N8:c4:=[(.ae,.loc),(.af,.loc),(.cn,.loc),(.iF,.loc),(.aW,.cS),(.aI,.cS),(.ag,.cS),(.cT,.cS),(.fX,.cS),(.aO,.loc),(.k__,.loc)]
noncomputable def NW:c5:=(.cons (.asg (.v .af) (.aq (.at (.v .ae) .aE) .bK .nil)) (.cons (.asg (.v .cn) (.c (.bool true))) (.cons (.asg (.v .iF) (.c (.bool false))) (.cons (.ite (.cmp (.v .af) (.cons .eq (.c (.str [61])) .nil)) (.cons (.asg (.at (.v .ae) .aC) (.at (.v .ae) .eH)) .nil) (.cons (.ite (.cmp (.v .af) (.cons .isin (.g .aW) .nil)) (.cons (.aug (.ix (.ix (.ix (.at (.v .ae) .aB) (.c (.str [100,97,116,97]))) (.neg (.c (.int 1)))) (.c (.int 0))) .add (.bin .add (.v .af) (.aq (.at (.v .ae) .aE) .c8 (.cons (.g .aW) (.cons (.c (.bool true)) .nil))))) (.cons (.asg (.v .cn) (.c (.bool false))) .nil)) (.cons (.ite (.cmp (.v .af) (.cons .eq (.c (.str [62])) .nil)) (.cons (.asg (.v .iF) (.c (.bool true))) .nil) (.cons (.ite (.cmp (.v .af) (.cons .isin (.g .aI) .nil)) (.cons (.asg (.at (.v .ae) .aC) (.at (.v .ae) .e8)) .nil) (.cons (.ite (.cmp (.v .af) (.cons .eq (.c (.str [47])) .nil)) (.cons (.asg (.at (.v .ae) .aC) (.at (.v .ae) .b5)) .nil) (.cons (.ite (.cmp (.v .af) (.cons .eq (.c (.str [0])) .nil)) (.cons (.exp (.aq (.at (.v .ae) .ai) .ak (.cons (.ck (.cons .aJ (.ix (.g .ag) (.c (.str [80,97,114,115,101,69,114,114,111,114]))) (.cons .af (.c (.str [105,110,118,97,108,105,100,45,99,111,100,101,112,111,105,110,116])) .nil)) true) .nil))) (.cons (.aug (.ix (.ix (.ix (.at (.v .ae) .aB) (.c (.str [100,97,116,97]))) (.neg (.c (.int 1)))) (.c (.int 0))) .add (.c (.str [65533]))) (.cons (.asg (.v .cn) (.c (.bool false))) .nil))) (.cons (.ite (.cmp (.v .af) (.cons .isin (.tup (.cons (.c (.str [39])) (.cons (.c (.str [34])) (.cons (.c (.str [60])) .nil)))) .nil)) (.cons (.exp (.aq (.at (.v .ae) .ai) .ak (.cons (.ck (.cons .aJ (.ix (.g .ag) (.c (.str [80,97,114,115,101,69,114,114,111,114]))) (.cons .af (.c (.str [105,110,118,97,108,105,100,45,99,104,97,114,97,99,116,101,114,45,105,110,45,97,116,116,114,105,98,117,116,101,45,110,97,109,101])) .nil)) true) .nil))) (.cons (.aug (.ix (.ix (.ix (.at (.v .ae) .aB) (.c (.str [100,97,116,97]))) (.neg (.c (.int 1)))) (.c (.int 0))) .add (.v .af)) (.cons (.asg (.v .cn) (.c (.bool false))) .nil))) (.cons (.ite (.cmp (.v .af) (.cons .is (.g .cT) .nil)) (.cons (.exp (.aq (.at (.v .ae) .ai) .ak (.cons (.ck (.cons .aJ (.ix (.g .ag) (.c (.str [80,97,114,115,101,69,114,114,111,114]))) (.cons .af (.c (.str [101,111,102,45,105,110,45,97,116,116,114,105,98,117,116,101,45,110,97,109,101])) .nil)) true) .nil))) (.cons (.asg (.at (.v .ae) .aC) (.at (.v .ae) .bU)) .nil)) (.cons (.aug (.ix (.ix (.ix (.at (.v .ae) .aB) (.c (.str [100,97,116,97]))) (.neg (.c (.int 1)))) (.c (.int 0))) .add (.v .af)) (.cons (.asg (.v .cn) (.c (.bool false))) .nil))) .nil)) .nil)) .nil)) .nil)) .nil)) .nil)) .nil)) (.cons (.ite (.v .cn) (.cons (.asg (.ix (.ix (.ix (.at (.v .ae) .aB) (.c (.str [100,97,116,97]))) (.neg (.c (.int 1)))) (.c (.int 0))) (.call (.g .fX) (.cons (.ix (.ix (.ix (.at (.v .ae) .aB) (.c (.str [100,97,116,97]))) (.neg (.c (.int 1)))) (.c (.int 0))) .nil))) (.cons (.fr [.aO,.k__] true (.sl (.ix (.at (.v .ae) .aB) (.c (.str [100,97,116,97]))) .no (.neg (.c (.int 1)))) (.cons (.ite (.cmp (.ix (.ix (.ix (.at (.v .ae) .aB) (.c (.str [100,97,116,97]))) (.neg (.c (.int 1)))) (.c (.int 0))) (.cons .eq (.v .aO) .nil)) (.cons (.exp (.aq (.at (.v .ae) .ai) .ak (.cons (.ck (.cons .aJ (.ix (.g .ag) (.c (.str [80,97,114,115,101,69,114,114,111,114]))) (.cons .af (.c (.str [100,117,112,108,105,99,97,116,101,45,97,116,116,114,105,98,117,116,101])) .nil)) true) .nil))) (.cons .brk .nil)) .nil) .nil)) (.cons (.ite (.v .iF) (.cons (.exp (.aq (.v .ae) .b4 .nil)) .nil) .nil) .nil))) .nil) (.cons (.ret (.c (.bool true))) .nil))))))
noncomputable def Kj:List Nm:=[.ae]
noncomputable def Jv:c4:=[(.ae,.loc),(.af,.loc),(.aI,.cS),(.ag,.cS),(.cT,.cS)]
noncomputable def Jh:c5:=(.cons (.asg (.v .af) (.aq (.at (.v .ae) .aE) .bK .nil)) (.cons (.ite (.cmp (.v .af) (.cons .isin (.g .aI) .nil)) (.cons (.exp (.aq (.at (.v .ae) .aE) .c8 (.cons (.g .aI) (.cons (.c (.bool true)) .nil)))) .nil) (.cons (.ite (.cmp (.v .af) (.cons .eq (.c (.str [34])) .nil)) (.cons (.asg (.at (.v .ae) .aC) (.at (.v .ae) .dy)) .nil) (.cons (.ite (.cmp (.v .af) (.cons .eq (.c (.str [38])) .nil)) (.cons (.asg (.at (.v .ae) .aC) (.at (.v .ae) .bP)) (.cons (.exp (.aq (.at (.v .ae) .aE) .d5 (.cons (.v .af) .nil))) .nil)) (.cons (.ite (.cmp (.v .af) (.cons .eq (.c (.str [39])) .nil)) (.cons (.asg (.at (.v .ae) .aC) (.at (.v .ae) .dz)) .nil) (.cons (.ite (.cmp (.v .af) (.cons .eq (.c (.str [62])) .nil)) (.cons (.exp (.aq (.at (.v .ae) .ai) .ak (.cons (.ck (.cons .aJ (.ix (.g .ag) (.c (.str [80,97,114,115,101,69,114,114,111,114]))) (.cons .af (.c (.str [101,120,112,101,99,116,101,100,45,97,116,116,114,105,98,117,116,101,45,118,97,108,117,101,45,98,117,116,45,103,111,116,45,114,105,103,104,116,45,98,114,97,99,107,101,116])) .nil)) true) .nil))) (.cons (.exp (.aq (.v .ae) .b4 .nil)) .nil)) (.cons (.ite (.cmp (.v .af) (.cons .eq (.c (.str [0])) .nil)) (.cons (.exp (.aq (.at (.v .ae) .ai) .ak (.cons (.ck (.cons .aJ (.ix (.g .ag) (.c (.str [80,97,114,115,101,69,114,114,111,114]))) (.cons .af (.c (.str [105,110,118,97,108,105,100,45,99,111,100,101,112,111,105,110,116])) .nil)) true) .nil))) (.cons (.aug (.ix (.ix (.ix (.at (.v .ae) .aB) (.c (.str [100,97,116,97]))) (.neg (.c (.int 1)))) (.c (.int 1))) .add (.c (.str [65533]))) (.cons (.asg (.at (.v .ae) .aC) (.at (.v .ae) .bP)) .nil))) (.cons (.ite (.cmp (.v .af) (.cons .isin (.tup (.cons (.c (.str [61])) (.cons (.c (.str [60])) (.cons (.c (.str [96])) .nil)))) .nil)) (.cons (.exp (.aq (.at (.v .ae) .ai) .ak (.cons (.ck (.cons .aJ (.ix (.g .ag) (.c (.str [80,97,114,115,101,69,114,114,111,114]))) (.cons .af (.c (.str [101,113,117,97,108,115,45,105,110,45,117,110,113,117,111,116,101,100,45,97,116,116,114,105,98,117,116,101,45,118,97,108,117,101])) .nil)) true) .nil))) (.cons (.aug (.ix (.ix (.ix (.at (.v .ae) .aB) (.c (.str [100,97,116,97]))) (.neg (.c (.int 1)))) (.c (.int 1))) .add (.v .af)) (.cons (.asg (.at (.v .ae) .aC) (.at (.v .ae) .bP)) .nil))) (.cons (.ite (.cmp (.v .af) (.cons .is (.g .cT) .nil)) (.cons (.exp (.aq (.at (.v .ae) .ai) .ak (.cons (.ck (.cons .aJ (.ix (.g .ag) (.c (.str [80,97,114,115,101,69,114,114,111,114]))) (.cons .af (.c (.str [101,120,112,101,99,116,101,100,45,97,116,116,114,105,98,117,116,101,45,118,97,108,117,101,45,98,117,116,45,103,111,116,45,101,111,102])) .nil)) true) .nil))) (.cons (.asg (.at (.v .ae) .aC) (.at (.v .ae) .bU)) .nil)) (.cons (.aug (.ix (.ix (.ix (.at (.v .ae) .aB) (.c (.str [100,97,116,97]))) (.neg (.c (.int 1)))) (.c (.int 1))) .add (.v .af)) (.cons (.asg (.at (.v .ae) .aC) (.at (.v .ae) .bP)) .nil))) .nil)) .nil)) .nil)) .nil)) .nil)) .nil)) .nil)) (.cons (.ret (.c (.bool true))) .nil)))
noncomputable def Kh:List Nm:=[.ae]
noncomputable def Jt:c4:=[(.ae,.loc),(.af,.loc),(.aI,.cS),(.ag,.cS),(.cT,.cS)]
noncomputable def Jf:c5:=(.cons (.asg (.v .af) (.aq (.at (.v .ae) .aE) .bK .nil)) (.cons (.ite (.cmp (.v .af) (.cons .isin (.g .aI) .nil)) (.cons (.asg (.at (.v .ae) .aC) (.at (.v .ae) .b0)) .nil) (.cons (.ite (.cmp (.v .af) (.cons .eq (.c (.str [38])) .nil)) (.cons (.exp (.aq (.v .ae) .eR (.cons (.c (.str [62])) .nil))) .nil) (.cons (.ite (.cmp (.v .af) (.cons .eq (.c (.str [62])) .nil)) (.cons (.exp (.aq (.v .ae) .b4 .nil)) .nil) (.cons (.ite (.cmp (.v .af) (.cons .isin (.tup (.cons (.c (.str [34])) (.cons (.c (.str [39])) (.cons (.c (.str [61])) (.cons (.c (.str [60])) (.cons (.c (.str [96])) .nil)))))) .nil)) (.cons (.exp (.aq (.at (.v .ae) .ai) .ak (.cons (.ck (.cons .aJ (.ix (.g .ag) (.c (.str [80,97,114,115,101,69,114,114,111,114]))) (.cons .af (.c (.str [117,110,101,120,112,101,99,116,101,100,45,99,104,97,114,97,99,116,101,114,45,105,110,45,117,110,113,117,111,116,101,100,45,97,116,116,114,105,98,117,116,101,45,118,97,108,117,101])) .nil)) true) .nil))) (.cons (.aug (.ix (.ix (.ix (.at (.v .ae) .aB) (.c (.str [100,97,116,97]))) (.neg (.c (.int 1)))) (.c (.int 1))) .add (.v .af)) .nil)) (.cons (.ite (.cmp (.v .af) (.cons .eq (.c (.str [0])) .nil)) (.cons (.exp (.aq (.at (.v .ae) .ai) .ak (.cons (.ck (.cons .aJ (.ix (.g .ag) (.c (.str [80,97,114,115,101,69,114,114,111,114]))) (.cons .af (.c (.str [105,110,118,97,108,105,100,45,99,111,100,101,112,111,105,110,116])) .nil)) true) .nil))) (.cons (.aug (.ix (.ix (.ix (.at (.v .ae) .aB) (.c (.str [100,97,116,97]))) (.neg (.c (.int 1)))) (.c (.int 1))) .add (.c (.str [65533]))) .nil)) (.cons (.ite (.cmp (.v .af) (.cons .is (.g .cT) .nil)) (.cons (.exp (.aq (.at (.v .ae) .ai) .ak (.cons (.ck (.cons .aJ (.ix (.g .ag) (.c (.str [80,97,114,115,101,69,114,114,111,114]))) (.cons .af (.c (.str [101,111,102,45,105,110,45,97,116,116,114,105,98,117,116,101,45,118,97,108,117,101,45,110,111,45,113,117,111,116,101,115])) .nil)) true) .nil))) (.cons (.asg (.at (.v .ae) .aC) (.at (.v .ae) .bU)) .nil)) (.cons (.aug (.ix (.ix (.ix (.at (.v .ae) .aB) (.c (.str [100,97,116,97]))) (.neg (.c (.int 1)))) (.c (.int 1))) .add (.bin .add (.v .af) (.aq (.at (.v .ae) .aE) .c8 (.cons (.bin .add (.tup (.cons (.c (.str [38])) (.cons (.c (.str [62])) (.cons (.c (.str [34])) (.cons (.c (.str [39])) (.cons (.c (.str [61])) (.cons (.c (.str [60])) (.cons (.c (.str [96])) (.cons (.c (.str [0])) .nil))))))))) (.g .aI)) .nil)))) .nil)) .nil)) .nil)) .nil)) .nil)) .nil)) (.cons (.ret (.c (.bool true))) .nil)))
noncomputable def Pz:List Nm:=[.ae]
noncomputable def N9:c4:=[(.ae,.loc),(.af,.loc),(.cT,.cS),(.ag,.cS)]
noncomputable def NX:c5:=(.cons (.asg (.v .af) (.aq (.at (.v .ae) .aE) .bK .nil)) (.cons (.ite (.cmp (.v .af) (.cons .eq (.c (.str [62])) .nil)) (.cons (.asg (.ix (.at (.v .ae) .aB) (.c (.str [115,101,108,102,67,108,111,115,105,110,103]))) (.c (.bool true))) (.cons (.exp (.aq (.v .ae) .b4 .nil)) .nil)) (.cons (.ite (.cmp (.v .af) (.cons .is (.g .cT) .nil)) (.cons (.exp (.aq (.at (.v .ae) .ai) .ak (.cons (.ck (.cons .aJ (.ix (.g .ag) (.c (.str [80,97,114,115,101,69,114,114,111,114]))) (.cons .af (.c (.str [117,110,101,120,112,101,99,116,101,100,45,69,79,70,45,97,102,116,101,114,45,115,111,108,105,100,117,115,45,105,110,45,116,97,103])) .nil)) true) .nil))) (.cons (.exp (.aq (.at (.v .ae) .aE) .d5 (.cons (.v .af) .nil))) (.cons (.asg (.at (.v .ae) .aC) (.at (.v .ae) .bU)) .nil))) (.cons (.exp (.aq (.at (.v .ae) .ai) .ak (.cons (.ck (.cons .aJ (.ix (.g .ag) (.c (.str [80,97,114,115,101,69,114,114,111,114]))) (.cons .af (.c (.str [117,110,101,120,112,101,99,116,101,100,45,99,104,97,114,97,99,116,101,114,45,97,102,116,101,114,45,115,111,108,105,100,117,115,45,105,110,45,116,97,103])) .nil)) true) .nil))) (.cons (.exp (.aq (.at (.v .ae) .aE) .d5 (.cons (.v .af) .nil))) (.cons (.asg (.at (.v .ae) .aC) (.at (.v .ae) .b0)) .nil)))) .nil)) (.cons (.ret (.c (.bool true))) .nil)))
noncomputable def Bk:List Nm:=[]
noncomputable def AW:c4:=[]
noncomputable def AI:c5:=(.cons (.ret (.lst (.cons (.c (.str [])) (.cons (.c (.str [117,32,118])) (.cons (.c (.str [10,32,119,62])) (.cons (.c (.str [32])) .nil)))) true)) .nil)
noncomputable def Bj:List Nm:=[.aj]
noncomputable def AU:c4:=[(.aj,.loc),(.a6,.loc),(.f6,.loc),(.dD,.loc),(.di,.loc)]
noncomputable def rj:c5:=(.cons (.asg (.v .a6) (.lst (.cons (.tup (.cons (.c (.int 1)) (.cons (.c (.int 0)) .nil))) .nil) false)) (.cons (.fr [.f6] false (.v .aj) (.cons (.iN [(.v .dD),(.v .di)] (.ix (.v .a6) (.neg (.c (.int 1))))) (.cons (.exp (.aq (.v .a6) .ak (.cons (.ite (.cmp (.v .f6) (.cons .eq (.c (.str [10])) .nil)) (.tup (.cons (.bin .add (.v .dD) (.c (.int 1))) (.cons (.c (.int 0)) .nil))) (.tup (.cons (.v .dD) (.cons (.bin .add (.v .di) (.c (.int 1))) .nil)))) .nil))) .nil))) (.cons (.ret (.v .a6)) .nil)))
noncomputable def Bl:List Nm:=[.xh,.af]
noncomputable def AX:c4:=[(.xh,.loc),(.af,.loc),(.ag,.cS)]
noncomputable def AJ:c5:=(.cons (.ret (.ck (.cons .aJ (.ix (.g .ag) (.v .xh)) (.cons .af (.v .af) .nil)) true)) .nil)
noncomputable def Fh:List Nm:=[.bc,.ah,.cJ,.iH]
noncomputable def Ec:c4:=[(.bc,.loc),(.ah,.loc),(.cJ,.loc),(.iH,.loc),(.b8,.loc),(.ba,.cS),(.fE,.loc),(.dK,.cS)]
noncomputable def DI:c5:=(.cons (.asg (.v .b8) (.call (.g .ba) (.cons (.v .bc) .nil))) (.cons (.asg (.v .fE) (.call (.g .ba) (.cons (.v .cJ) .nil))) (.cons (.nN (.cmp (.v .ah) (.cons .lt (.v .b8) .nil)) (.cons (.ite (.and (.cons (.cmp (.sl (.v .bc) (.v .ah) (.bin .add (.v .ah) (.v .fE))) (.cons .eq (.v .cJ) .nil)) (.cons (.or (.cons (.not (.v .iH)) (.cons (.cmp (.sl (.v .bc) (.bin .add (.v .ah) (.v .fE)) (.bin .add (.bin .add (.v .ah) (.v .fE)) (.c (.int 1)))) (.cons .isin (.g .dK) .nil)) .nil))) .nil))) (.cons (.ret (.v .ah)) .nil) .nil) (.cons (.aug (.v .ah) .add (.c (.int 1))) .nil))) (.cons (.ret (.v .ah)) .nil))))
noncomputable def Bh:List Nm:=[.aj,.aO]
noncomputable def AS:c4:=[(.aj,.loc),(.aO,.loc),(.bc,.loc),(.b8,.loc),(.ba,.cS),(.ah,.loc),(.dM,.loc),(.bz,.cS),(.aP,.loc),(.cL,.loc),(.bL,.loc),(.cJ,.loc),(.dc,.loc),(.pg,.cS)]
noncomputable def mN:c5:=(.cons (.asg (.v .bc) (.aq (.v .aj) .eW .nil)) (.cons (.asg (.v .b8) (.call (.g .ba) (.cons (.v .aj) .nil))) (.cons (.asg (.v .ah) (.c (.int 0))) (.cons (.nN (.c (.bool true)) (.cons (.asg (.v .dM) (.call (.g .bz) (.cons (.v .bc) (.cons (.v .ah) (.cons (.c (.str [60,33,45,45])) (.cons (.c (.bool false)) .nil)))))) (.cons (.asg (.v .aP) (.ite (.v .aO) (.call (.g .bz) (.cons (.v .bc) (.cons (.v .ah) (.cons (.bin .add (.c (.str [60,47])) (.v .aO)) (.cons (.c (.bool true)) .nil))))) (.v .b8))) (.cons (.ite (.cmp (.v .aP) (.cons .le (.v .dM) .nil)) (.cons (.ret (.tup (.cons (.v .aP) (.cons (.c (.bool false)) .nil)))) .nil) .nil) (.cons (.asg (.v .cL) (.call (.g .bz) (.cons (.v .bc) (.cons (.bin .add (.v .dM) (.c (.int 2))) (.cons (.c (.str [45,45,62])) (.cons (.c (.bool false)) .nil)))))) (.cons (.asg (.v .ah) (.bin .add (.v .dM) (.c (.int 4)))) (.cons (.asg (.v .bL) (.c (.bool false))) (.cons (.nN (.c (.bool true)) (.cons (.asg (.v .cJ) (.ite (.v .bL) (.c (.str [60,47,115,99,114,105,112,116])) (.c (.str [60,115,99,114,105,112,116])))) (.cons (.asg (.v .dc) (.call (.g .bz) (.cons (.v .bc) (.cons (.v .ah) (.cons (.v .cJ) (.cons (.c (.bool true)) .nil)))))) (.cons (.asg (.v .aP) (.ite (.and (.cons (.v .aO) (.cons (.not (.v .bL)) .nil))) (.call (.g .bz) (.cons (.v .bc) (.cons (.v .ah) (.cons (.bin .add (.c (.str [60,47])) (.v .aO)) (.cons (.c (.bool true)) .nil))))) (.v .b8))) (.cons (.ite (.cmp (.v .aP) (.cons .lt (.call (.g .pg) (.cons (.v .cL) (.cons (.v .dc) .nil))) .nil)) (.cons (.ret (.tup (.cons (.v .aP) (.cons (.c (.bool false)) .nil)))) .nil) .nil) (.cons (.ite (.cmp (.v .dc) (.cons .ge (.v .cL) .nil)) (.cons .brk .nil) .nil) (.cons (.asg (.v .ah) (.bin .add (.bin .add (.v .dc) (.call (.g .ba) (.cons (.v .cJ) .nil))) (.c (.int 1)))) (.cons (.asg (.v .bL) (.not (.v .bL))) .nil)))))))) (.cons (.ite (.cmp (.v .cL) (.cons .eq (.v .b8) .nil)) (.cons (.ret (.tup (.cons (.v .b8) (.cons (.v .bL) .nil)))) .nil) .nil) (.cons (.asg (.v .ah) (.bin .add (.v .cL) (.c (.int 3)))) .nil)))))))))) .nil))))
noncomputable def kn:c5:=(.cons (.asg (.v .dI) (.call (.g .u7) (.cons (.sl (.v .cW) .no (.c (.int 14))) .nil))) (.cons (.asg (.v .aO) (.ix (.lst (.cons (.c (.str [115,99,114,105,112,116])) (.cons (.c (.str [98])) (.cons (.c (.str [])) .nil))) true) (.bin .mod (.v .dI) (.c (.int 3))))) (.cons (.iN [(.v .fY),(.v .eP),(.v .dS),(.v .gI)] (.ix (.g .eO) (.bin .mod (.bin .fdiv (.v .dI) (.c (.int 3))) (.c (.int 6))))) (.cons (.asg (.v .ib) (.ix (.call (.g .fU) .nil) (.bin .mod (.bin .fdiv (.v .dI) (.c (.int 18))) (.c (.int 4))))) (.cons (.asg (.v .aj) (.aq (.c (.str [])) .gJ (.cons (.comp [(.xi,.loc),(.cR,.cS)] (.ix (.g .cR) (.bin .mod (.v .xi) (.c (.int 24)))) [.xi] (.sl (.v .cW) .no (.c (.int 14))) .nil) .nil))) (.cons (.iN [(.v .aP),(.v .bL)] (.call (.g .fV) (.cons (.v .aj) (.cons (.v .aO) .nil)))) (.cons (.asg (.v .bh) (.lst .nil false)) (.cons (.ite (.v .bL) (.cons (.exp (.aq (.v .bh) .ak (.cons (.tup (.cons (.v .aP) (.cons (.call (.g .bx) (.cons (.c (.str [80,97,114,115,101,69,114,114,111,114])) (.cons (.c (.str [101,111,102,45,105,110,45,115,99,114,105,112,116,45,105,110,45,115,99,114,105,112,116])) .nil))) .nil))) .nil))) .nil) .nil) (.cons (.ite (.cmp (.v .aP) (.cons .lt (.call (.g .ba) (.cons (.v .aj) .nil)) .nil)) (.cons (.asg (.v .ah) (.bin .add (.bin .add (.v .aP) (.c (.int 2))) (.call (.g .ba) (.cons (.v .aO) .nil)))) (.cons (.asg (.v .aj) (.bin .add (.sl (.v .aj) .no (.v .ah)) (.v .fY))) (.cons (.fr [.eB,.dx] true (.v .eP) (.cons (.exp (.aq (.v .bh) .ak (.cons (.tup (.cons (.bin .add (.v .ah) (.v .eB)) (.cons (.call (.g .bx) (.cons (.c (.str [80,97,114,115,101,69,114,114,111,114])) (.cons (.v .dx) .nil))) .nil))) .nil))) .nil)) (.cons (.ite (.cmp (.v .dS) (.cons .isn (.c .none) .nil)) (.cons (.asg (.v .ah) (.call (.g .ba) (.cons (.v .aj) .nil))) (.cons (.exp (.aq (.v .bh) .ak (.cons (.tup (.cons (.v .ah) (.cons (.ck (.cons .aJ (.ix (.g .ag) (.c (.str [69,110,100,84,97,103]))) (.cons .aO (.v .aO) (.cons .af (.v .dS) (.cons .bT (.v .gI) .nil)))) true) .nil))) .nil))) (.cons (.aug (.v .aj) .add (.v .ib)) (.cons (.asg (.v .aZ) (.v .ah)) (.cons (.nN (.and (.cons (.cmp (.v .aZ) (.cons .lt (.call (.g .ba) (.cons (.v .aj) .nil)) .nil)) (.cons (.cmp (.ix (.v .aj) (.v .aZ)) (.cons .isin (.tup (.cons (.c (.str [32])) (.cons (.c (.str [10])) .nil))) .nil)) .nil))) (.cons (.aug (.v .aZ) .add (.c (.int 1))) .nil)) (.cons (.ite (.cmp (.v .aZ) (.cons .gt (.v .ah) .nil)) (.cons (.exp (.aq (.v .bh) .ak (.cons (.tup (.cons (.v .aZ) (.cons (.call (.g .bx) (.cons (.c (.str [83,112,97,99,101,67,104,97,114,97,99,116,101,114,115])) (.cons (.sl (.v .aj) (.v .ah) (.v .aZ)) .nil))) .nil))) .nil))) .nil) .nil) (.cons (.ite (.cmp (.v .aZ) (.cons .lt (.call (.g .ba) (.cons (.v .aj) .nil)) .nil)) (.cons (.exp (.aq (.v .bh) .ak (.cons (.tup (.cons (.call (.g .ba) (.cons (.v .aj) .nil)) (.cons (.call (.g .bx) (.cons (.c (.str [67,104,97,114,97,99,116,101,114,115])) (.cons (.sl (.v .aj) (.v .aZ) .no) .nil))) .nil))) .nil))) .nil) .nil) .nil))))))) .nil) .nil)))) .nil) (.cons (.asg (.v .a6) (.call (.g .fW) (.cons (.v .aj) .nil))) (.cons (.asg (.v .aN) (.call (.g .d8) (.cons (.v .aj) .nil))) (.cons (.asg (.at (.v .aN) .aC) (.at (.v .aN) .bF)) (.cons (.ite (.v .aO) (.cons (.asg (.at (.v .aN) .aB) (.ck (.cons .aJ (.ix (.g .ag) (.c (.str [83,116,97,114,116,84,97,103]))) (.cons .aO (.v .aO) (.cons .af (.lst .nil true) .nil))) false)) .nil) .nil) (.cons (.asg (.v .e9) (.lst .nil false)) .nil))))))))))))))
noncomputable def nZ:c5:=(.cons (.ite (.and (.cons (.cmp (.ix (.v .aD) (.c (.str [116,121,112,101]))) (.cons .eq (.ix (.g .ag) (.c (.str [69,110,100,84,97,103]))) .nil)) (.cons (.not (.call (.g .f5) (.cons (.ix (.v .aD) (.c (.str [115,101,108,102,67,108,111,115,105,110,103]))) (.cons (.g .o9) .nil)))) .nil))) (.cons (.ret (.c (.bool false))) .nil) .nil) (.cons (.exp (.aq (.v .e9) .ak (.cons (.tup (.cons (.aq (.at (.v .aN) .aE) .dk .nil) (.cons (.v .aD) .nil))) .nil))) .nil))
noncomputable def n5:c5:=(.cons (.asg (.v .fI) (.call (.g .rp) (.cons (.c (.int 0)) (.cons (.bin .sub (.call (.g .ba) (.cons (.v .e9) .nil)) (.call (.g .ba) (.cons (.v .bh) .nil))) .nil)))) (.cons (.asg (.v .a8) (.c (.str []))) (.cons (.fr [.dv,.aD] true (.sl (.v .e9) .no (.v .fI)) (.cons (.ite (.or (.cons (.cmp (.v .aD) (.cons .ne (.call (.g .bx) (.cons (.c (.str [67,104,97,114,97,99,116,101,114,115])) (.cons (.ix (.v .aD) (.c (.str [100,97,116,97]))) .nil))) .nil)) (.cons (.cmp (.ix (.v .aD) (.c (.str [100,97,116,97]))) (.cons .eq (.c (.str [])) .nil)) .nil))) (.cons (.ret (.c (.bool false))) .nil) .nil) (.cons (.aug (.v .a8) .add (.ix (.v .aD) (.c (.str [100,97,116,97])))) (.cons (.ite (.or (.cons (.cmp (.call (.g .ba) (.cons (.v .a8) .nil)) (.cons .gt (.call (.g .ba) (.cons (.v .aj) .nil)) .nil)) (.cons (.cmp (.v .dv) (.cons .ne (.ix (.v .a6) (.call (.g .ba) (.cons (.v .a8) .nil))) .nil)) .nil))) (.cons (.ret (.c (.bool false))) .nil) .nil) .nil)))) (.cons (.ret (.and (.cons (.cmp (.v .a8) (.cons .eq (.sl (.v .aj) .no (.v .aP)) .nil)) (.cons (.cmp (.sl (.v .e9) (.v .fI) .no) (.cons .eq (.comp [(.ah,.loc),(.aD,.loc),(.a6,.qt)] (.tup (.cons (.ix (.v .a6) (.v .ah)) (.cons (.v .aD) .nil))) [.ah,.aD] (.v .bh) .nil) .nil)) (.cons (.cmp (.aq (.at (.v .aN) .aE) .dk .nil) (.cons .eq (.ix (.v .a6) (.call (.g .ba) (.cons (.v .aj) .nil))) .nil)) .nil))))) .nil))))
noncomputable def Pw:List Nm:=[.cW]
noncomputable def N7:c4:=[(.cW,.loc),(.dI,.loc),(.u7,.cS),(.aO,.loc),(.fY,.loc),(.eP,.loc),(.dS,.loc),(.gI,.loc),(.eO,.cS),(.ib,.loc),(.fU,.cS),(.aj,.loc),(.aP,.loc),(.bL,.loc),(.fV,.cS),(.bh,.loc),(.bx,.cS),(.ba,.cS),(.ah,.loc),(.eB,.loc),(.dx,.loc),(.ag,.cS),(.aZ,.loc),(.a6,.qt),(.fW,.cS),(.aN,.loc),(.d8,.cS),(.e9,.loc),(.aD,.loc),(.f5,.cS),(.o9,.cS),(.fI,.loc),(.rp,.cS),(.a8,.loc),(.dv,.loc)]
noncomputable def NV:c5:=f7 kn (.cons (.fr [.aD] false (.v .aN) nZ) n5)
noncomputable def ly:fF:=⟨qK,[],qI,qG⟩
noncomputable def qX:fF:=⟨xx,[],xj,xc⟩
noncomputable def iZ:fF:=⟨xy,[],xk,kZ⟩
noncomputable def jW:fF:=⟨td,[],sJ,sD⟩
noncomputable def yt:fF:=⟨Fo,[],Eg,uX⟩
noncomputable def uA:fF:=⟨Bm,[],AY,AK⟩
noncomputable def yu:fF:=⟨Fp,[],Eh,DJ⟩
noncomputable def jx:fF:=⟨Fq,[],Ei,jZ⟩
noncomputable def CN:fF:=⟨Kg,[],Js,sE⟩
noncomputable def lB:fF:=⟨Fi,[],Ee,fS⟩
noncomputable def nU:fF:=⟨Fs,[.none],Ej,fT⟩
noncomputable def yr:fF:=⟨Fj,[],Ef,o4⟩
noncomputable def oK:fF:=⟨kq,[(.bool false)],A0,mP⟩
noncomputable def oJ:fF:=⟨Bn,[],AZ,mO⟩
noncomputable def yx:fF:=⟨Fv,[.none],Em,DM⟩
noncomputable def XY:fF:=⟨Fw,[],ve,DN⟩
noncomputable def yw:fF:=⟨Fu,[],El,DL⟩
noncomputable def yv:fF:=⟨Ft,[],Ek,DK⟩
noncomputable def RQ:fF:=⟨WI,[],Sq,Lk⟩
noncomputable def CX:fF:=⟨Kq,[],JB,Jm⟩
noncomputable def CV:fF:=⟨Kn,[],Jz,Jk⟩
noncomputable def CU:fF:=⟨Km,[],Jy,eU⟩
noncomputable def CW:fF:=⟨Ko,[],JA,Jl⟩
noncomputable def yF:fF:=⟨FI,[],Ew,DU⟩
noncomputable def Lh:fF:=⟨PA,[],Oa,NY⟩
noncomputable def CT:fF:=⟨Kl,[],Jx,Jj⟩
noncomputable def yB:fF:=⟨FA,[],Er,DR⟩
noncomputable def yE:fF:=⟨FH,[],Eu,DT⟩
noncomputable def yD:fF:=⟨FG,[],Et,DS⟩
noncomputable def yC:fF:=⟨FC,[],Es,dU⟩
noncomputable def yA:fF:=⟨Fz,[],Ep,DQ⟩
noncomputable def CS:fF:=⟨Kk,[],Jw,Ji⟩
noncomputable def yy:fF:=⟨Fx,[],En,DO⟩
noncomputable def uB:fF:=⟨Bo,[],A1,AL⟩
noncomputable def uC:fF:=⟨Bp,[],A2,AM⟩
noncomputable def yz:fF:=⟨Fy,[],Eo,DP⟩
noncomputable def CQ:fF:=⟨Ki,[],Ju,Jg⟩
noncomputable def Ld:fF:=⟨Px,[],N8,NW⟩
noncomputable def CR:fF:=⟨Kj,[],Jv,Jh⟩
noncomputable def CO:fF:=⟨Kh,[],Jt,Jf⟩
noncomputable def Lf:fF:=⟨Pz,[],N9,NX⟩
noncomputable def uy:fF:=⟨Bk,[],AW,AI⟩
noncomputable def oI:fF:=⟨Bj,[],AU,rj⟩
noncomputable def uz:fF:=⟨Bl,[],AX,AJ⟩
noncomputable def rX:fF:=⟨Fh,[],Ec,DI⟩
noncomputable def lA:fF:=⟨Bh,[],AS,mN⟩
noncomputable def RP:fF:=⟨Pw,[],N7,NV⟩
theorem oV (w:World):gP (SS w) .ju ly:=bA (by kernel_rfl) (pB rfl (cj λ_=>c7 λ_=>by kernel_rfl))
theorem uR (w:World):gP (SS w) .oq qX:=bA (by kernel_rfl) (pB rfl (cj λ_=>cj λ_=>c7 λ_=>by kernel_rfl))
theorem uS (w:World):gP (SS w) .iM iZ:=bA (by kernel_rfl) (pB rfl (cj λ_=>cj λ_=>c7 λ_=>by kernel_rfl))
theorem qF (w:World):gP (SS w) .g8 jW:=bA (by kernel_rfl) (pB rfl (cj λ_=>c7 λ_=>by kernel_rfl))
theorem Aq (w:World):gP (SS w) .zt yt:=bA (by kernel_rfl) (pB rfl (cj λ_=>cj λ_=>c7 λ_=>by kernel_rfl))
theorem w7 (w:World):gP (SS w) .tf uA:=bA (by kernel_rfl) (pB rfl (cj λ_=>c7 λ_=>by kernel_rfl))
theorem Ar (w:World):gP (SS w) .zu yu:=bA (by kernel_rfl) (pB rfl (cj λ_=>cj λ_=>c7 λ_=>by kernel_rfl))
theorem As (w:World):gP (SS w) .jl jx:=bA (by kernel_rfl) (pB rfl (cj λ_=>cj λ_=>c7 λ_=>by kernel_rfl))
theorem Dt (w:World):gP (SS w) .lZ CN:=bA (by kernel_rfl) (pB rfl (cj λ_=>c7 λ_=>by kernel_rfl))
theorem jc (w:World):gP (SS w) .ip lB:=bA (by kernel_rfl) (pB rfl (cj λ_=>c7 λ_=>by kernel_rfl))
theorem km (w:World):gP (SS w) .iL nU:=bA (by kernel_rfl) (dB rfl rfl (cj λ_=>cj λ_=>c7 λ_=>by kernel_rfl) (cj λ_=>c7 λ_=>by kernel_rfl))
theorem rh (w:World):gP (SS w) .jk yr:=bA (by kernel_rfl) (pB rfl (cj λ_=>cj λ_=>c7 λ_=>by kernel_rfl))
theorem oX (w:World):gP (SS w) .pU oK:=bA (by kernel_rfl) (dB rfl rfl (cj λ_=>cj λ_=>cj λ_=>c7 λ_=>by kernel_rfl) (cj λ_=>cj λ_=>c7 λ_=>by kernel_rfl))
theorem oW (w:World):gP (SS w) .pT oJ:=bA (by kernel_rfl) (pB rfl (cj λ_=>cj λ_=>c7 λ_=>by kernel_rfl))
theorem Aw (w:World):gP (SS w) .wa yx:=bA (by kernel_rfl) (dB rfl rfl (cj λ_=>cj λ_=>cj λ_=>c7 λ_=>by kernel_rfl) (cj λ_=>cj λ_=>c7 λ_=>by kernel_rfl))
theorem Av (w:World):gP (SS w) .zD yw:=bA (by kernel_rfl) (pB rfl (cj λ_=>c7 λ_=>by kernel_rfl))
theorem Au (w:World):gP (SS w) .bw yv:=bA (by kernel_rfl) (pB rfl (cj λ_=>c7 λ_=>by kernel_rfl))
theorem NP (w:World):gP (SS w) .tS RQ:=bA (by kernel_rfl) (pB rfl (cj λ_=>c7 λ_=>by kernel_rfl))
theorem DC (w:World):gP (SS w) .tSLt CX:=bA (by kernel_rfl) (pB rfl (cj λ_=>c7 λ_=>by kernel_rfl))
theorem DA (w:World):gP (SS w) .tSEO CV:=bA (by kernel_rfl) (pB rfl (cj λ_=>c7 λ_=>by kernel_rfl))
theorem Dz (w:World):gP (SS w) .tSEN CU:=bA (by kernel_rfl) (pB rfl (cj λ_=>c7 λ_=>by kernel_rfl))
theorem DB (w:World):gP (SS w) .tSES CW:=bA (by kernel_rfl) (pB rfl (cj λ_=>c7 λ_=>by kernel_rfl))
theorem AG (w:World):gP (SS w) .tSESD yF:=bA (by kernel_rfl) (pB rfl (cj λ_=>c7 λ_=>by kernel_rfl))
theorem I9 (w:World):gP (SS w) .tSE Lh:=bA (by kernel_rfl) (pB rfl (cj λ_=>c7 λ_=>by kernel_rfl))
theorem Dy (w:World):gP (SS w) .tSED CT:=bA (by kernel_rfl) (pB rfl (cj λ_=>c7 λ_=>by kernel_rfl))
theorem AA (w:World):gP (SS w) .tSEDD yB:=bA (by kernel_rfl) (pB rfl (cj λ_=>c7 λ_=>by kernel_rfl))
theorem AF (w:World):gP (SS w) .tSELt yE:=bA (by kernel_rfl) (pB rfl (cj λ_=>c7 λ_=>by kernel_rfl))
theorem AD (w:World):gP (SS w) .tSEEO yD:=bA (by kernel_rfl) (pB rfl (cj λ_=>c7 λ_=>by kernel_rfl))
theorem AB (w:World):gP (SS w) .tSEEN yC:=bA (by kernel_rfl) (pB rfl (cj λ_=>c7 λ_=>by kernel_rfl))
theorem Az (w:World):gP (SS w) .tSDES yA:=bA (by kernel_rfl) (pB rfl (cj λ_=>c7 λ_=>by kernel_rfl))
theorem Dx (w:World):gP (SS w) .tSDE CS:=bA (by kernel_rfl) (pB rfl (cj λ_=>c7 λ_=>by kernel_rfl))
theorem Ax (w:World):gP (SS w) .tSDED yy:=bA (by kernel_rfl) (pB rfl (cj λ_=>c7 λ_=>by kernel_rfl))
theorem w8 (w:World):gP (SS w) .bG uB:=bA (by kernel_rfl) (pB rfl (cj λ_=>c7 λ_=>by kernel_rfl))
theorem w9 (w:World):gP (SS w) .bB uC:=bA (by kernel_rfl) (pB rfl (cj λ_=>c7 λ_=>by kernel_rfl))
theorem Ay (w:World):gP (SS w) .tSDEE yz:=bA (by kernel_rfl) (pB rfl (cj λ_=>c7 λ_=>by kernel_rfl))
theorem Dv (w:World):gP (SS w) .jC CQ:=bA (by kernel_rfl) (pB rfl (cj λ_=>c7 λ_=>by kernel_rfl))
theorem I7 (w:World):gP (SS w) .tAN Ld:=bA (by kernel_rfl) (pB rfl (cj λ_=>c7 λ_=>by kernel_rfl))
theorem Dw (w:World):gP (SS w) .BB CR:=bA (by kernel_rfl) (pB rfl (cj λ_=>c7 λ_=>by kernel_rfl))
theorem Du (w:World):gP (SS w) .BA CO:=bA (by kernel_rfl) (pB rfl (cj λ_=>c7 λ_=>by kernel_rfl))
theorem I8 (w:World):gP (SS w) .BN Lf:=bA (by kernel_rfl) (pB rfl (cj λ_=>c7 λ_=>by kernel_rfl))
theorem w5 (w:World):gP (SS w) .mU uy:=bA (by kernel_rfl) (pB rfl (c7 λ_=>by kernel_rfl))
theorem w4 (w:World):gP (SS w) .pq oI:=bA (by kernel_rfl) (pB rfl (cj λ_=>c7 λ_=>by kernel_rfl))
theorem w6 (w:World):gP (SS w) .iT uz:=bA (by kernel_rfl) (pB rfl (cj λ_=>cj λ_=>c7 λ_=>by kernel_rfl))
theorem Ap (w:World):gP (SS w) .lSeek rX:=bA (by kernel_rfl) (pB rfl (cj λ_=>cj λ_=>cj λ_=>cj λ_=>c7 λ_=>by kernel_rfl))
theorem w0 (w:World):gP (SS w) .lClose lA:=bA (by kernel_rfl) (pB rfl (cj λ_=>cj λ_=>c7 λ_=>by kernel_rfl))
theorem I6 (w:World):gP (SS w) .law RP:=bA (by kernel_rfl) (pB rfl (cj λ_=>c7 λ_=>by kernel_rfl))
noncomputable def gl:List (Nm×AV):=[(.cT,.none),(.d8,(.cls .tok)),(.dJ,(.cls .ay)),(.xg,(.cls .txt)),(.fk,(.fn .g8)),(.dK,(.tup [(.str [32]),(.str [10]),(.str [47]),(.str [62])])),(.eO,(.lst [(.tup [(.str [62]),(.lst []),(.lst []),(.bool false)]),(.tup [(.str [32,62]),(.lst []),(.lst []),(.bool false)]),(.tup [(.str [47,62]),(.lst [(.tup [(.int 2),(.str [115,101,108,102,45,99,108,111,115,105,110,103,45,102,108,97,103,45,111,110,45,101,110,100,45,116,97,103])])]),(.lst []),(.bool true)]),(.tup [(.str [10,107,61,49,62]),(.lst [(.tup [(.int 5),(.str [97,116,116,114,105,98,117,116,101,115,45,105,110,45,101,110,100,45,116,97,103])])]),(.lst [(.lst [(.str [107]),(.str [49])])]),(.bool false)]),(.tup [(.str [47,32,62]),(.lst [(.tup [(.int 1),(.str [117,110,101,120,112,101,99,116,101,100,45,99,104,97,114,97,99,116,101,114,45,97,102,116,101,114,45,115,111,108,105,100,117,115,45,105,110,45,116,97,103])])]),(.lst []),(.bool false)]),(.tup [(.str [32]),(.lst [(.tup [(.int 1),(.str [101,120,112,101,99,116,101,100,45,97,116,116,114,105,98,117,116,101,45,110,97,109,101,45,98,117,116,45,103,111,116,45,101,111,102])])]),.none,(.bool false)])])),(.cR,(.lst [(.str [60,33,45,45]),(.str [45,45,62]),(.str [60,115,99,114,105,112,116,62]),(.str [60,47,115,99,114,105,112,116,62]),(.str [60,83,67,82,73,80,84,32]),(.str [60,47,83,99,82,105,112,116,47]),(.str [45]),(.str [60]),(.str [60,47]),(.str [62]),(.str [97]),(.str [32]),(.str [10]),(.str [33]),(.str [60,47,98,62]),(.str [60,98,32]),(.str [38,108,116,59]),(.str [60,33,45]),(.str [45,45]),(.str [115,99,114,105,112,116]),(.str [47]),(.str [233]),(.str [45,45,33,62]),(.str [60,47,115,99,114,105,112,116])])),(.fU,(.fn .mU)),(.fV,(.fn .lClose)),(.fW,(.fn .pq)),(.bz,(.fn .lSeek)),(.bx,(.fn .iT)),(.aW,(.tup [(.str [97]),(.str [98]),(.str [99]),(.str [100]),(.str [101]),(.str [102]),(.str [103]),(.str [104]),(.str [105]),(.str [106]),(.str [107]),(.str [108]),(.str [109]),(.str [110]),(.str [111]),(.str [112]),(.str [113]),(.str [114]),(.str [115]),(.str [116]),(.str [117]),(.str [118]),(.str [119]),(.str [120]),(.str [121]),(.str [122]),(.str [65]),(.str [66]),(.str [67]),(.str [68]),(.str [69]),(.str [70]),(.str [71]),(.str [72]),(.str [73]),(.str [74]),(.str [75]),(.str [76]),(.str [77]),(.str [78]),(.str [79]),(.str [80]),(.str [81]),(.str [82]),(.str [83]),(.str [84]),(.str [85]),(.str [86]),(.str [87]),(.str [88]),(.str [89]),(.str [90])])),(.fX,(.fn .ju)),(.o9,.bi .bool),(.nB,.bi .chr),(.f5,.bi .mQ),(.ba,.bi .len),(.rp,.bi .max),(.pg,.bi .min),(.hW,.bi .ord),(.aI,(.tup [(.str [9]),(.str [10]),(.str [12]),(.str [32]),(.str [13])])),(.u7,.bi .sum),(.gK,(.tup [(.int 3),(.int 4),(.int 5)])),(.ag,(.ck [(.rn,(.int 0)),(.lM,(.int 1)),(.iE,(.int 2)),(.o8,(.int 3)),(.u6,(.int 4)),(.o7,(.int 5)),(.rm,(.int 6)),(.lN,(.int 7))]))]
noncomputable def OF:List (Nm×Fn):=[(.D8,.iM)]
noncomputable def Nv:List (Nm×AV):=[]
noncomputable def JW:List (Nm×Fn):=[(.y5,.tf),(.lQ,.zu),(.gu,.jl),(.dk,.lZ),(.bK,.ip),(.gx,.iL),(.gb,.jk),(.c8,.pU),(.d5,.pT)]
noncomputable def Ip:List (Nm×AV):=[(.gR,.int 10240)]
noncomputable def OE:List (Nm×Fn):=[(.eR,.zp),(.b4,.zD),(.bU,.bw),(.iG,.tEnt),(.qH,.tRc),(.gH,.tCRR),(.pk,.Xa),(.bF,.tS),(.mR,.Gq),(.j5,.wb),(.iz,.LW),(.jg,.LV),(.jf,.LU),(.ia,.Gu),(.iS,.Gs),(.iR,.Gr),(.dY,.tSLt),(.eJ,.tSEO),(.eI,.tSEN),(.eh,.tSES),(.dH,.tSESD),(.aV,.tSE),(.ej,.tSED),(.cK,.tSEDD),(.bJ,.tSELt),(.du,.tSEEO),(.dq,.tSEEN),(.dm,.tSDES),(.aQ,.tSDE),(.dn,.tSDED),(.cX,.bG),(.bj,.bB),(.dG,.tSDEE),(.b0,.jC),(.cU,.tAN),(.e8,.tAAN),(.eH,.BB),(.dy,.tADQ),(.dz,.tASQ),(.bP,.BA),(.b5,.BN)]
noncomputable def Nu:List (Nm×AV):=[]
theorem IY (w:World) :∃fd st0 t1 t2 t3 y4 b2 p1 p2 p3 yp ep,jr (SS w) fd ve st0 t1 t2 t3 y4 b2 p1 p2 p3 yp ep:=wZ (by kernel_rfl) (λ_ _=>by kernel_rfl)
noncomputable def alpha:List Nat:=[10,32,33,38,45,47,49,59,60,61,62,67,73,80,82,83,84,97,98,99,105,107,108,112,114,115,116,117,118,119,233]
noncomputable def G0:cy where
 call:=λ_ _ _=>none
 glob:=λx=>lk gl x
 bD:=λc a=>match c with|.txt=>lk OF a|.ay=>lk JW a|.tok=>lk OE a
 cP:=λc a=>match c with|.txt=>lk Nv a|.ay=>lk Ip a|.tok=>lk Nu a
 init:=λc=>match c with|.txt=>.oq|.ay=>.zt|.tok=>.wa
 fuel:=2000001
theorem CZ (P:Params):tY P (q9 (KK P)):=⟨by kernel_rfl,by kernel_rfl⟩
theorem Od (P:Params) (h:Heap) (I:(KK P).In h):h.NoLimit:=
 have N:=Heap.Ns.of_isNs (isNs_of_in I (N:=cStatics) (by kernel_rfl))
 ⟨_,N,ns_none_of I N (by kernel_rfl)⟩
theorem IZ (w:World):x4 (SS w) G0 gl where
 call:=λ_ _ _=>rfl
 glob:=λ_=>rfl
 globs:=by kernel_rfl
 ns:=by kernel_rfl
 dicts:=CZ _
 cls:=λc=>by cases c<;>kernel_rfl
 att:=λc=>by cases c<;>kernel_rfl
 fns:=λf=>by cases f<;>kernel_rfl
 lim:=Od _
 sys:=⟨o_1 w.params,by kernel_rfl⟩
local macro_rules | `(tactic| trivial) => `(tactic| first | with_reducible exact bp | ((with_reducible apply oF); (with_reducible assumption)) | ((with_reducible apply z5); (with_reducible assumption)) | ((with_reducible apply oF); exact rfl) | ((with_reducible apply z5); exact rfl) | exact rfl)
local macro_rules | `(tactic| trivial) => `(tactic| with_reducible first
 | assumption | apply ik | exact xF | exact FQ | apply dW | apply aK | apply xC | apply xA | apply te | apply xB | apply pS | apply pO | apply b9 | apply mZ | exact qQ | apply Ce |  apply pN | apply vm
 | apply bZ | apply ll | apply rY | apply jO | apply mG | apply eF | apply qY | apply fM | apply Nj | apply yK | apply yJ | apply kH | apply i8 | apply uG | apply yI | apply dC | apply d0 | apply aU
 | apply su | apply uM | apply kD | apply nv | apply ny | apply oQ | apply EP | apply ES | apply nD | apply pF | apply ni | apply cN | apply l9 | apply Gv | apply oo | apply j9 | apply iU | apply rE | apply eE | apply or_cons)
local macro_rules | `(tactic| trivial) => `(tactic| first | ((with_reducible apply EN); exact rfl; exact rfl) | ((with_reducible apply pE); exact rfl; exact rfl))
section
local macro_rules | `(tactic| trivial) => `(tactic| with_reducible first | apply pM | apply MJ | apply FU)
noncomputable def yU (c:Nat):Bool:=alpha.any (Nat.beq c)
theorem yV {c:Nat}:yU c=true↔c∈alpha:=by
 unfold yU
 rw [any_beq]
 simp
theorem NR (H:List AO) :∀c∈alpha,kE G0 jW [.int (c:Int)] H=some (.bool false,H,[2]):=by
 unfold alpha
 repeat' (first|exact(λc h=>absurd h List.not_mem_nil)|(refine List.forall_mem_cons.mpr ⟨?_,?_⟩))
 all_goals kernel_rfl
noncomputable abbrev HW (f:Fn) (d:fF):Prop:=∀w,gP (SS w) f d
noncomputable def fs1 :∀f,Option (FD HW f)
 |.g8=>some ⟨jW,qF⟩
 |.oq=>some ⟨qX,uR⟩
 |.iM=>some ⟨iZ,uS⟩
 |.tf=>some ⟨uA,w7⟩
 |.jl=>some ⟨jx,As⟩
 |.iT=>some ⟨uz,w6⟩
 |.mU=>some ⟨uy,w5⟩
 |_=>none
noncomputable def G1:cy:=lay G0 fs1
theorem QG (w:World):bq (SS w) G1 2:=sL (Ao (IZ w)) λ_ _ h=>h w
theorem Ah (l:List Nat) (hl :∀c∈l,c∈alpha) :∀(σ:St),(∀k∈σ.O,k<=100000)->∃V' O',(∀k∈O',k<=100000)/\
  jY (hK [.pd] false) (cG G1 (.cons (.ite (.call (.g .fk) (.cons (.call (.g .hW) (.cons (.v .pd) .nil)) .nil)) (.cons (.exp (.aq (.at (.v .ae) .d9) .ak (.cons (.c (.str [105,110,118,97,108,105,100,45,99,111,100,101,112,111,105,110,116])) .nil))) .nil) .nil) .nil)) (l.map λc=>.str [c]) σ=some (.nx,{H:=σ.H,V:=V',O:=O'}):=by
 induction l with
 |nil=>exact λσ h=>⟨σ.V,σ.O,h,rfl⟩
 |cons c r ih=>
  intro σ h
  have hc:G1.call .g8 [.int (c:Int)] σ.H=some (.bool false,σ.H,[2]):=NR σ.H c (hl c (.head _))
  obtain⟨V',O',h1,h2⟩:=ih (λd hd=>hl d (.tail _ hd)) {H:=σ.H,V:=pt σ.V .pd (.str [c]),O:=2::σ.O} (λk hk=>(List.mem_cons.mp hk).elim (λe=>e▸by decide) (h k))
  have hg1:G1.glob .fk=some (.fn .g8):=by kernel_rfl
  have hg2:G1.glob .hW=some (.bi .ord):=by kernel_rfl
  refine⟨V',O',h1,nW (σ1:={H:=σ.H,V:=pt σ.V .pd (.str [c]),O:=σ.O}) rfl ?_ h2⟩
  repeat' trivial
theorem oP (H:List AO) (s:List Nat) (hs:s.all yU=true):gr G1 yr [.inst .ay 3,.str s] H .none H []:=by
 obtain⟨V',O',h1,h2⟩:=Ah s (λc hc=>yV.mp (List.all_eq_true.mp hs c hc)) {H:=H,V:=[(.ae,.inst .ay 3),(.af,.str s)],O:=[]} (by simp)
 refine⟨[(.ae,.inst .ay 3),(.af,.str s)],H,.nx,{H:=H,V:=V',O:=O'},rfl,rfl,.refl H,?_,rfl,.refl H,Nat.le_refl _,λa b=>⟨a,.none⟩,λk hk=>.inl (h1 k hk)⟩
 show cG G1 o4 _=_
 unfold o4
 exact aK (vm (bZ rfl) rfl h2) rfl
theorem vf (c x:Nat) (s:List Nat):dN c (s++[x])=if x=c then(s.length:Int)else dN c s:=by
 have h :∀(n:Nat) (a:Int),n<=s.length->(List.range n).foldl (λ(l:Int) (i:Nat)=>if(s++[x])[i]?=some c then(i:Int)else l) a=(List.range n).foldl (λ(l:Int) (i:Nat)=>if s[i]?=some c then(i:Int)else l) a:=by
  intro n
  induction n with
  |zero=>intro a _;rfl
  |succ n ih=>
   intro a hn
   rw [List.range_succ,List.foldl_append,List.foldl_append,ih a (by lia)]
   simp only [List.foldl_cons,List.foldl_nil]
   rw [List.getElem?_append_left (by lia)]
 unfold dN
 rw [List.length_append,List.length_singleton,List.range_succ,List.foldl_append,h _ _ (Nat.le_refl _)]
 simp only [List.foldl_cons,List.foldl_nil]
 rw [List.getElem?_append_right (Nat.le_refl _)]
 simp
theorem yn (r:List Nat):f9 (10::r)=0:=rfl
theorem qU (x:Nat) (r:List Nat) (h:x≠10):f9 (x::r)=f9 r+1:=by
 rw [f9,BT.beq_eq,decide_eq_false h]
theorem uu (r:List Nat):dN 10 r.reverse=-1/\(f9 r:Int)=r.length\/0<=dN 10 r.reverse/\(r.length:Int)-(dN 10 r.reverse+1)=f9 r:=by
 induction r with
 |nil=>left;exact⟨rfl,rfl⟩
 |cons x r ih=>
  rw [List.reverse_cons,vf]
  by_cases e:x=10
  ·subst e
   rw [if_pos rfl,yn]
   right
   simp
  ·rw [if_neg e,qU _ _ e]
   rcases ih with⟨a,b⟩|⟨a,b⟩
   ·left;exact⟨a,by simp;omega⟩
   ·right;exact⟨a,by simp at b ⊢;lia⟩
theorem zK {s:List Nat} {c n:Nat} {f:Nat->Nat->AV} (h:n<=s.length):upTo s (.str [c],.int 0,.int (n:Int)) f=some (f c n,[]):=
 have e:(decide ((0:Int)=0)&&(decide (0<=(n:Int))&&decide ((n:Int)<=s.length)))=true:=by simp [h]
 show je (decide ((0:Int)=0)&&(decide (0<=(n:Int))&&decide ((n:Int)<=s.length))) (f c (n:Int).toNat,([]:List Nat))=_ from e▸rfl
theorem xV {H:List AO} (s:List Nat) (c n:Nat) (h:n<=s.length):jJ H .n6 s [.str [c],.int 0,.int (n:Int)]=some (.int ((s.take n).count c),[]):=zK (c:=c) (f:=λc b=>.int ((s.take b).count c)) h
theorem xW {H:List AO} (s:List Nat) (c n:Nat) (h:n<=s.length):jJ H .n7 s [.str [c],.int 0,.int (n:Int)]=some (.int (dN c (s.take n)),[]):=zK (c:=c) (f:=λc b=>.int (dN c (s.take b))) h
theorem lX {H:List AO} {ao:AO} {aR:List (Nm×AV)} {q t:List Nat} {a b:Int} (h1:H[3]?=some ao) (h2:ao.fl=some aR) (h3:lk aR .bC=some (.str (q.reverse++t))) (h4:lk aR .bM=some (.int a)) (h5:lk aR .bS=some (.int b)) :
  kE G0 jx [.inst .ay 3,.int ((q.length:Nat):Int)] H=some (.tup [.int (a+kM q),.int (if dN 10 q.reverse=-1 then b+q.length else q.length-(dN 10 q.reverse+1))],H,[2]):=by
 have e1:(q.reverse++t).take q.length=q.reverse:=by rw [<-List.length_reverse (as:=q),List.take_left'];rfl
 have m1:G0.bD .ay .bC=none:=by kernel_rfl
 have m2:G0.bD .ay .bM=none:=by kernel_rfl
 have m3:G0.bD .ay .bS=none:=by kernel_rfl
 have c1:G0.cP .ay .bC=none:=by kernel_rfl
 have c2:G0.cP .ay .bM=none:=by kernel_rfl
 have c3:G0.cP .ay .bS=none:=by kernel_rfl
 have hl:q.length<=(q.reverse++t).length:=by simp
 have s1:=xV (H:=H) (q.reverse++t) 10 q.length hl
 have s2:=xW (H:=H) (q.reverse++t) 10 q.length hl
 rw [e1]at s1 s2
 have hf:iO H 3=some aR:=aA h1 h2
 rw [kM,<-List.count_reverse]
 by_cases hc:dN 10 q.reverse=-1
 ·rw [if_pos hc]
  have hb:(dN 10 q.reverse==-1)=true:=beq_iff_eq.mpr hc
  have run :∃V,cG G0 jZ ⟨H,[(.ae,.inst .ay 3),(.gv,.int ((q.length:Nat):Int))],[]⟩=some (.rt (.tup [.int (a+((q.reverse.count 10:Nat):Int)),.int (b+q.length)]),⟨H,V,[2]⟩):=⟨_,by
   unfold jZ
   apply run_eq
   repeat' trivial⟩
  exact run.elim λV h=>k9 rfl h rfl
 ·rw [if_neg hc]
  have hb:(dN 10 q.reverse==-1)=false:=beq_eq_false_iff_ne.mpr hc
  have run :∃V,cG G0 jZ ⟨H,[(.ae,.inst .ay 3),(.gv,.int ((q.length:Nat):Int))],[]⟩=some (.rt (.tup [.int (a+((q.reverse.count 10:Nat):Int)),.int (q.length-(dN 10 q.reverse+1))]),⟨H,V,[2]⟩):=⟨_,by
   unfold jZ
   apply run_eq
   repeat' trivial⟩
  exact run.elim λV h=>k9 rfl h rfl
theorem gT.cons {a b:AO} {H H':List AO} (s:MG a b) (h:gT H H'):gT (a::H) (b::H'):=λi ao e=>by
 cases i with
 |zero=>cases e;exact⟨a,rfl,s⟩
 |succ i=>exact h i ao e
theorem Bg (r m k:AO) (J:List AO) (rb au:List Nat) (en:Bool) (lT:Nat) :
  gr G1 CN [.inst .ay 3] (r::m::k::.ay lT 3 rb au en::J) (.tup [.int (kM rb+1),.int (f9 rb)]) (r::m::k::.ay lT 3 rb au en::J) []:=by
 have hm:G1.bD .ay .gu=some .jl:=by kernel_rfl
 have hc:G1.cP .ay .gu=none:=by kernel_rfl
 have hm2:G1.bD .ay .az=none:=by kernel_rfl
 have hc2:G1.cP .ay .az=none:=by kernel_rfl
 have key:G1.call .jl [.inst .ay 3,.int (cond en 0 (rb.length:Int))] (r::m::k::.ay lT 3 rb au en::J)=some (.tup [.int (kM rb),.int (f9 rb)],r::m::k::.ay lT 3 rb au en::J,[2]):=by
  have hr :∀as H,G1.call .jl as H=kE G0 jx as H:=λ_ _=>by kernel_rfl
  rw [hr]
  cases en with
  |true=>
   have:=lX (H:=r::m::k::.ay lT 3 rb au true::J) (ao:=.ay lT 3 rb au true) (q:=[]) (t:=[]) (a:=kM rb) (b:=f9 rb) rfl rfl (by kernel_rfl) (by kernel_rfl) (by kernel_rfl)
   simpa [dN,kM]using this
  |false=>
   have:=lX (H:=r::m::k::.ay lT 3 rb au false::J) (ao:=.ay lT 3 rb au false) (q:=rb) (t:=au) (a:=0) (b:=0) rfl rfl (by kernel_rfl) (by kernel_rfl) (by kernel_rfl)
   rcases uu rb with⟨h1,h2⟩|⟨h1,h2⟩
   ·rw [if_pos h1]at this
    simpa [h2]using this
   ·rw [if_neg (by lia),h2]at this
    simpa using this
 refine⟨[(.ae,.inst .ay 3)],_,.rt (.tup [.int (kM rb+1),.int (f9 rb)]),{H:=r::m::k::.ay lT 3 rb au en::J,V:=[(.ae,.inst .ay 3),(.dD,.int (kM rb)),(.y0,.int (f9 rb))],O:=[2,2]},rfl,rfl,.refl _,?_,rfl,.refl _,Nat.le_refl _,λa b=>⟨a,.tup (.cons (.int _) (.cons (.int _) .nil))⟩,λk hk=>.inl ?_⟩
 ·show cG G1 sE _=_
  unfold sE
  apply run_eq
  repeat' trivial
 ·simp at hk;lia
noncomputable def gY (c:Nat):Nat:=if 65<=c/\c<=90 then c+32 else c
noncomputable def lK:Ex:=(.ite (.cmp (.c (.str [65])) (.cons .le (.v .pd) (.cons .le (.c (.str [90])) .nil))) (.call (.g .nB) (.cons (.bin .add (.call (.g .hW) (.cons (.v .pd) .nil)) (.c (.int 32))) .nil)) (.v .pd))
theorem za (a b:Nat):Ha [a] [b]=decide (a<=b):=by
 unfold Ha
 by_cases e:a=b
 ·subst e;simp [Ha]
 ·rw [if_neg e]
  by_cases h:a<b
  ·rw [decide_eq_true h,decide_eq_true (by lia)]
  ·rw [decide_eq_false h,decide_eq_false (by lia)]
theorem Nk {H:List AO} {i:Int}:BL H .chr [.int i]=je (decide (0<=i)&&decide (i<55296)) (.str [i.toNat],[]):=rfl
theorem JF (σ:St) (c:Nat) (h:lk σ.V .pd=some (.str [c])):ev G1 lK σ=some (.str [gY c],σ):=by
 have g1:G1.glob .nB=some (.bi .chr):=by kernel_rfl
 have g2:G1.glob .hW=some (.bi .ord):=by kernel_rfl
 unfold lK gY
 have q1:jU σ.H .le (.str [65]) (.str [c])=some (decide (65<=c)):=aA (o:=some (Ha [65] [c])) (f:=some) (congrArg some (za 65 c)) rfl
 have q2:jU σ.H .le (.str [c]) (.str [90])=some (decide (c<=90)):=aA (o:=some (Ha [c] [90])) (f:=some) (congrArg some (za c 90)) rfl
 by_cases h1:65<=c
 ·have d1:decide (65<=c)=true:=decide_eq_true h1
  by_cases h2:c<=90
  ·have d2:decide (c<=90)=true:=decide_eq_true h2
   have b1:BL σ.H .chr [.int ((c:Int)+32)]=some (.str [c+32],[]):=by
    rw [Nk,decide_eq_true (show(0:Int)<=(c:Int)+32 by lia),decide_eq_true (show(c:Int)+32<55296 by lia),show((c:Int)+32).toNat=c+32 by lia]
    rfl
   rw [if_pos ⟨h1,h2⟩]
   apply C9
   repeat' trivial
  ·have d2:decide (c<=90)=false:=decide_eq_false h2
   rw [if_neg λz=>h2 z.2]
   apply C9
   repeat' trivial
 ·have d1:decide (65<=c)=false:=decide_eq_false h1
  rw [if_neg λz=>h1 z.1]
  apply C9
  repeat' trivial
theorem EB (l:List Nat) :∀σ:St,∃V',jI (hK [.pd] false) (mh G1 .nil) (ev G1 lK) (l.map λc=>.str [c]) σ=some (l.map λc=>.str [gY c],{H:=σ.H,V:=V',O:=σ.O}):=by
 induction l with
 |nil=>exact λσ=>⟨σ.V,rfl⟩
 |cons c r ih=>
  intro σ
  obtain⟨V',h⟩:=ih {H:=σ.H,V:=pt σ.V .pd (.str [c]),O:=σ.O}
  refine⟨V',?_⟩
  exact aA rfl (aA rfl (aA (JF _ _ bp) (aA h rfl)))
theorem By (l:List Nat) (f:Nat->Nat):jm (l.map λc=>.str [f c])=some (l.map λc=>[f c]):=by
 induction l with
 |nil=>rfl
 |cons c r ih=>rw [List.map_cons,jm,ih];rfl
theorem De (l:List Nat) (f:Nat->Nat):(l.map λc=>[f c]).flatten=l.map f:=by
 induction l with
 |nil=>rfl
 |cons c r ih=>rw [List.map_cons,List.flatten_cons,ih];rfl
theorem A6 (H:List AO) (s:List Nat):gr G1 ly [.str s] H (.str (s.map gY)) H [s.length]:=by
 obtain⟨V',h⟩:=EB s {H:=H,V:=ji [(.pd,.loc),(.nB,.cS),(.hW,.cS)] [(.aj,.str s)],O:=[]}
 have hj:jJ H .gJ [] [.lst (s.map λc=>.str [gY c])]=some (.str (s.map gY),[(s.map gY).length]):=by
  show(jm (s.map λc=>.str [gY c])).map (λl=>(AV.str l.flatten,[l.flatten.length]))=_
  rw [By,Option.map_some,De]
 refine⟨[(.aj,.str s)],H,.rt (.str (s.map gY)),{H:=H,V:=[(.aj,.str s)],O:=[s.length,s.length]},rfl,rfl,.refl _,?_,rfl,.refl _,Nat.le_refl _,λa b=>⟨a,.str _⟩,λk hk=>.inr ⟨s.length,.head _,by simp at hk;lia⟩⟩
 have ec:ev G1 (.comp [(.pd,.loc),(.nB,.cS),(.hW,.cS)] lK [.pd] (.v .aj) .nil) {H:=H,V:=[(.aj,.str s)],O:=[]}=some (.lst (s.map λc=>.str [gY c]),{H:=H,V:=[(.aj,.str s)],O:=[s.length]}):=(List.length_map (as:=s) λc=>AV.str [gY c])▸aA (bZ rfl) (aA rfl (aA h rfl))
 have hj':=hj
 rw [List.length_map]at hj'
 show cG G1 (.cons (.ret (.aq (.c (.str [])) .gJ (.cons (.comp [(.pd,.loc),(.nB,.cS),(.hW,.cS)] lK [.pd] (.v .aj) .nil) .nil))) .nil) _=_
 apply run_eq
 repeat' trivial
noncomputable def cA :∀f as H,Option (CP HW G1 f as H)
 |.jk,[.inst .ay 3,.str s],H=>Ja (s.all yU) λh=>⟨(.none,H,[]),λ_=>⟨_,rh,oP _ _ h⟩⟩
 |.ju,[.str s],H=>some ⟨(.str (s.map gY),H,[s.length]),λ_=>⟨_,oV,A6 _ _⟩⟩
 |.lZ,[.inst .ay 3],r::m::k::.ay lT 3 rb au en::J=>some ⟨(.tup [.int (kM rb+1),.int (f9 rb)],r::m::k::.ay lT 3 rb au en::J,[]),λ_=>⟨_,Dt,Bg _ _ _ _ _ _ _ _⟩⟩
 |_,_,_=>none
theorem H7 (s:List Nat) (H:List AO):cA .jk [.inst .ay 3,.str s] H=Ja (s.all yU) λh=>⟨(.none,H,[]),λ_=>⟨_,rh,oP _ _ h⟩⟩:=by kernel_rfl
noncomputable def G2:cy:=A5 G1 cA
theorem QH (w:World):bq (SS w) G2 4:=n8 (QG w) λ_ _ h=>h w
theorem zH (r m k s:AO) (J:List AO) (t:List Nat) (p:Nat) :
  kE G0 iZ [.inst .txt 4,.int 10240] (r::m::k::s::.dict [(.aj,.str t),(.ah,.int (p:Int))]::J) =
   some (.str (eM t (min p t.length) (min (p+10240) t.length)),r::m::k::s::.dict [(.aj,.str t),(.ah,.int ((p:Int)+(eM t (min p t.length) (min (p+10240) t.length)).length))]::J,[3]):=by
 have m1:G0.bD .txt .aj=none:=by kernel_rfl
 have m2:G0.bD .txt .ah=none:=by kernel_rfl
 have c1:G0.cP .txt .aj=none:=by kernel_rfl
 have c2:G0.cP .txt .ah=none:=by kernel_rfl
 have hg:G0.glob .ba=some (.bi .len):=by kernel_rfl
 have e1:dh (p:Int) t.length=min p t.length:=clipAt_nat t.length p
 have e2:dh ((p:Int)+10240) t.length=min (p+10240) t.length:=clipAt_nat t.length (p+10240)
 have sl:vx (r::m::k::s::.dict [(.aj,.str t),(.ah,.int (p:Int))]::J) (.str t) (.int p) (.int ((p:Int)+10240))=some (.str (eM t (min p t.length) (min (p+10240) t.length))):=by
  show some (AV.str (eM t (dh p t.length) (dh ((p:Int)+10240) t.length)))=_
  rw [e1,e2]
 have run :∃V,cG G0 kZ ⟨r::m::k::s::.dict [(.aj,.str t),(.ah,.int (p:Int))]::J,[(.ae,.inst .txt 4),(.b8,.int 10240)],[]⟩=some (.rt (.str (eM t (min p t.length) (min (p+10240) t.length))),⟨r::m::k::s::.dict [(.aj,.str t),(.ah,.int ((p:Int)+(eM t (min p t.length) (min (p+10240) t.length)).length))]::J,V,[3]⟩):=⟨_,by
  unfold kZ
  apply run_eq
  repeat' trivial⟩
 exact run.elim λV h=>k9 rfl h rfl
end
theorem rD {H:List AO} (s:List Nat) (r y:List Nat) (h:s.any (Nat.beq 13)=false):jJ H .jh s [.str (13::r),.str y]=some (.str s,[s.length]):=by
 show je (!s.any (Nat.beq 13)) (AV.str s,[s.length])=_
 rw [h];rfl
theorem fi {n:Nat} (h:5<=n) (rb au:List Nat) (en:Bool):jL n (.ay 4 3 rb au en):=λaR e=>by
 cases e
 exact .cons (.bD (.inst (by lia))) (.cons (.lst (.cons (.int _) .nil)) (.cons (.inst (by lia)) (.cons (.str _) (.cons (.int _) (.cons (.int _) (.cons (.lst .nil) (.cons (.int _) (.cons (.int _) (.cons .none .nil)))))))))
theorem gW {n:Nat} (t:List Nat) (d:Bool):jL n (.txt t d):=λaR e=>by
 cases e
 exact .cons (.str _) (.cons (.int _) .nil)
theorem iD {r m k a b a' b':AO} {J:List AO} (h:mq (r::m::k::a::b::J).length (r::m::k::a::b::J)) (ha:jL (r::m::k::a'::b'::J).length a') (hb:jL (r::m::k::a'::b'::J).length b') :
  mq (r::m::k::a'::b'::J).length (r::m::k::a'::b'::J):=λao hm=>by
 simp only [List.mem_cons]at hm
 have e:(r::m::k::a::b::J).length=(r::m::k::a'::b'::J).length:=rfl
 rcases hm with rfl|rfl|rfl|rfl|rfl|hm
 ·exact e▸h _ (.head _)
 ·exact e▸h _ (.tail _ (.head _))
 ·exact e▸h _ (.tail _ (.tail _ (.head _)))
 ·exact ha
 ·exact hb
 ·exact e▸h _ (.tail _ (.tail _ (.tail _ (.tail _ (.tail _ hm)))))
section
local macro_rules | `(tactic| trivial) => `(tactic| with_reducible first | apply PD | apply QZ | apply FV | apply FT)
theorem FW (r m k:AO) (J:List AO) (rb au t:List Nat) (en:Bool) (ha:en=true->au=[]) :
  gr G2 nU [.inst .ay 3] (r::m::k::.ay 4 3 rb au en::.txt t true::J) (.bool false) (r::m::k::.ay 4 3 (au.reverse++rb) [] true::.txt t true::J) []:=by
 have key:G2.call .jl [.inst .ay 3,.int (cond en 0 ((rb.length+au.length:Nat):Int))] (r::m::k::.dict (aG 4 3 rb au en)::.dict [(.aj,.str t),(.ah,.int (t.length:Int))]::J) =
   some (.tup [.int (kM (au.reverse++rb)),.int (f9 (au.reverse++rb))],r::m::k::.dict (aG 4 3 rb au en)::.dict [(.aj,.str t),(.ah,.int (t.length:Int))]::J,[2]):=by
  have hr :∀as H,G2.call .jl as H=kE G0 jx as H:=λ_ _=>by kernel_rfl
  rw [hr]
  cases en with
  |true=>
   obtain rfl:=ha rfl
   have:=lX (H:=r::m::k::.dict (aG 4 3 rb [] true)::.dict [(.aj,.str t),(.ah,.int (t.length:Int))]::J) (ao:=.dict (aG 4 3 rb [] true)) (q:=[]) (t:=[]) (a:=kM rb) (b:=f9 rb) rfl rfl (by kernel_rfl) (by kernel_rfl) (by kernel_rfl)
   simpa [dN,kM]using this
  |false=>
   have hch:lk (aG 4 3 rb au false) .bC=some (.str ((au.reverse++rb).reverse++[])):=by
    have:lk (aG 4 3 rb au false) .bC=some (.str (rb.reverse++au)):=by kernel_rfl
    rw [this];simp
   have:=lX (H:=r::m::k::.dict (aG 4 3 rb au false)::.dict [(.aj,.str t),(.ah,.int (t.length:Int))]::J) (ao:=.dict (aG 4 3 rb au false)) (q:=au.reverse++rb) (t:=[]) (a:=0) (b:=0) rfl rfl hch (by kernel_rfl) (by kernel_rfl)
   have hl:((au.reverse++rb).length:Int)=((rb.length+au.length:Nat):Int):=by simp;lia
   rw [hl]at this
   show kE G0 jx [.inst .ay 3,.int ((rb.length+au.length:Nat):Int)] _=_
   rw [this]
   rcases uu (au.reverse++rb)with⟨h1,h2⟩|⟨h1,h2⟩
   ·rw [if_pos h1,h2,hl];simp
   ·rw [if_neg (by lia),<-h2,hl];simp
 have key2 :∀s,G2.call .iM [.inst .txt 4,.int 10240] (r::m::k::s::.dict [(.aj,.str t),(.ah,.int (t.length:Int))]::J)=some (.str [],r::m::k::s::.dict [(.aj,.str t),(.ah,.int (t.length:Int))]::J,[3]):=λs=>by
  have hr :∀as H,G2.call .iM as H=kE G0 iZ as H:=λ_ _=>by kernel_rfl
  rw [hr,zH]
  have:eM t (min t.length t.length) (min (t.length+10240) t.length)=[]:=by unfold eM;simp
  rw [this];simp
 refine⟨[(.ae,.inst .ay 3),(.aH,.none)],r::m::k::.dict (aG 4 3 rb au en)::.dict [(.aj,.str t),(.ah,.int (t.length:Int))]::J,.rt (.bool false),{H:=r::m::k::.dict (aG 4 3 (au.reverse++rb) [] true)::.dict [(.aj,.str t),(.ah,.int (t.length:Int))]::J,V:=[(.ae,.inst .ay 3),(.aH,.int 10240),(.af,.str [])],O:=[3,11,11,11,11,11,2]},rfl,by simp,?_,?_,rfl,?_,by simp,?_,?_⟩
 ·exact .cons (.refl _) (.cons (.refl _) (.cons (.refl _) (.cons (.inr ⟨_,rfl,rfl⟩) (.cons (.inr ⟨_,rfl,rfl⟩) (.refl _)))))
 ·show cG G2 fT _=_
  have key3:=key2 (.dict (aG 4 3 (au.reverse++rb) [] true))
  simp only [aG,cond_true]at key3
  unfold fT
  apply run_eq
  repeat' trivial
 ·exact .cons (.refl _) (.cons (.refl _) (.cons (.refl _) (.cons (.inr ⟨_,rfl,rfl⟩) (.cons (.inr ⟨_,rfl,rfl⟩) (.refl _)))))
 ·exact λh _=>⟨iD h (fi (by simp) _ _ _) (gW _ _),.bool _⟩
 ·intro k hk;simp at hk;left;lia
theorem nr :∀c∈alpha,c≠13/\c<55296:=by decide +kernel
theorem y8 (r m k:AO) (J:List AO) (t:List Nat) (S:AO) (hS:S.fl=some (aG 4 3 [] [] true)) :
  G2.call .jl [.inst .ay 3,.int 0] (r::m::k::S::.dict [(.aj,.str t),(.ah,.int 0)]::J)=some (.tup [.int 0,.int 0],r::m::k::S::.dict [(.aj,.str t),(.ah,.int 0)]::J,[2]):=by
 have hr :∀as H,G2.call .jl as H=kE G0 jx as H:=λ_ _=>by kernel_rfl
 rw [hr]
 have:=lX (H:=r::m::k::S::.dict [(.aj,.str t),(.ah,.int 0)]::J) (ao:=S) (q:=[]) (t:=[]) (a:=0) (b:=0) rfl hS (by kernel_rfl) (by kernel_rfl) (by kernel_rfl)
 simpa [dN,kM]using this
theorem vc (r m k s:AO) (J:List AO) (t:List Nat) (hl:t.length<=10240) :
  G2.call .iM [.inst .txt 4,.int 10240] (r::m::k::s::.dict [(.aj,.str t),(.ah,.int 0)]::J)=some (.str t,r::m::k::s::.dict [(.aj,.str t),(.ah,.int (t.length:Int))]::J,[3]):=by
 have hr :∀as H,G2.call .iM as H=kE G0 iZ as H:=λ_ _=>by kernel_rfl
 have e:=zH r m k s J t 0
 have:eM t (min 0 t.length) (min (0+10240) t.length)=t:=by
  have h2:min (0+10240) t.length=t.length:=by lia
  rw [h2,Nat.zero_min];simp [eM]
 rw [this]at e
 rw [hr]
 simpa using e
noncomputable abbrev PO:AO:=.dict [(.a9,.bD .jk (.inst .ay 3)),(.eQ,.lst [.int 0]),(.c9,.inst .txt 4),(.bC,.str []),(.aH,.int 0),(.az,.int 0),(.d9,.lst []),(.bM,.int 0),(.bS,.int 0),(.a7,.none)]
theorem FX (r m k:AO) (J:List AO) :
  gr G2 nU [.inst .ay 3] (r::m::k::.ay 4 3 [] [] true::.txt [] false::J) (.bool false) (r::m::k::.ay 4 3 [] [] true::.txt [] true::J) []:=by
 have key:G2.call .jl [.inst .ay 3,.int (cond true 0 ((([]:List Nat).length+([]:List Nat).length:Nat):Int))] (r::m::k::.dict (aG 4 3 [] [] true)::.dict [(.aj,.str []),(.ah,.int 0)]::J)=_:=y8 r m k J [] (.dict (aG 4 3 [] [] true)) rfl
 have key2:=vc r m k PO J [] (by simp)
 refine⟨[(.ae,.inst .ay 3),(.aH,.none)],r::m::k::.dict (aG 4 3 [] [] true)::.dict [(.aj,.str []),(.ah,.int 0)]::J,.rt (.bool false),{H:=r::m::k::.dict (aG 4 3 [] [] true)::.dict [(.aj,.str []),(.ah,.int 0)]::J,V:=[(.ae,.inst .ay 3),(.aH,.int 10240),(.af,.str [])],O:=[3,11,11,11,11,11,2]},rfl,by simp,?_,?_,rfl,?_,by simp,?_,?_⟩
 ·exact .cons (.refl _) (.cons (.refl _) (.cons (.refl _) (.cons (.inr ⟨_,rfl,rfl⟩) (.cons (.inr ⟨_,rfl,rfl⟩) (.refl _)))))
 ·show cG G2 fT _=_
  unfold fT
  apply run_eq
  repeat' trivial
 ·exact .cons (.refl _) (.cons (.refl _) (.cons (.refl _) (.cons (.inr ⟨_,rfl,rfl⟩) (.cons (.inr ⟨_,rfl,rfl⟩) (.refl _)))))
 ·exact λh _=>⟨iD h (fi (by simp) _ _ _) (gW _ _),.bool _⟩
 ·intro k hk;simp at hk;left;lia
theorem Gd (t:List Nat):aG 4 3 [] t false=[(.a9,.bD .jk (.inst .ay 3)),(.eQ,.lst [.int 0]),(.c9,.inst .txt 4),(.bC,.str t),(.aH,.int t.length),(.az,.int 0),(.d9,.lst []),(.bM,.int 0),(.bS,.int 0),(.a7,.none)]:=by simp [aG]
theorem ET {H:List AO} {t:List Nat} {i:Int} {n:Nat} (e:idx i t.length=some n):nM H (.str t) (.int i)=some (.str [t.getD n 0]):=congrArg (Option.map λj=>AV.str [t.getD j 0]) e
theorem vn (r m k:AO) (J:List AO) (c:Nat) (t':List Nat) (ha:(c::t').all yU=true) (hl:(c::t').length<=10240) :
  gr G2 nU [.inst .ay 3] (r::m::k::.ay 4 3 [] [] true::.txt (c::t') false::J) (.bool true) (r::m::k::.dict (aG 4 3 [] (c::t') false)::.txt (c::t') true::J) []:=by
 generalize ht:c::t'=t at ha hl ⊢
 have hne:t.isEmpty=false:=by rw [<-ht];rfl
 have hpos:0<t.length:=by rw [<-ht];simp
 have key:G2.call .jl [.inst .ay 3,.int (cond true 0 ((([]:List Nat).length+([]:List Nat).length:Nat):Int))] (r::m::k::.dict (aG 4 3 [] [] true)::.dict [(.aj,.str t),(.ah,.int 0)]::J)=_:=y8 r m k J t (.dict (aG 4 3 [] [] true)) rfl
 have key2:=vc r m k PO J t hl
 have hne2:(!(!t.isEmpty))=false:=by rw [hne];rfl
 have hal :∀x∈t,x∈alpha:=λx hx=>yV.mp (List.all_eq_true.mp ha x hx)
 have h13:t.any (Nat.beq 13)=false:=by
  rw [any_beq]
  exact decide_eq_false λh=>(nr 13 (hal 13 h)).1 rfl
 have hrep:=rD (H:=r::m::k::PO::.dict [(.aj,.str t),(.ah,.int (t.length:Int))]::J) t [] [10] h13
 have hrep2:=rD (H:=r::m::k::PO::.dict [(.aj,.str t),(.ah,.int (t.length:Int))]::J) t [10] [10] h13
 have kerr:G2.call .jk [.inst .ay 3,.str t] (r::m::k::PO::.dict [(.aj,.str t),(.ah,.int (t.length:Int))]::J)=some (.none,_,[]):=mW ((H7 t (r::m::k::PO::.dict [(.aj,.str t),(.ah,.int (t.length:Int))]::J)).trans (o2 ha))
 have hlast :∃x,x∈t/\nM (r::m::k::PO::.dict [(.aj,.str t),(.ah,.int (t.length:Int))]::J) (.str t) (.int (-1))=some (.str [x]):=by
  refine⟨t.getD (t.length-1) 0,?_,?_⟩
  ·have hlt:t.length-1<t.length:=by omega
   rw [List.getD_eq_getElem?_getD,List.getElem?_eq_getElem hlt]
   exact List.getElem_mem hlt
  ·have e:idx (-1) t.length=some (t.length-1):=by
    unfold idx
    rw [show decide ((0:Int)<=-1)=false from rfl,decide_eq_true (show(0:Int)<=-1+(t.length:Int)by lia),show(-1+(t.length:Int)).toNat=t.length-1 by lia]
    rfl
   exact ET e
 obtain⟨x,hx,hix⟩:=hlast
 have hx1:=nr x (hal x hx)
 have hx2:((x:Int)==13)=false:=beq_eq_false_iff_ne.mpr (by lia)
 have hx3:decide ((55296:Int)<=(x:Int))=false:=decide_eq_false (by lia)
 have hgl:G2.glob .ba=some (.bi .len):=by kernel_rfl
 have hgo:G2.glob .hW=some (.bi .ord):=by kernel_rfl
 have cl :∀n,5<=n->jL n (.dict [(.a9,.bD .jk (.inst .ay 3)),(.eQ,.lst [.int 0]),(.c9,.inst .txt 4),(.bC,.str t),(.aH,.int t.length),(.az,.int 0),(.d9,.lst []),(.bM,.int 0),(.bS,.int 0),(.a7,.none)]):=λn h aR e=>fi h [] t false aR (by
  rw [<-e]
  exact congrArg some (Gd t))
 rw [Gd]
 by_cases h1:1<t.length
 ·have h1':decide ((1:Int)<(t.length:Int))=true:=decide_eq_true (by lia)
  refine⟨[(.ae,.inst .ay 3),(.aH,.none)],r::m::k::.dict (aG 4 3 [] [] true)::.dict [(.aj,.str t),(.ah,.int 0)]::J,.rt (.bool true),{H:=r::m::k::.dict [(.a9,.bD .jk (.inst .ay 3)),(.eQ,.lst [.int 0]),(.c9,.inst .txt 4),(.bC,.str t),(.aH,.int t.length),(.az,.int 0),(.d9,.lst []),(.bM,.int 0),(.bS,.int 0),(.a7,.none)]::.dict [(.aj,.str t),(.ah,.int (t.length:Int))]::J,V:=[(.ae,.inst .ay 3),(.aH,.int 10240),(.af,.str t),(.lP,.int x)],O:=[11,11,t.length,t.length,3,11,11,11,11,11,2]},rfl,by simp,?_,?_,rfl,?_,by simp,?_,?_⟩
  ·exact .cons (.refl _) (.cons (.refl _) (.cons (.refl _) (.cons (.inr ⟨_,rfl,rfl⟩) (.cons (.inr ⟨_,rfl,rfl⟩) (.refl _)))))
  ·show cG G2 fT _=_
   unfold fT
   apply run_eq
   repeat' trivial
  ·exact .cons (.refl _) (.cons (.refl _) (.cons (.refl _) (.cons (.refl _) (.cons (.inr ⟨_,rfl,rfl⟩) (.refl _)))))
  ·exact λh _=>⟨iD h (cl _ (by simp)) (gW _ _),.bool _⟩
  ·intro k hk;simp at hk;left;lia
 ·have h1':decide ((1:Int)<(t.length:Int))=false:=decide_eq_false (by lia)
  refine⟨[(.ae,.inst .ay 3),(.aH,.none)],r::m::k::.dict (aG 4 3 [] [] true)::.dict [(.aj,.str t),(.ah,.int 0)]::J,.rt (.bool true),{H:=r::m::k::.dict [(.a9,.bD .jk (.inst .ay 3)),(.eQ,.lst [.int 0]),(.c9,.inst .txt 4),(.bC,.str t),(.aH,.int t.length),(.az,.int 0),(.d9,.lst []),(.bM,.int 0),(.bS,.int 0),(.a7,.none)]::.dict [(.aj,.str t),(.ah,.int (t.length:Int))]::J,V:=[(.ae,.inst .ay 3),(.aH,.int 10240),(.af,.str t)],O:=[11,11,t.length,t.length,3,11,11,11,11,11,2]},rfl,by simp,?_,?_,rfl,?_,by simp,?_,?_⟩
  ·exact .cons (.refl _) (.cons (.refl _) (.cons (.refl _) (.cons (.inr ⟨_,rfl,rfl⟩) (.cons (.inr ⟨_,rfl,rfl⟩) (.refl _)))))
  ·show cG G2 fT _=_
   unfold fT
   apply run_eq
   repeat' trivial
  ·exact .cons (.refl _) (.cons (.refl _) (.cons (.refl _) (.cons (.refl _) (.cons (.inr ⟨_,rfl,rfl⟩) (.refl _)))))
  ·exact λh _=>⟨iD h (cl _ (by simp)) (gW _ _),.bool _⟩
  ·intro k hk;simp at hk;left;lia
noncomputable def cB :∀f as H,Option (CP HW G2 f as H)
 |.iL,[.inst .ay 3],r::m::k::.ay 4 3 rb au en::.txt t true::J=>Ja (!en||au.isEmpty) λh=>⟨(.bool false,r::m::k::.ay 4 3 (au.reverse++rb) [] true::.txt t true::J,[]),λ_=>⟨_,km,FW _ _ _ _ _ _ _ _ λz=>by subst z;simpa using h⟩⟩
 |.iL,[.inst .ay 3],r::m::k::.ay 4 3 [] [] true::.txt [] false::J=>some ⟨(.bool false,r::m::k::.ay 4 3 [] [] true::.txt [] true::J,[]),λ_=>⟨_,km,FX _ _ _ _⟩⟩
 |.iL,[.inst .ay 3],r::m::k::.ay 4 3 [] [] true::.txt (c::t) false::J=>Ja ((c::t).all yU&&Nat.ble (c::t).length 10240) λh=>⟨(.bool true,r::m::k::.dict (aG 4 3 [] (c::t) false)::.txt (c::t) true::J,[]),λ_=>⟨_,km,vn _ _ _ _ _ _ (bf h).1 (Nat.le_of_ble_eq_true (bf h).2)⟩⟩
 |_,_,_=>none
theorem M7 (r m k:AO) (J:List AO) (c:Nat) (t:List Nat):cB .iL [.inst .ay 3] (r::m::k::.ay 4 3 [] [] true::.txt (c::t) false::J)=Ja ((c::t).all yU&&Nat.ble (c::t).length 10240) λh=>⟨(.bool true,r::m::k::.dict (aG 4 3 [] (c::t) false)::.txt (c::t) true::J,[]),λ_=>⟨_,km,vn _ _ _ _ _ _ (bf h).1 (Nat.le_of_ble_eq_true (bf h).2)⟩⟩:=by kernel_rfl
noncomputable def G3:cy:=A5 G2 cB
theorem QI (w:World):bq (SS w) G3 6:=n8 (QH w) λ_ _ h=>h w
theorem ym {r m k a a':AO} {J:List AO} (h:mq (r::m::k::a::J).length (r::m::k::a::J)) (ha:jL (r::m::k::a'::J).length a'):mq (r::m::k::a'::J).length (r::m::k::a'::J):=λao hm=>by
 simp only [List.mem_cons]at hm
 have e:(r::m::k::a::J).length=(r::m::k::a'::J).length:=rfl
 rcases hm with rfl|rfl|rfl|rfl|hm
 ·exact e▸h _ (.head _)
 ·exact e▸h _ (.tail _ (.head _))
 ·exact e▸h _ (.tail _ (.tail _ (.head _)))
 ·exact ha
 ·exact e▸h _ (.tail _ (.tail _ (.tail _ (.tail _ hm))))
noncomputable abbrev QB (rb au:List Nat) (off:Int):AO:=.dict [(.a9,.bD .jk (.inst .ay 3)),(.eQ,.lst [.int 0]),(.c9,.inst .txt 4),(.bC,.str (rb.reverse++au)),(.aH,.int ((rb.length+au.length:Nat):Int)),(.az,.int off),(.d9,.lst []),(.bM,.int 0),(.bS,.int 0),(.a7,.none)]
theorem sH (H:List AO) (rb au:List Nat) (c:Nat):nM H (.str (rb.reverse++c::au)) (.int (rb.length:Int))=some (.str [c]):=by
 have h0:decide ((0:Int)<=(rb.length:Int))=true:=decide_eq_true (by lia)
 have h1:decide ((rb.length:Int).toNat<(rb.reverse++c::au).length)=true:=decide_eq_true (by simp)
 have e:idx (rb.length:Int) (rb.reverse++c::au).length=some rb.length:=by
  unfold idx
  rw [h0,h1]
  rfl
 rw [ET e]
 simp [List.getD_eq_getElem?_getD]
theorem CH (r m k T:AO) (J:List AO) (rb au:List Nat) (c:Nat) :
  gr G3 lB [.inst .ay 3] (r::m::k::.ay 4 3 rb (c::au) false::T::J) (.str [c]) (r::m::k::.ay 4 3 (c::rb) au false::T::J) []:=by
 have hix:=sH (r::m::k::QB rb (c::au) rb.length::T::J) rb au c
 have hge:decide (((rb.length+(c::au).length:Nat):Int)<=(rb.length:Int))=false:=decide_eq_false (by simp;lia)
 refine⟨[(.ae,.inst .ay 3)],r::m::k::QB rb (c::au) rb.length::T::J,.rt (.str [c]),{H:=r::m::k::QB rb (c::au) ((rb.length:Int)+1)::T::J,V:=[(.ae,.inst .ay 3),(.az,.int (rb.length:Int)),(.bK,.str [c])],O:=[11]},rfl,by simp,?_,?_,rfl,?_,by simp,?_,?_⟩
 ·exact .cons (.refl _) (.cons (.refl _) (.cons (.refl _) (.cons (.inr ⟨_,rfl,rfl⟩) (.refl _))))
 ·show cG G3 fS _=_
  unfold fS
  apply run_eq
  repeat' trivial
 ·refine .cons (.refl _) (.cons (.refl _) (.cons (.refl _) (.cons (.inr ⟨_,rfl,?_⟩) (.refl _))))
  simp [AO.fl,aG,pt];try (congr 1;lia)
 ·exact λh _=>⟨ym h (fi (by simp) _ _ _),.str _⟩
 ·intro k hk;simp at hk;left;lia
theorem CG (r m k:AO) (J:List AO) (rb t:List Nat) (en:Bool) :
  gr G3 lB [.inst .ay 3] (r::m::k::.ay 4 3 rb [] en::.txt t true::J) .none (r::m::k::.ay 4 3 rb [] true::.txt t true::J) []:=by
 have hge:decide (cond en (0:Int) ((rb.length+([]:List Nat).length:Nat):Int)<=cond en (0:Int) (rb.length:Int))=true:=by cases en<;>simp
 have heof:G3.glob .cT=some .none:=by kernel_rfl
 have kr:G3.call .iL [.inst .ay 3] (r::m::k::.ay 4 3 rb [] en::.txt t true::J)=some (.bool false,r::m::k::.ay 4 3 rb [] true::.txt t true::J,[]):=by cases en<;>kernel_rfl
 refine⟨[(.ae,.inst .ay 3)],r::m::k::.ay 4 3 rb [] en::.txt t true::J,.rt .none,{H:=r::m::k::.ay 4 3 rb [] true::.txt t true::J,V:=[(.ae,.inst .ay 3)],O:=[]},rfl,by simp,.refl _,?_,rfl,.refl _,by simp,?_,?_⟩
 ·show cG G3 fS _=_
  unfold fS
  apply run_eq
  repeat' trivial
 ·exact λh _=>⟨iD h (fi (by simp) _ _ _) (gW _ _),.none⟩
 ·intro k hk;simp at hk
theorem CI (r m k:AO) (J:List AO) :
  gr G3 lB [.inst .ay 3] (r::m::k::.ay 4 3 [] [] true::.txt [] false::J) .none (r::m::k::.ay 4 3 [] [] true::.txt [] true::J) []:=by
 have heof:G3.glob .cT=some .none:=by kernel_rfl
 have kr:G3.call .iL [.inst .ay 3] (r::m::k::.ay 4 3 [] [] true::.txt [] false::J)=some (.bool false,r::m::k::.ay 4 3 [] [] true::.txt [] true::J,[]):=by kernel_rfl
 refine⟨[(.ae,.inst .ay 3)],r::m::k::.ay 4 3 [] [] true::.txt [] false::J,.rt .none,{H:=r::m::k::.ay 4 3 [] [] true::.txt [] true::J,V:=[(.ae,.inst .ay 3)],O:=[]},rfl,by simp,.refl _,?_,rfl,.refl _,by simp,?_,?_⟩
 ·show cG G3 fS _=_
  unfold fS
  apply run_eq
  repeat' trivial
 ·exact λh _=>⟨iD h (fi (by simp) _ _ _) (gW _ _),.none⟩
 ·intro k hk;simp at hk
theorem uh (r m k:AO) (J:List AO) (c:Nat) (t:List Nat) (h:((c::t).all yU&&Nat.ble (c::t).length 10240)=true) :
  gr G3 lB [.inst .ay 3] (r::m::k::.ay 4 3 [] [] true::.txt (c::t) false::J) (.str [c]) (r::m::k::.ay 4 3 [c] t false::.txt (c::t) true::J) []:=by
 have heof:G3.glob .cT=some .none:=by kernel_rfl
 have kr:G3.call .iL [.inst .ay 3] (r::m::k::.ay 4 3 [] [] true::.txt (c::t) false::J)=some (.bool true,r::m::k::.dict (aG 4 3 [] (c::t) false)::.txt (c::t) true::J,[]):=mW ((M7 r m k J c t).trans (o2 h))
 have hix:nM (r::m::k::.dict (aG 4 3 [] (c::t) false)::.txt (c::t) true::J) (.str (cond false [] (([]:List Nat).reverse++c::t))) (.int (cond false (0:Int) (([]:List Nat).length:Int)))=some (.str [c]):=sH _ [] t c
 refine⟨[(.ae,.inst .ay 3)],r::m::k::.ay 4 3 [] [] true::.txt (c::t) false::J,.rt (.str [c]),{H:=r::m::k::.dict (pt (aG 4 3 [] (c::t) false) .az (.int 1))::.txt (c::t) true::J,V:=[(.ae,.inst .ay 3),(.az,.int 0),(.bK,.str [c])],O:=[11]},rfl,by simp,.refl _,?_,rfl,?_,by simp,?_,?_⟩
 ·show cG G3 fS _=_
  unfold fS
  apply run_eq
  repeat' trivial
 ·refine .cons (.refl _) (.cons (.refl _) (.cons (.refl _) (.cons (.inr ⟨_,rfl,?_⟩) (.refl _))))
  simp [AO.fl,aG,pt];try (congr 1;lia)
 ·exact λh _=>⟨iD h (fi (by simp) _ _ _) (gW _ _),.str _⟩
 ·intro k hk;simp at hk;left;lia
theorem GL (H:List AO):gr G3 oJ [.inst .ay 3,.none] H .none H []:=by
 refine⟨[(.ae,.inst .ay 3),(.bK,.none)],H,.nx,{H:=H,V:=[(.ae,.inst .ay 3),(.bK,.none)],O:=[]},rfl,rfl,.refl _,?_,rfl,.refl _,Nat.le_refl _,λa b=>⟨a,.none⟩,λk hk=>by simp at hk⟩
 kernel_rfl
theorem BG (r m k T:AO) (J:List AO) (rb au:List Nat) (c:Nat) :
  gr G3 oJ [.inst .ay 3,.str [c]] (r::m::k::.ay 4 3 (c::rb) au false::T::J) .none (r::m::k::.ay 4 3 rb (c::au) false::T::J) []:=by
 have heof:G3.glob .cT=some .none:=by kernel_rfl
 have hix:nM (r::m::k::QB (c::rb) au ((rb.length:Int)+1-1)::T::J) (.str ((c::rb).reverse++au)) (.int ((rb.length:Int)+1-1))=some (.str [c]):=by
  rw [show(rb.length:Int)+1-1=rb.length by lia,show(c::rb).reverse++au=rb.reverse++c::au by simp]
  exact sH _ rb au c
 have hbl:bQ [c] [c]=true:=by rw [fC];exact beq_self_eq_true _
 have h0:((rb.length:Int)+1==0)=false:=beq_eq_false_iff_ne.mpr (by lia)
 refine⟨[(.ae,.inst .ay 3),(.bK,.str [c])],r::m::k::QB (c::rb) au ((rb.length:Int)+1)::T::J,.nx,{H:=r::m::k::QB (c::rb) au ((rb.length:Int)+1-1)::T::J,V:=[(.ae,.inst .ay 3),(.bK,.str [c])],O:=[11]},rfl,by simp,?_,?_,rfl,?_,by simp,?_,?_⟩
 ·exact .cons (.refl _) (.cons (.refl _) (.cons (.refl _) (.cons (.inr ⟨_,rfl,rfl⟩) (.refl _))))
 ·show cG G3 mO _=_
  unfold mO
  apply run_eq
  repeat' trivial
 ·refine .cons (.refl _) (.cons (.refl _) (.cons (.refl _) (.cons (.inr ⟨_,rfl,?_⟩) (.refl _))))
  simp [AO.fl,aG,pt];try (congr 1;lia)
 ·exact λh _=>⟨ym h (fi (by simp) _ _ _),.none⟩
 ·intro k hk;simp at hk;left;lia
noncomputable def sS:AV->Nat->Bool
 |.str b,c=>b.any (Nat.beq c)
 |.tup vs,c=>vs.any λv=>match v with|.str y=>bQ y [c]|_=>false
 |_,_=>false
noncomputable def LK:AV->Bool
 |.str _=>true
 |.tup vs=>vs.all λv=>match v with|.str _=>true|_=>false
 |_=>false
theorem JQ {cv:AV} {c:Nat} (h:LK cv=true):uq .isin (.str [c]) cv=some (sS cv c):=by
 cases cv with
 |str b=>rfl
 |tup vs=>
  show o3 (.str [c]) vs=some (vs.any λv=>match v with|.str y=>bQ y [c]|_=>false)
  have h':vs.all (λv=>match v with|.str _=>true|_=>false)=true:=h
  clear h
  induction vs with
  |nil=>rfl
  |cons v r ih=>
   rw [List.all_cons,Bool.and_eq_true]at h'
   cases v with
   |str y=>exact aA (o:=YL (.str y) (.str [c])) rfl (aA (ih h'.2) rfl)
   |_=>exact absurd h'.1 Bool.false_ne_true
 |_=>exact absurd h Bool.false_ne_true
noncomputable def iw (cv:AV) (cM:Bool) (l:List Nat):List Nat:=l.takeWhile λc=>sS cv c==cM
noncomputable def oM (cv:AV) (cM:Bool) (l:List Nat):List Nat:=l.dropWhile λc=>sS cv c==cM
theorem tQ (cv:AV) (cM:Bool) (l:List Nat):iw cv cM l++oM cv cM l=l:=List.takeWhile_append_dropWhile
theorem lh {H:List AO} {ao:AO} {aR:List (Nm×AV)} {cv:AV} {cM:Bool} {L:Nat} (hc:LK cv=true) (h1:H[3]?=some ao) (h2:ao.fl=some aR) {ch:List Nat} (h3:lk aR .bC=some (.str ch)) (h4:lk aR .aH=some (.int (ch.length:Int))) (O:List Nat) :
  ∀(au rb:List Nat) (n:Nat),ch=rb.reverse++au->au.length<n->
  fc n (cZ G3 (.and (.cons (.cmp (.v .cV) (.cons .ne (.at (.v .ae) .aH) .nil)) (.cons (.cmp (.cmp (.ix (.at (.v .ae) .bC) (.v .cV)) (.cons .isin (.v .cI) .nil)) (.cons .eq (.v .dj) .nil)) .nil)))) (cG G3 (.cons (.aug (.v .cV) .add (.c (.int 1))) .nil))
   {H:=H,V:=[(.ae,.inst .ay 3),(.cI,cv),(.dj,.bool cM),(.fq,.a5 L),(.cV,.int (rb.length:Int))],O:=O} =
   some (.nx,{H:=H,V:=[(.ae,.inst .ay 3),(.cI,cv),(.dj,.bool cM),(.fq,.a5 L),(.cV,.int ((rb.length+(iw cv cM au).length:Nat):Int))],O:=O}):=by
 have hf:iO H 3=some aR:=aA h1 h2
 intro au
 induction au with
 |nil=>
  intro rb n e hn
  obtain⟨n,rfl⟩ :∃k,n=k+1:=⟨n-1,by lia⟩
  have hl:ch.length=rb.length:=by rw [e];simp
  have hne:(!((rb.length:Int)==(ch.length:Int)))=false:=by rw [hl,beq_self_eq_true];rfl
  refine tV (σ1:={H:=H,V:=[(.ae,.inst .ay 3),(.cI,cv),(.dj,.bool cM),(.fq,.a5 L),(.cV,.int (rb.length:Int))],O:=O}) ?_
  apply GD
  repeat' trivial
 |cons c r ih=>
  intro rb n e hn
  obtain⟨n,rfl⟩ :∃k,n=k+1:=⟨n-1,by lia⟩
  have hl:ch.length=rb.length+(r.length+1):=by rw [e];simp
  have hne:(!((rb.length:Int)==(ch.length:Int)))=true:=by rw [show((rb.length:Int)==(ch.length:Int))=false from beq_eq_false_iff_ne.mpr (by lia)];rfl
  have hix:nM H (.str ch) (.int (rb.length:Int))=some (.str [c]):=e▸sH H rb r c
  have hmem:jU H .isin (.str [c]) cv=some (sS cv c):=by
   unfold jU
   rw [JQ hc]
   rfl
  cases hb:sS cv c==cM with
  |false=>
   have et:iw cv cM (c::r)=[]:=by simp [iw,List.takeWhile_cons,hb]
   rw [et]
   refine tV (σ1:={H:=H,V:=[(.ae,.inst .ay 3),(.cI,cv),(.dj,.bool cM),(.fq,.a5 L),(.cV,.int (rb.length:Int))],O:=O}) ?_
   apply GD
   repeat' trivial
  |true=>
   have:=ih (c::rb) n (by rw [e];simp) (by simp at hn;omega)
   have e2:(((c::rb).length:Nat):Int)=(rb.length:Int)+1:=by simp
   rw [e2,show(c::rb).length+(iw cv cM r).length=rb.length+(iw cv cM (c::r)).length by simp [iw,List.takeWhile_cons,hb];lia]at this
   refine wj (σ1:={H:=H,V:=[(.ae,.inst .ay 3),(.cI,cv),(.dj,.bool cM),(.fq,.a5 L),(.cV,.int (rb.length:Int))],O:=O}) ?_ ?_ this
   ·apply GD
    repeat' trivial
   ·apply run_eq
    repeat' trivial
noncomputable def lL:Ex:=(.and (.cons (.cmp (.v .cV) (.cons .ne (.at (.v .ae) .aH) .nil)) (.cons (.cmp (.cmp (.ix (.at (.v .ae) .bC) (.v .cV)) (.cons .isin (.v .cI) .nil)) (.cons .eq (.v .dj) .nil)) .nil)))
noncomputable def ko:c5:=(.cons (.aug (.v .cV) .add (.c (.int 1))) .nil)
noncomputable def fj:c5:=(.cons (.asg (.v .cV) (.at (.v .ae) .az)) (.cons (.nN lL ko) (.cons (.ite (.cmp (.v .cV) (.cons .eq (.at (.v .ae) .az) .nil)) (.cons (.ite (.cmp (.at (.v .ae) .az) (.cons .ne (.at (.v .ae) .aH) .nil)) (.cons .brk .nil) .nil) .nil) (.cons (.ite (.cmp (.v .cV) (.cons .ne (.at (.v .ae) .aH) .nil)) (.cons (.exp (.aq (.v .fq) .ak (.cons (.sl (.at (.v .ae) .bC) (.at (.v .ae) .az) (.v .cV)) .nil))) (.cons (.asg (.at (.v .ae) .az) (.v .cV)) (.cons .brk .nil))) .nil) .nil)) (.cons (.exp (.aq (.v .fq) .ak (.cons (.sl (.at (.v .ae) .bC) (.at (.v .ae) .az) .no) .nil))) (.cons (.ite (.not (.aq (.v .ae) .gx .nil)) (.cons .brk .nil) .nil) .nil)))))
theorem NU:mP=.cons (.asg (.v .fq) (.lst .nil false)) (.cons (.nN (.c (.bool true)) fj) (.cons (.asg (.v .Qy) (.aq (.c (.str [])) .gJ (.cons (.v .fq) .nil))) (.cons (.ret (.v .Qy)) .nil))):=rfl
theorem nY:G3.fuel=2000000+1:=rfl
theorem GR {b:c5} {σ σ2:St} (h:cG G3 b σ=some (.bk,σ2)):ex G3 (.nN (.c (.bool true)) b) σ=some (.nx,σ2):=by
 show fc G3.fuel (cZ G3 (.c (.bool true))) (cG G3 b) σ=_
 rw [nY]
 exact Mf (σ1:=σ) rfl h
theorem u5 {H:List AO} {n:Nat} {vs:List AV} {l:List (List Nat)} (h:H[n]?=some (.list vs)) (h2:jm vs=some l):jJ H .gJ [] [.a5 n]=some (.str l.flatten,[l.flatten.length]):=by
 refine aA (o:=Bq H (.a5 n)) (f:=λvs=>cond true ((jm vs).map λ(l:List (List Nat))=>(AV.str l.flatten,[l.flatten.length])) none) (gZ h) ?_
 show(jm vs).map (λ(l:List (List Nat))=>(AV.str l.flatten,[l.flatten.length]))=_
 rw [h2]
 rfl
noncomputable def uV (cv:AV) (cM:Bool):List (Nm×AV):=[(.ae,.inst .ay 3),(.cI,cv),(.dj,.bool cM)]
theorem jF {H H2:List AO} {cv:AV} {cM:Bool} {V:List (Nm×AV)} {O:List Nat} {x:List Nat} {vs:List AV} (hb:cG G3 fj {H:=H++[.list []],V:=uV cv cM++[(.fq,.a5 H.length)],O:=[0]}=some (.bk,{H:=H2++[.list vs],V:=uV cv cM++((.fq,.a5 H.length)::V),O:=O}))
  (hl:H2.length=H.length) (hv:jm vs=some [x]\/(vs=[]/\x=[])) (hr:lk V .Qy=none) :
  ∃V',cG G3 mP {H:=H,V:=uV cv cM,O:=[]}=some (.rt (.str x),{H:=H2++[.list vs],V:=V',O:=x.length::O}):=by
 have e1:ex G3 (.asg (.v .fq) (.lst .nil false)) {H:=H,V:=uV cv cM,O:=[]}=some (.nx,{H:=H++[.list []],V:=uV cv cM++[(.fq,.a5 H.length)],O:=[0]}):=by kernel_rfl
 have aL:(H2++[AO.list vs])[H.length]?=some (.list vs):=by rw [<-hl];simp
 have hj:jJ (H2++[.list vs]) .gJ [] [.a5 H.length]=some (.str x,[x.length]):=by
  rcases hv with hv|⟨rfl,rfl⟩
  ·have:=u5 aL hv;simpa using this
  ·exact u5 (l:=[]) aL rfl
 rw [NU]
 exact⟨_,aK e1 (aK (GR hb) (aK (b9 (d0 rfl (nD rfl) (aU (bZ rfl) rfl) (ny hj))) (ik (bZ bp))))⟩
end
theorem Ky (H:List AO) (rb au:List Nat):vx H (.str (rb.reverse++au)) (.int (rb.length:Int)) .none=some (.str au):=by
 show some (AV.str (eM (rb.reverse++au) (dh (rb.length:Int) (rb.reverse++au).length) (rb.reverse++au).length))=_
 rw [show dh (rb.length:Int) (rb.reverse++au).length=rb.length from(clipAt_nat _ _).trans (Nat.min_eq_left (by simp))]
 unfold eM
 rw [List.take_length,<-List.length_reverse (as:=rb),List.drop_left]
theorem PY (H:List AO) (rb pre rest:List Nat):vx H (.str (rb.reverse++(pre++rest))) (.int (rb.length:Int)) (.int ((rb.length+pre.length:Nat):Int))=some (.str pre):=by
 have h :∀n:Nat,n<=(rb.reverse++(pre++rest)).length->dh (n:Int) (rb.reverse++(pre++rest)).length=n:=λn hn=>(clipAt_nat _ _).trans (Nat.min_eq_left hn)
 show some (AV.str (eM (rb.reverse++(pre++rest)) (dh _ _) (dh _ _)))=_
 rw [h _ (by simp),h _ (by simp)]
 unfold eM
 have:(rb.reverse++(pre++rest)).take (rb.length+pre.length)=rb.reverse++pre:=by
  rw [<-List.append_assoc,List.take_left']
  simp
 rw [this,<-List.length_reverse (as:=rb),List.drop_left]
local macro_rules | `(tactic| trivial) => `(tactic| with_reducible first | apply pM | apply MJ | apply FV | apply FT)
section
variable {H:List AO} {ao:AO} {aR:List (Nm×AV)} {cv:AV} {cM:Bool} {rb au:List Nat}
theorem KR (hc:LK cv=true) (h1:H[3]?=some ao) (h2:ao.fl=some aR) (h3:lk aR .bC=some (.str (rb.reverse++au))) (h4:lk aR .aH=some (.int ((rb.reverse++au).length:Int))) (h5:lk aR .az=some (.int (rb.length:Int)))
  (hl:au.length<=1000000) (hp:iw cv cM au=[]) (hr:oM cv cM au≠[]) :
  cG G3 fj {H:=H++[.list []],V:=uV cv cM++[(.fq,.a5 H.length)],O:=[0]}=some (.bk,{H:=H++[.list []],V:=uV cv cM++((.fq,.a5 H.length)::[(.cV,.int (rb.length:Int))]),O:=[0]}):=by
 have hx:(H++[AO.list []])[3]?=some ao:=(List.getElem?_append_left (iP h1)).trans h1
 have hf:iO (H++[.list []]) 3=some aR:=aA hx h2
 have hw:=lh (L:=H.length) (cM:=cM) hc hx h2 h3 h4 [0] au rb G3.fuel rfl (by rw [nY];lia)
 rw [hp]at hw
 have hd:0<au.length:=List.length_pos_iff.mpr λz=>hr (by rw [z];rfl)
 have c1:(!((rb.length:Int)==((rb.reverse++au).length:Int)))=true:=by rw [beq_eq_false_iff_ne.mpr (show(rb.length:Int)≠((rb.reverse++au).length:Int)by simp;lia)];rfl
 have c2:((rb.length:Int)==(rb.length:Int))=true:=beq_self_eq_true _
 have hw':fc G3.fuel (cZ G3 lL) (cG G3 ko) {H:=H++[.list []],V:=pt (uV cv cM++[(.fq,.a5 H.length)]) .cV (.int (rb.length:Int)),O:=[0]}=some (.nx,{H:=H++[.list []],V:=uV cv cM++[(.fq,.a5 H.length),(.cV,.int (rb.length:Int))],O:=[0]}):=hw
 unfold fj
 apply run_eq
 repeat' trivial
theorem KS (hc:LK cv=true) (h1:H[3]?=some (.dict aR)) (h3:lk aR .bC=some (.str (rb.reverse++au))) (h4:lk aR .aH=some (.int ((rb.reverse++au).length:Int))) (h5:lk aR .az=some (.int (rb.length:Int)))
  (hl:au.length<=1000000) (hp:iw cv cM au≠[]) (hr:oM cv cM au≠[]) :
  cG G3 fj {H:=H++[.list []],V:=uV cv cM++[(.fq,.a5 H.length)],O:=[0]}=some (.bk,{H:=H.set 3 (.dict (pt aR .az (.int ((rb.length+(iw cv cM au).length:Nat):Int))))++[.list [.str (iw cv cM au)]],V:=uV cv cM++((.fq,.a5 H.length)::[(.cV,.int ((rb.length+(iw cv cM au).length:Nat):Int))]),O:=[aR.length+1,1,0]}):=by
 have lt:=iP h1
 have hx:(H++[AO.list []])[3]?=some (.dict aR):=(List.getElem?_append_left lt).trans h1
 have hf:iO (H++[.list []]) 3=some aR:=aA hx rfl
 have aS :∀x y:AO,(H++[x]).set H.length y=H++[y]:=λx y=>by simp [List.set_append_right]
 have aS3 :∀x y:AO,(H++[x]).set 3 y=H.set 3 y++[x]:=λx y=>List.set_append_left _ _ lt
 have hx2:((H++[AO.list []]).set H.length (AO.list ([]++[AV.str (iw cv cM au)])))[3]?=some (.dict aR):=by rw [aS];exact(List.getElem?_append_left lt).trans h1
 have hf2:iO ((H++[AO.list []]).set H.length (AO.list ([]++[AV.str (iw cv cM au)]))) 3=some aR:=aA hx2 rfl
 have hd2:gQ ((H++[AO.list []]).set H.length (AO.list ([]++[AV.str (iw cv cM au)]))) 3=some aR:=Iy hx2
 have hl2:fb (H++[.list []]) H.length=some []:=gZ (by simp)
 have hw:=lh (L:=H.length) (cM:=cM) hc hx rfl h3 h4 [0] au rb G3.fuel rfl (by rw [nY];lia)
 have hsum:=tQ cv cM au
 have hlen:au.length=(iw cv cM au).length+(oM cv cM au).length:=by rw [<-List.length_append,hsum]
 have p1:0<(iw cv cM au).length:=List.length_pos_iff.mpr hp
 have p2:0<(oM cv cM au).length:=List.length_pos_iff.mpr hr
 have c1:(((rb.length+(iw cv cM au).length:Nat):Int)==(rb.length:Int))=false:=beq_eq_false_iff_ne.mpr (by lia)
 have c2:(!(((rb.length+(iw cv cM au).length:Nat):Int)==((rb.reverse++au).length:Int)))=true:=by rw [beq_eq_false_iff_ne.mpr (show((rb.length+(iw cv cM au).length:Nat):Int)≠((rb.reverse++au).length:Int)by simp;lia)];rfl
 have hs:vx (H++[.list []]) (.str (rb.reverse++au)) (.int (rb.length:Int)) (.int ((rb.length+(iw cv cM au).length:Nat):Int))=some (.str (iw cv cM au)):=by
  have:=PY (H++[.list []]) rb (iw cv cM au) (oM cv cM au)
  rwa [hsum]at this
 have hw':fc G3.fuel (cZ G3 lL) (cG G3 ko) {H:=H++[.list []],V:=pt (uV cv cM++[(.fq,.a5 H.length)]) .cV (.int (rb.length:Int)),O:=[0]}=some (.nx,{H:=H++[.list []],V:=uV cv cM++[(.fq,.a5 H.length),(.cV,.int ((rb.length+(iw cv cM au).length:Nat):Int))],O:=[0]}):=hw
 have run:cG G3 fj {H:=H++[.list []],V:=uV cv cM++[(.fq,.a5 H.length)],O:=[0]}=some (.bk,{H:=((H++[AO.list []]).set H.length (AO.list ([]++[AV.str (iw cv cM au)]))).set 3 (.dict (pt aR .az (.int ((rb.length+(iw cv cM au).length:Nat):Int)))),V:=uV cv cM++((.fq,.a5 H.length)::[(.cV,.int ((rb.length+(iw cv cM au).length:Nat):Int))]),O:=[aR.length+1,1,0]}):=by
  unfold fj
  apply run_eq
  repeat' trivial
 rw [aS,aS3]at run
 exact run
theorem zI {H2:List AO} (hc:LK cv=true) (h1:H[3]?=some ao) (h2:ao.fl=some aR) (h3:lk aR .bC=some (.str (rb.reverse++au))) (h4:lk aR .aH=some (.int ((rb.reverse++au).length:Int))) (h5:lk aR .az=some (.int (rb.length:Int)))
  (h6:lk aR .gx=none) (hl:au.length<=1000000) (hr:oM cv cM au=[]) (kr:G3.call .iL [.inst .ay 3] (H++[.list [.str au]])=some (.bool false,H2++[.list [.str au]],[])) :
  cG G3 fj {H:=H++[.list []],V:=uV cv cM++[(.fq,.a5 H.length)],O:=[0]}=some (.bk,{H:=H2++[.list [.str au]],V:=uV cv cM++((.fq,.a5 H.length)::[(.cV,.int ((rb.length+au.length:Nat):Int))]),O:=[1,0]}):=by
 have lt:=iP h1
 have hx:(H++[AO.list []])[3]?=some ao:=(List.getElem?_append_left lt).trans h1
 have hf:iO (H++[.list []]) 3=some aR:=aA hx h2
 have aS :∀x y:AO,(H++[x]).set H.length y=H++[y]:=λx y=>by simp [List.set_append_right]
 have hf2:iO ((H++[AO.list []]).set H.length (AO.list ([]++[AV.str au]))) 3=some aR:=by
  rw [aS]
  exact aA ((List.getElem?_append_left lt).trans h1) h2
 have hl2:fb (H++[.list []]) H.length=some []:=gZ (by simp)
 have kr':G3.call .iL [.inst .ay 3] ((H++[AO.list []]).set H.length (AO.list ([]++[AV.str au])))=some (.bool false,H2++[.list [.str au]],[]):=by
  rw [aS]
  exact kr
 have hw:=lh (L:=H.length) (cM:=cM) hc hx h2 h3 h4 [0] au rb G3.fuel rfl (by rw [nY];lia)
 have hsum:=tQ cv cM au
 rw [hr,List.append_nil]at hsum
 rw [hsum]at hw
 have hs:=Ky (H++[.list []]) rb au
 have hw':fc G3.fuel (cZ G3 lL) (cG G3 ko) {H:=H++[.list []],V:=pt (uV cv cM++[(.fq,.a5 H.length)]) .cV (.int (rb.length:Int)),O:=[0]}=some (.nx,{H:=H++[.list []],V:=uV cv cM++[(.fq,.a5 H.length),(.cV,.int ((rb.length+au.length:Nat):Int))],O:=[0]}):=hw
 have e0:((rb.reverse++au).length:Int)=((rb.length+au.length:Nat):Int):=by simp
 have c2:(!(((rb.length+au.length:Nat):Int)==((rb.reverse++au).length:Int)))=false:=by rw [e0,beq_self_eq_true];rfl
 by_cases ha:au=[]
 ·have c1:(((rb.length+au.length:Nat):Int)==(rb.length:Int))=true:=by rw [ha];exact beq_self_eq_true _
  have c3:(!((rb.length:Int)==((rb.reverse++au).length:Int)))=false:=by rw [ha];simp
  clear ha
  unfold fj
  apply run_eq
  repeat' trivial
 ·have p1:0<au.length:=List.length_pos_iff.mpr ha
  have c1:(((rb.length+au.length:Nat):Int)==(rb.length:Int))=false:=beq_eq_false_iff_ne.mpr (by lia)
  unfold fj
  apply run_eq
  repeat' trivial
end
theorem wi {cv:AV} {cM:Bool} {q:List AV} (r m k:AO) (J:List AO) (rb au t:List Nat) (hc:LK cv=true) (hb:kG kq [.bool false] (.inst .ay 3::cv::q)=some (uV cv cM)) (hl:au.length<=1000000) :
  gr G3 oK (.inst .ay 3::cv::q) (r::m::k::.ay 4 3 rb au false::.txt t true::J) (.str (iw cv cM au))
   (r::m::k::.ay 4 3 ((iw cv cM au).reverse++rb) (oM cv cM au) (oM cv cM au).isEmpty::.txt t true::J) [au.length]:=by
 have hsum:=tQ cv cM au
 have nK :∀(a b:List Nat) (e:Bool),mq (r::m::k::.ay 4 3 rb au false::.txt t true::J).length (r::m::k::.ay 4 3 rb au false::.txt t true::J)->mq (r::m::k::.ay 4 3 a b e::.txt t true::J).length (r::m::k::.ay 4 3 a b e::.txt t true::J):=
  λa b e h=>iD h (fi (by simp) _ _ _) (gW _ _)
 by_cases hr:oM cv cM au=[]
 ·have ht:iw cv cM au=au:=by rw [hr,List.append_nil]at hsum;exact hsum
  have kr:G3.call .iL [.inst .ay 3] ((r::m::k::.ay 4 3 rb au false::.txt t true::J)++[.list [.str au]])=some (.bool false,(r::m::k::.ay 4 3 (au.reverse++rb) [] true::.txt t true::J)++[.list [.str au]],[]):=by kernel_rfl
  have hsz:lk (aG 4 3 rb au false) .aH=some (.int ((rb.reverse++au).length:Int)):=by
   have:lk (aG 4 3 rb au false) .aH=some (.int ((rb.length+au.length:Nat):Int)):=by kernel_rfl
   rw [this];simp
  have hbd:=zI (cM:=cM) (H:=r::m::k::.ay 4 3 rb au false::.txt t true::J) (ao:=.ay 4 3 rb au false) (aR:=aG 4 3 rb au false) hc rfl rfl (by kernel_rfl) hsz (by kernel_rfl) (by kernel_rfl) hl hr kr
  obtain⟨V',he⟩:=jF (x:=au) hbd (by simp) (.inl rfl) (by kernel_rfl)
  rw [ht,hr]
  refine⟨_,_,_,_,hb,rfl,.refl _,he,rfl,gT.pre _ _,by simp,λh _=>⟨nK _ _ _ h,.str _⟩,λk hk=>?_⟩
  simp at hk
  rcases hk with rfl|rfl|rfl
  ·exact .inr ⟨_,.head _,Nat.le_refl _⟩
  ·left;lia
  ·left;lia
 ·have hre:(oM cv cM au).isEmpty=false:=by
   cases hd:oM cv cM au with
   |nil=>exact absurd hd hr
   |cons a b=>rfl
  rw [hre]
  by_cases hp:iw cv cM au=[]
  ·have hd:oM cv cM au=au:=by rw [hp,List.nil_append]at hsum;exact hsum
   have hsz:lk (aG 4 3 rb au false) .aH=some (.int ((rb.reverse++au).length:Int)):=by
    have:lk (aG 4 3 rb au false) .aH=some (.int ((rb.length+au.length:Nat):Int)):=by kernel_rfl
    rw [this];simp
   have hbd:=KR (cM:=cM) (H:=r::m::k::.ay 4 3 rb au false::.txt t true::J) (ao:=.ay 4 3 rb au false) (aR:=aG 4 3 rb au false) hc rfl rfl (by kernel_rfl) hsz (by kernel_rfl) hl hp hr
   obtain⟨V',he⟩:=jF (x:=[]) hbd rfl (.inr ⟨rfl,rfl⟩) (by kernel_rfl)
   rw [hp,hd]
   refine⟨_,_,_,_,hb,rfl,.refl _,he,rfl,gT.pre _ _,Nat.le_refl _,λh _=>⟨h,.str _⟩,λk hk=>?_⟩
   simp at hk
   subst hk
   left;lia
  ·have hsz:lk (aG 4 3 rb au false) .aH=some (.int ((rb.reverse++au).length:Int)):=by
    have:lk (aG 4 3 rb au false) .aH=some (.int ((rb.length+au.length:Nat):Int)):=by kernel_rfl
    rw [this];simp
   have hbd:=KS (cM:=cM) (H:=r::m::k::.dict (aG 4 3 rb au false)::.txt t true::J) (aR:=aG 4 3 rb au false) hc rfl (by kernel_rfl) hsz (by kernel_rfl) hl hp hr
   obtain⟨V',he⟩:=jF (x:=iw cv cM au) hbd (by simp) (.inl rfl) (by kernel_rfl)
   refine⟨_,r::m::k::.dict (aG 4 3 rb au false)::.txt t true::J,_,_,hb,rfl,.cons (.refl _) (.cons (.refl _) (.cons (.refl _) (.cons (.inr ⟨_,rfl,rfl⟩) (.refl _)))),he,rfl,?_,Nat.le_refl _,λh _=>⟨nK _ _ _ h,.str _⟩,λk hk=>?_⟩
   ·show gT (r::m::k::.dict (pt (aG 4 3 rb au false) .az _)::.txt t true::(J++[_])) _
    refine .cons (.refl _) (.cons (.refl _) (.cons (.refl _) (.cons (.inr ⟨_,rfl,?_⟩) (.cons (.refl _) (gT.pre _ _)))))
    have e1:(((iw cv cM au).reverse++rb).reverse++oM cv cM au)=rb.reverse++au:=by
     rw [List.reverse_append,List.reverse_reverse,List.append_assoc,hsum]
    have e2:(((iw cv cM au).reverse++rb).length+(oM cv cM au).length:Nat)=rb.length+au.length:=by
     have:=congrArg List.length hsum
     simp at this ⊢;lia
    have e3:(((iw cv cM au).reverse++rb).length:Nat)=rb.length+(iw cv cM au).length:=by simp;lia
    simp only [AO.fl,aG,cond_false,e1,e2,e3]
    simp [pt]
    have e4:=congrArg List.length hsum
    simp at e4
    congr 1
    lia
   ·simp [aG]at hk
    rcases hk with rfl|rfl|rfl|rfl
    ·refine .inr ⟨_,.head _,?_⟩
     have:=congrArg List.length hsum
     simp at this;lia
    ·left;lia
    ·left;lia
    ·left;lia
theorem BH {cv:AV} {cM:Bool} {q:List AV} (r m k:AO) (J:List AO) (rb t:List Nat) (hc:LK cv=true) (hb:kG kq [.bool false] (.inst .ay 3::cv::q)=some (uV cv cM)) :
  gr G3 oK (.inst .ay 3::cv::q) (r::m::k::.ay 4 3 rb [] true::.txt t true::J) (.str []) (r::m::k::.ay 4 3 rb [] true::.txt t true::J) [0]:=by
 have kr:G3.call .iL [.inst .ay 3] ((r::m::k::.ay 4 3 rb [] true::.txt t true::J)++[.list [.str []]])=some (.bool false,(r::m::k::.ay 4 3 rb [] true::.txt t true::J)++[.list [.str []]],[]):=by kernel_rfl
 have hbd:=zI (cM:=cM) (rb:=[]) (au:=[]) (H:=r::m::k::.ay 4 3 rb [] true::.txt t true::J) (ao:=.ay 4 3 rb [] true) (aR:=aG 4 3 rb [] true) hc rfl rfl (by kernel_rfl) (by kernel_rfl) (by kernel_rfl) (by kernel_rfl) (by simp) rfl kr
 obtain⟨V',he⟩:=jF (x:=[]) hbd rfl (.inl rfl) (by kernel_rfl)
 refine⟨_,_,_,_,hb,rfl,.refl _,he,rfl,gT.pre _ _,Nat.le_refl _,λh _=>⟨h,.str _⟩,λk hk=>?_⟩
 simp at hk
 left;lia
noncomputable def Pr:List AV->Option Bool
 |[]=>some false
 |[.bool o]=>some o
 |_=>none
theorem ry {cv:AV} {q:List AV} {cM:Bool} (h:Pr q=some cM):kG kq [.bool false] (.inst .ay 3::cv::q)=some (uV cv cM):=by
 unfold Pr at h
 split at h
 ·cases h;rfl
 ·cases h;rfl
 ·cases h
noncomputable def M8 (cv:AV) (q:List AV) (r m k:AO) (rb au:List Nat) (en:Bool) (t:List Nat) (J:List AO):Option (CP HW G3 .pU (.inst .ay 3::cv::q) (r::m::k::.ay 4 3 rb au en::.txt t true::J)):=
 match hc:LK cv,ho:Pr q with
 |true,some cM=>(match en,au with
  |false,au=>some ⟨(.str (iw cv cM au),r::m::k::.ay 4 3 ((iw cv cM au).reverse++rb) (oM cv cM au) (oM cv cM au).isEmpty::.txt t true::J,[au.length]),λhL=>⟨_,oX,wi _ _ _ _ _ _ _ hc (ry ho) (by
    have:=hL _ (.tail _ (.tail _ (.tail _ (.head _)))) _ rfl .bC _ rfl
    simp at this
    unfold ew at this
    lia)⟩⟩
  |true,[]=>some ⟨(.str [],r::m::k::.ay 4 3 rb [] true::.txt t true::J,[0]),λ_=>⟨_,oX,BH _ _ _ _ _ _ hc (ry ho)⟩⟩
  |true,_::_=>none)
 |_,_=>none
noncomputable def cC :∀f as H,Option (CP HW G3 f as H)
 |.ip,[.inst .ay 3],r::m::k::.ay 4 3 rb (c::au) false::T::J=>some ⟨(.str [c],r::m::k::.ay 4 3 (c::rb) au false::T::J,[]),λ_=>⟨_,jc,CH _ _ _ _ _ _ _ _⟩⟩
 |.ip,[.inst .ay 3],r::m::k::.ay 4 3 rb [] en::.txt t true::J=>some ⟨(.none,r::m::k::.ay 4 3 rb [] true::.txt t true::J,[]),λ_=>⟨_,jc,CG _ _ _ _ _ _ _⟩⟩
 |.ip,[.inst .ay 3],r::m::k::.ay 4 3 [] [] true::.txt [] false::J=>some ⟨(.none,r::m::k::.ay 4 3 [] [] true::.txt [] true::J,[]),λ_=>⟨_,jc,CI _ _ _ _⟩⟩
 |.ip,[.inst .ay 3],r::m::k::.ay 4 3 [] [] true::.txt (c::t) false::J=>Ja ((c::t).all yU&&Nat.ble (c::t).length 10240) λh=>⟨(.str [c],r::m::k::.ay 4 3 [c] t false::.txt (c::t) true::J,[]),λ_=>⟨_,jc,uh _ _ _ _ _ _ h⟩⟩
 |.pT,[.inst .ay 3,.none],H=>some ⟨(.none,H,[]),λ_=>⟨_,oW,GL _⟩⟩
 |.pT,[.inst .ay 3,.str [c]],r::m::k::.ay 4 3 (d::rb) au false::T::J=>Ja (Nat.beq c d) λh=>⟨(.none,r::m::k::.ay 4 3 rb (d::au) false::T::J,[]),λ_=>⟨_,oW,Nat.eq_of_beq_eq_true h▸BG _ _ _ _ _ _ _ _⟩⟩
 |.pU,.inst .ay 3::cv::q,r::m::k::.ay 4 3 rb au en::.txt t true::J=>M8 cv q r m k rb au en t J
 |_,_,_=>none
noncomputable def G4:cy:=A5 G3 cC
theorem z6 (r m k:AO) (J:List AO) (c:Nat) (t:List Nat) (h:((c::t).all yU&&Nat.ble (c::t).length 10240)=true) :
  G4.call .ip [.inst .ay 3] (r::m::k::.ay 4 3 [] [] true::.txt (c::t) false::J)=some (.str [c],r::m::k::.ay 4 3 [c] t false::.txt (c::t) true::J,[]):=
 mW ((by kernel_rfl:cC .ip [.inst .ay 3] (r::m::k::.ay 4 3 [] [] true::.txt (c::t) false::J)=Ja ((c::t).all yU&&Nat.ble (c::t).length 10240) λh=>⟨(.str [c],r::m::k::.ay 4 3 [c] t false::.txt (c::t) true::J,[]),λ_=>⟨_,jc,uh _ _ _ _ _ _ h⟩⟩).trans (o2 h))
theorem QJ (w:World):bq (SS w) G4 8:=n8 (QI w) λ_ _ h=>h w
noncomputable def fs5 :∀f,Option (FD HW f)
 |.zu=>some ⟨yu,Ar⟩
 |.zD=>some ⟨yw,Av⟩
 |.pq=>some ⟨oI,w4⟩
 |.lSeek=>some ⟨rX,Ap⟩
 |_=>none
noncomputable def QL:cy:=lay G4 fs5
theorem Mw (w:World):bq (SS w) QL 10:=sL (QJ w) λ_ _ h=>h w
theorem jo.up {m n:Nat} (h:m<=n) {v:AV}:jo m v->jo n v:=
 AV.rec (motive_1:=λa=>jo m a->jo n a) (motive_2:=λas=>iV m as->iV n as) (motive_3:=λas=>jM m as->jM n as) (motive_4:=λp=>jo m p.2->jo n p.2)
  (λc=>c) (λ_ c=>c) (λ_ c=>c) (λ_ c=>c) (λ_ ih c=>ih c) (λ_ ih c=>ih c) (λ_ ih c=>ih c) (λ_ c=>c) (λ_ c=>Nat.lt_of_lt_of_le c h) (λ_ c=>c) (λ_ c=>c) (λ_ c=>c) (λ_ _ ih c=>ih c) (λ_ _ c=>Nat.lt_of_lt_of_le c h)
  (λc=>c) (λ_ _ i j c=>⟨i c.1,j c.2⟩) (λc=>c) (λ_ _ i j c=>⟨i c.1,j c.2⟩) (λ_ _ ih=>ih) v
theorem iV.up {m n:Nat} (h:m<=n) :∀{v:List AV},iV m v->iV n v
 |[],c=>c
 |_::_,c=>⟨jo.up h c.1,iV.up h c.2⟩
theorem jM.up {m n:Nat} (h:m<=n) :∀{v:List (Nm×AV)},jM m v->jM n v
 |[],c=>c
 |_::_,c=>⟨jo.up h c.1,jM.up h c.2⟩
theorem jL.up {m n:Nat} (h:m<=n) {ao:AO} (c:jL m ao):jL n ao:=by
 cases ao with
 |list vs=>exact iV.up h c
 |_=>exact λaR e=>jM.up h (c aR e)
theorem vq (r m k:AO) (t:List Nat):gr QL yt [.inst .ay 3,.str t] [r,m,k,.dict []] .none [r,m,k,.ay 4 3 [] [] true,.txt t false] []:=by
 refine⟨[(.ae,.inst .ay 3),(.gy,.str t)],[r,m,k,.dict []],.nx,⟨[r,m,k,.dict (aG 4 3 [] [] true),.dict [(.aj,.str t),(.ah,.int 0)]],[(.ae,.inst .ay 3),(.gy,.str t)],[10,9,8,7,0,6,5,4,3,2,1,2,1,1]⟩,rfl,rfl,.refl _,?_,rfl,?_,by simp,?_,?_⟩
 ·show cG QL uX _=_
  kernel_rfl
 ·exact .cons (.refl _) (.cons (.refl _) (.cons (.refl _) (.cons (.inr ⟨_,rfl,rfl⟩) (.cons (.inr ⟨_,rfl,rfl⟩) (.refl _)))))
 ·intro h _
  refine⟨λao hm=>?_,.none⟩
  simp only [List.mem_cons,List.not_mem_nil,or_false]at hm
  have up :∀{ao:AO},ao∈[r,m,k,.dict []]->jL 5 ao:=λq=>jL.up (m:=4) (by decide) (h _ q)
  rcases hm with rfl|rfl|rfl|rfl|rfl
  ·exact up (.head _)
  ·exact up (.tail _ (.head _))
  ·exact up (.tail _ (.tail _ (.head _)))
  ·exact fi (by simp) _ _ _
  ·exact gW _ _
 ·intro k hk
  left
  simp at hk;omega
noncomputable def cD :∀f as H,Option (CP HW QL f as H)
 |.zt,[.inst .ay 3,.str t],[r,m,k,.dict []]=>some ⟨(.none,[r,m,k,.ay 4 3 [] [] true,.txt t false],[]),λ_=>⟨_,Aq,vq _ _ _ _⟩⟩
 |_,_,_=>none
noncomputable def G5:cy:=A5 QL cD
theorem QK (w:World):bq (SS w) G5 12:=n8 (Mw w) λ_ _ h=>h w
noncomputable def fs6 :∀f,Option (FD HW f)
 |.lClose=>some ⟨lA,w0⟩
 |_=>none
noncomputable def G6:cy:=lay G5 fs6
theorem QM (w:World):bq (SS w) G6 14:=sL (QK w) λ_ _ h=>h w
noncomputable def fs7 :∀f,Option (FD HW f)
 |.wa=>some ⟨yx,Aw⟩
 |.bw=>some ⟨yv,Au⟩
 |.tS=>some ⟨RQ,NP⟩
 |.tSLt=>some ⟨CX,DC⟩
 |.tSEO=>some ⟨CV,DA⟩
 |.tSEN=>some ⟨CU,Dz⟩
 |.tSES=>some ⟨CW,DB⟩
 |.tSESD=>some ⟨yF,AG⟩
 |.tSE=>some ⟨Lh,I9⟩
 |.tSED=>some ⟨CT,Dy⟩
 |.tSEDD=>some ⟨yB,AA⟩
 |.tSELt=>some ⟨yE,AF⟩
 |.tSEEO=>some ⟨yD,AD⟩
 |.tSEEN=>some ⟨yC,AB⟩
 |.tSDES=>some ⟨yA,Az⟩
 |.tSDE=>some ⟨CS,Dx⟩
 |.tSDED=>some ⟨yy,Ax⟩
 |.bG=>some ⟨uB,w8⟩
 |.bB=>some ⟨uC,w9⟩
 |.tSDEE=>some ⟨yz,Ay⟩
 |.jC=>some ⟨CQ,Dv⟩
 |.tAN=>some ⟨Ld,I7⟩
 |.BB=>some ⟨CR,Dw⟩
 |.BA=>some ⟨CO,Du⟩
 |.BN=>some ⟨Lf,I8⟩
 |_=>none
noncomputable def G7:cy:=lay G6 fs7
theorem QN (w:World):bq (SS w) G7 16:=sL (QM w) λ_ _ h=>h w
noncomputable def tk (f:Fn) (ct:AV) (q:Nat) (tb:List (Nm×AV)):AO:=.dict ((.aE,.inst .ay 3)::(.gw,.none)::(.fZ,.bool false)::(.ee,.lst [])::(.aC,.bD f (.inst .tok 2))::(.j0,.bool false)::(.aB,ct)::(.ai,.a5 q)::tb)
noncomputable def gg (nm:List Nat):AO:=.dict [(.aJ,.int 3),(.aO,.str nm),(.af,.lst [])]
noncomputable abbrev HA (R M:AO) (nm t:List Nat) (f:Fn) (rb au:List Nat) (en:Bool) (tb:List (Nm×AV)) (got qs:List AV):List AO:=
 [R,M,tk f (.a5 5) 7 tb,.ay 4 3 rb au en,.txt t true,gg nm,.list got,.list qs]
noncomputable abbrev HB (R M:AO) (nm t:List Nat) (f:Fn) (rb au:List Nat) (en:Bool) (tb:List (Nm×AV)) (got qs:List AV):List AO:=
 [R,M,tk f .none 6 tb,.ay 4 3 rb au en,.txt t true,.list got,.list qs]
noncomputable abbrev cH (b:List Nat):List (Nm×AV):=[(.aF,.str b)]
noncomputable def aT (kd:Int) (d:List Nat):AV:=.ck [(.aJ,.int kd),(.af,.str d)]
noncomputable def Lm (o:List Nat):Prop:=∀k∈o,k<=ew
theorem Lm.app {a b:List Nat} (h:Lm a) (h':Lm b):Lm (a++b):=λk m=>(List.mem_append.mp m).elim (h k) (h' k)
theorem Lm.nil:Lm []:=λ_ m=>nomatch m
theorem Lm.cons {a:Nat} {b:List Nat} (h:a<=ew) (h':Lm b):Lm (a::b):=λk m=>by
 rcases List.mem_cons.mp m with rfl|m
 ·exact h
 ·exact h' k m
noncomputable def hp (R M:AO) (o:Option (List Nat)) (t:List Nat) (f:Fn) (rb au:List Nat) (en:Bool) (tb:List (Nm×AV)) (got qs:List AV):List AO:=match o with
 |some nm=>HA R M nm t f rb au en tb got qs
 |none=>HB R M [] t f rb au en tb got qs
noncomputable def An:Option (List Nat)->Nat
 |some _=>6
 |none=>5
noncomputable def qr:St->Option (Fl×St):=cG G7 nZ
noncomputable abbrev uQ (k:Nat) (ph:Bool) (σ:St):Option St:=d6 G7 2 .aD qr k ph σ
noncomputable def bE (rb:List Nat):AV:=.tup [.int (kM rb+1),.int (f9 rb)]
structure HL (o:Option (List Nat)) (V0 V:List (Nm×AV)):Prop where
 same :∀x,x≠.aD->lk V x=lk V0 x
 tok:lk V0 .aN=some (.inst .tok 2)
 got:lk V0 .e9=some (.a5 (An o))
theorem HL.pt {o:Option (List Nat)} {V0 V:List (Nm×AV)} (h:HL o V0 V) (v:AV):HL o V0 (pt V .aD v):=by
 refine⟨λx hx=>?_,h.tok,h.got⟩
 rw [<-h.same x hx]
 rw [Lv,if_neg λz=>hx z.symm]
structure wq (R M:AO) (o:Option (List Nat)) (t:List Nat) (V0:List (Nm×AV)) (f:Fn) (rb au:List Nat) (en:Bool) (tb:List (Nm×AV)) (got:List AV) (σ:St):Prop where
 h:σ.H=hp R M o t f rb au en tb got []
 v:HL o V0 σ.V
 lm:Lm σ.O
noncomputable def g6 (P Q:St->Prop):Prop:=∀σ,P σ->∃c σ',Q σ'/\∀k,uQ (k+c) true σ=uQ k true σ'
theorem g6.refl (P:St->Prop):g6 P P:=λσ h=>⟨0,σ,h,λ_=>rfl⟩
theorem g6.trans {P Q S:St->Prop} (h:g6 P Q) (h':g6 Q S):g6 P S:=λσ p=>by
 obtain⟨c,σ1,q,e⟩:=h σ p
 obtain⟨d,σ2,s,e'⟩:=h' σ1 q
 exact⟨d+c,σ2,s,λk=>by rw [<-Nat.add_assoc,e,e']⟩
section
variable {R M:AO} {o:Option (List Nat)} {t:List Nat} {V0:List (Nm×AV)} {f f':Fn} {rb au rb' aft':List Nat} {en en':Bool} {tb tb':List (Nm×AV)} {got qs:List AV} {σ:St}
theorem wX {V:List (Nm×AV)} {O os:List Nat} {b:Bool} {H':List AO} (e:G7.call f [.inst .tok 2] (hp R M o t f rb au en tb got qs)=some (.bool b,H',os)) :
  cZ G7 wW (mj 2 ⟨hp R M o t f rb au en tb got qs,V,O⟩)=some (b,⟨H',gV 2,os++O⟩):=by
 cases o<;>exact j9 (bZ rfl) (pE rfl rfl) rfl (nv (uM e)) rfl
theorem Dl {O:List Nat}:cZ G7 G8 ⟨hp R M o t f rb au en tb got qs,gV 2,O⟩=some (false,⟨hp R M o t f rb au en tb got qs,gV 2,O⟩):=by
 cases o<;>cases en<;>kernel_rfl
theorem yS {V:List (Nm×AV)} {O:List Nat}:cZ G7 BM (mj 2 ⟨hp R M o t f rb au en tb got [],V,O⟩)=some (false,⟨hp R M o t f rb au en tb got [],gV 2,O⟩):=by
 cases o<;>kernel_rfl
theorem Dm {V:List (Nm×AV)} {O:List Nat} {q:AV}:cZ G7 BM (mj 2 ⟨hp R M o t f rb au en tb got (q::qs),V,O⟩)=some (true,⟨hp R M o t f rb au en tb got (q::qs),gV 2,O⟩):=by
 cases o<;>kernel_rfl
theorem Dp {O:List Nat} {q:AV}:ev G7 Dn ⟨hp R M o t f rb au en tb got (q::qs),gV 2,O⟩=some (q,⟨hp R M o t f rb au en tb got qs,gV 2,O⟩):=by
 cases o<;>kernel_rfl
theorem zv:G7.call .lZ [.inst .ay 3] (hp R M o t f rb au en tb got qs)=some (bE rb,hp R M o t f rb au en tb got qs,[]):=by
 cases o<;>cases en<;>kernel_rfl
noncomputable def ZS:AV:=.str [116,121,112,101]
noncomputable def scC:AV:=.str [115,101,108,102,67,108,111,115,105,110,103]
noncomputable def Xg:AV:=.ck [(.rn,.int 0),(.lM,.int 1),(.iE,.int 2),(.o8,.int 3),(.u6,.int 4),(.o7,.int 5),(.rm,.int 6),(.lN,.int 7)]
theorem uc {H:List AO} {n:Nat} {kd:Int} {v:AV} {V:List (Nm×AV)} {O:List Nat} (h1:lk V .aD=some v) (h2:lk V .aN=some (.inst .tok 2)) (h3:lk V .e9=some (.a5 n))
  (k1:nM H v ZS=some (.int kd)) (k2:(kd==4)=true->∃sc,nM H v scC=some (.bool sc)) (m2:rP G7 H (.inst .tok 2) .aE=some (.inst .ay 3)) (m3:gS G7 H (.inst .ay 3) .dk=some (.inl (.bD .lZ (.inst .ay 3))))
  (p:G7.call .lZ [.inst .ay 3] H=some (bE rb,H,[])) (m4:H[n]?=some (.list got)) :
  qr ⟨H,V,O⟩=some (.nx,⟨H.set n (.list (got++[.tup [bE rb,v]])),V,[got.length+1]++(2::([]++O))⟩):=
 have g1:G7.glob .ag=some Xg:=by kernel_rfl
 have g3:G7.glob .f5=some (.bi .mQ):=by kernel_rfl
 have g4:G7.glob .o9=some (.bi .bool):=by kernel_rfl
 have g2:nM H Xg (.str [69,110,100,84,97,103])=some (.int 4):=by kernel_rfl
 have a0:cZ G7 (.cmp (.ix (.v .aD) (.c ZS)) (.cons .eq (.ix (.g .ag) (.c (.str [69,110,100,84,97,103]))) .nil)) ⟨H,V,O⟩=some (kd==4,⟨H,V,O⟩):=cN (jO (bZ h1) rfl k1) (fM (jO (ll g1) rfl g2) rfl)
 have a1:cZ G7 (.and (.cons (.cmp (.ix (.v .aD) (.c ZS)) (.cons .eq (.ix (.g .ag) (.c (.str [69,110,100,84,97,103]))) .nil)) (.cons (.not (.call (.g .f5) (.cons (.ix (.v .aD) (.c scC)) (.cons (.g .o9) .nil)))) .nil))) ⟨H,V,O⟩=some (false,⟨H,V,O⟩):=by
  cases hk:kd==4 with
  |false=>exact iU (eE (a0.trans (by rw [hk])) rfl)
  |true=>
   obtain⟨sc,k3⟩:=k2 hk
   exact iU (eE (b:=true) (a0.trans (by rw [hk])) (eE (b:=false) (ni (b:=true) (oo (r:=.bool true) (ll g3) (aU (jO (bZ h1) (by exact rfl) k3) (aU (ll g4) (by exact rfl))) (kD (os:=[]) (by exact rfl)) (by exact rfl))) (by exact rfl)))
 have a2:ex G7 (.exp (.aq (.v .e9) .ak (.cons (.tup (.cons (.aq (.at (.v .aN) .aE) .dk .nil) (.cons (.v .aD) .nil))) .nil))) ⟨H,V,O⟩=some (.nx,⟨H.set n (.list (got++[.tup [bE rb,v]])),V,[got.length+1]++(2::([]++O))⟩):=
  pO (d0 (bZ h3) (pF g0 (gZ m4)) (aU (i8 (aU (d0 (rY (bZ h2) m2) m3 (by exact rfl) (nv (uM p))) (aU (bZ h1) (by exact rfl)))) (by exact rfl)) (oQ (gZ m4) (by exact rfl))) (by exact rfl)
 show cG G7 nZ _=_ from dW a1 (aK a2 rfl)
theorem Cv {V:List (Nm×AV)} {O:List Nat} (hV:HL o V0 V) {kd:Int} {d:List Nat} (hk:(kd==4)=false) :
  qr ⟨hp R M o t f rb au en tb got qs,pt V .aD (aT kd d),O⟩=some (.nx,⟨hp R M o t f rb au en tb (got++[.tup [bE rb,aT kd d]]) qs,pt V .aD (aT kd d),[got.length+1]++(2::([]++O))⟩):=by
 have m2:rP G7 (hp R M o t f rb au en tb got qs) (.inst .tok 2) .aE=some (.inst .ay 3):=by cases o<;>kernel_rfl
 have m3:gS G7 (hp R M o t f rb au en tb got qs) (.inst .ay 3) .dk=some (.inl (.bD .lZ (.inst .ay 3))):=by cases o<;>cases en<;>kernel_rfl
 have m4:(hp R M o t f rb au en tb got qs)[An o]?=some (.list got):=by cases o<;>rfl
 refine(uc (n:=An o) bp (((hV.pt _).same .aN (by decide)).trans hV.tok) (((hV.pt _).same .e9 (by decide)).trans hV.got) (kd:=kd) (by kernel_rfl) (λz=>absurd (hk.symm.trans z) Bool.false_ne_true) m2 m3 zv m4).trans ?_
 cases o<;>rfl
theorem GG {os:List Nat} (e :∀got,G7.call f [.inst .tok 2] (hp R M o t f rb au en tb got [])=some (.bool true,hp R M o t f' rb' aft' en' tb' got [],os)) (hos:Lm os) :
  g6 (wq R M o t V0 f rb au en tb got) (wq R M o t V0 f' rb' aft' en' tb' got):=λσ p=>by
 obtain⟨H,V,O⟩:=σ
 obtain⟨rfl,hv,hl⟩:=p
 refine⟨2,⟨hp R M o t f' rb' aft' en' tb' got [],V,os++O⟩,⟨rfl,hv,hos.app hl⟩,λk=>?_⟩
 show d6 G7 2 .aD qr (k+1+1) true _=_
 exact aA (wX (e got)) (aA Dl (aA yS rfl))
theorem GH {os:List Nat} {kd:Int} {d:List Nat} (hk:(kd==4)=false) (hn:got.length<=500000) (e :∀got,G7.call f [.inst .tok 2] (hp R M o t f rb au en tb got [])=some (.bool true,hp R M o t f' rb' aft' en' tb' got [aT kd d],os)) (hos:Lm os) :
  g6 (wq R M o t V0 f rb au en tb got) (wq R M o t V0 f' rb' aft' en' tb' (got++[.tup [bE rb',aT kd d]])):=λσ p=>by
 obtain⟨H,V,O⟩:=σ
 obtain⟨rfl,hv,hl⟩:=p
 refine⟨3,⟨hp R M o t f' rb' aft' en' tb' (got++[.tup [bE rb',aT kd d]]) [],pt V .aD (aT kd d),[got.length+1]++(2::([]++(os++O)))⟩,⟨rfl,hv.pt _,?_⟩,λk=>?_⟩
 ·refine Lm.app (.cons ?_ .nil) (.cons (by decide) (Lm.app .nil (hos.app hl)))
  show got.length+1<=1000000
  lia
 show d6 G7 2 .aD qr (k+1+1+1) true _=_
 exact aA (wX (e got)) (aA Dl (aA Dm (aA Dp (aA (Cv hv hk) (aA yS rfl)))))
end
noncomputable def cb:Option (List Nat)->List (Nm×AV)
 |some b=>cH b
 |none=>[]
noncomputable def PH:AV:=.tup [.str [60],.str [0]]
noncomputable def PQ:AV:=.tup [.str [60],.str [45],.str [0]]
noncomputable def Bd:List Nat:=[101,111,102,45,105,110,45,115,99,114,105,112,116,45,105,110,45,115,99,114,105,112,116]
theorem bH {α:Type} {f g:Nat->α} {l:List Nat} (c:Nat) (m:c∈l) (h:l.map f=l.map g):f c=g c:=List.map_inj_left.mp h c m
noncomputable def eY:List Nat:=[115,99,114,105,112,116]
noncomputable abbrev Q0:List Nat:=[10,32,33,38,45,47,49,59,61,62,67,73,80,82,83,84,97,98,99,105,107,108,112,114,115,116,117,118,119,233]
noncomputable abbrev Q1:List Nat:=[10,32,38,45,49,59,60,61,62,67,73,80,82,83,84,97,98,99,105,107,108,112,114,115,116,117,118,119,233]
noncomputable abbrev t7:List Nat:=[67,73,80,82,83,84,97,98,99,105,107,108,112,114,115,116,117,118,119]
noncomputable abbrev MK:List Nat:=[10,32,33,38,45,47,49,59,60,61,62,233]
noncomputable abbrev ML:List Nat:=[10,32,33,38,47,49,59,60,61,62,67,73,80,82,83,84,97,98,99,105,107,108,112,114,115,116,117,118,119,233]
noncomputable abbrev Cf:List Nat:=[10,32,33,38,47,49,59,61,62,67,73,80,82,83,84,97,98,99,105,107,108,112,114,115,116,117,118,119,233]
noncomputable abbrev MM:List Nat:=[10,32,33,38,47,49,59,61,67,73,80,82,83,84,97,98,99,105,107,108,112,114,115,116,117,118,119,233]
noncomputable abbrev Q2:List Nat:=[10,32,33,38,45,49,59,60,61,62,233]
noncomputable abbrev MN:List Nat:=[33,38,45,49,59,60,61,233]
noncomputable abbrev Q3:List Nat:=[10,32,33,38,45,49,59,60,61,62,67,73,80,82,83,84,97,98,99,105,107,108,112,114,115,116,117,118,119,233]
section
variable (R M:AO) (o:Option (List Nat)) (t rb au b:List Nat) (tb:List (Nm×AV)) (bI:Option (List Nat)) (en:Bool)
theorem Gf :∀c∈([60]:List Nat),∀got,G7.call .tS [.inst .tok 2] (hp R M o t .tS rb (c::au) false (cb bI) got [])=some (.bool true,hp R M o t .tSLt (c::rb) au false (cb bI) got [],[9+(cb bI).length]):=by
 cases o<;>cases bI<;>exact λc m got=>by apply bH c m;kernel_rfl
theorem Gg :∀c∈(Q0:List Nat),∀got,G7.call .tS [.inst .tok 2] (hp R M o t .tS rb (c::au) false tb got [])=some (.bool true,hp R M o t .tS ((iw PH false au).reverse++c::rb) (oM PH false au) (oM PH false au).isEmpty tb got [aT 1 (c::(iw PH false au))],[1,2,[c].length+(iw PH false au).length,au.length,2]):=by
 cases o<;>exact λc m got=>by apply bH c m;kernel_rfl
theorem Bx :∀got,G7.call .tS [.inst .tok 2] (hp R M o t .tS rb [] en (cb bI) got [])=some (.bool false,hp R M o t .tS rb [] true (cb bI) got [],[]):=by
 cases o<;>cases bI<;>cases en<;>exact λgot=>by kernel_rfl
theorem xT :∀c∈([47]:List Nat),∀got,G7.call .tSLt [.inst .tok 2] (hp R M o t .tSLt rb (c::au) false (cb bI) got [])=some (.bool true,hp R M o t .tSEO (c::rb) au false (cH []) got [],[10,9+(cb bI).length]):=by
 cases o<;>cases bI<;>exact λc m got=>by apply bH c m;kernel_rfl
theorem xR :∀c∈([33]:List Nat),∀got,G7.call .tSLt [.inst .tok 2] (hp R M o t .tSLt rb (c::au) false (cb bI) got [])=some (.bool true,hp R M o t .tSES (c::rb) au false (cb bI) got [aT 1 [60,33]],[9+(cb bI).length,1,2]):=by
 cases o<;>cases bI<;>exact λc m got=>by apply bH c m;kernel_rfl
theorem xS :∀c∈(Q1:List Nat),∀got,G7.call .tSLt [.inst .tok 2] (hp R M o t .tSLt rb (c::au) false (cb bI) got [])=some (.bool true,hp R M o t .tS rb (c::au) false (cb bI) got [aT 1 [60]],[9+(cb bI).length,1,2]):=by
 cases o<;>cases bI<;>exact λc m got=>by apply bH c m;kernel_rfl
theorem v8 :∀got,G7.call .tSLt [.inst .tok 2] (hp R M o t .tSLt rb [] en (cb bI) got [])=some (.bool true,hp R M o t .tS rb [] true (cb bI) got [aT 1 [60]],[9+(cb bI).length,1,2]):=by
 cases o<;>cases bI<;>cases en<;>exact λgot=>by kernel_rfl
theorem xN :∀c∈(t7:List Nat),∀got,G7.call .tSEO [.inst .tok 2] (hp R M o t .tSEO rb (c::au) false (cH []) got [])=some (.bool true,hp R M o t .tSEN (c::rb) au false (cH [c]) got [],[10,10,1]):=by
 cases o<;>exact λc m got=>by apply bH c m;kernel_rfl
theorem xO :∀c∈(MK:List Nat),∀got,G7.call .tSEO [.inst .tok 2] (hp R M o t .tSEO rb (c::au) false (cH b) got [])=some (.bool true,hp R M o t .tS rb (c::au) false (cH b) got [aT 1 [60,47]],[10,1,2]):=by
 cases o<;>exact λc m got=>by apply bH c m;kernel_rfl
theorem vX :∀got,G7.call .tSEO [.inst .tok 2] (hp R M o t .tSEO rb [] en (cH b) got [])=some (.bool true,hp R M o t .tS rb [] true (cH b) got [aT 1 [60,47]],[10,1,2]):=by
 cases o<;>cases en<;>exact λgot=>by kernel_rfl
theorem xP :∀c∈([45]:List Nat),∀got,G7.call .tSES [.inst .tok 2] (hp R M o t .tSES rb (c::au) false (cb bI) got [])=some (.bool true,hp R M o t .tSESD (c::rb) au false (cb bI) got [aT 1 [45]],[9+(cb bI).length,1,2]):=by
 cases o<;>cases bI<;>exact λc m got=>by apply bH c m;kernel_rfl
theorem xQ :∀c∈(ML:List Nat),∀got,G7.call .tSES [.inst .tok 2] (hp R M o t .tSES rb (c::au) false (cb bI) got [])=some (.bool true,hp R M o t .tS rb (c::au) false (cb bI) got [],[9+(cb bI).length]):=by
 cases o<;>cases bI<;>exact λc m got=>by apply bH c m;kernel_rfl
theorem v5 :∀got,G7.call .tSES [.inst .tok 2] (hp R M o t .tSES rb [] en (cb bI) got [])=some (.bool true,hp R M o t .tS rb [] true (cb bI) got [],[9+(cb bI).length]):=by
 cases o<;>cases bI<;>cases en<;>exact λgot=>by kernel_rfl
theorem vY :∀c∈([45]:List Nat),∀got,G7.call .tSESD [.inst .tok 2] (hp R M o t .tSESD rb (c::au) false (cb bI) got [])=some (.bool true,hp R M o t .tSEDD (c::rb) au false (cb bI) got [aT 1 [45]],[9+(cb bI).length,1,2]):=by
 cases o<;>cases bI<;>exact λc m got=>by apply bH c m;kernel_rfl
theorem vZ :∀c∈(ML:List Nat),∀got,G7.call .tSESD [.inst .tok 2] (hp R M o t .tSESD rb (c::au) false (cb bI) got [])=some (.bool true,hp R M o t .tS rb (c::au) false (cb bI) got [],[9+(cb bI).length]):=by
 cases o<;>cases bI<;>exact λc m got=>by apply bH c m;kernel_rfl
theorem tN :∀got,G7.call .tSESD [.inst .tok 2] (hp R M o t .tSESD rb [] en (cb bI) got [])=some (.bool true,hp R M o t .tS rb [] true (cb bI) got [],[9+(cb bI).length]):=by
 cases o<;>cases bI<;>cases en<;>exact λgot=>by kernel_rfl
theorem Bu :∀c∈([45]:List Nat),∀got,G7.call .tSE [.inst .tok 2] (hp R M o t .tSE rb (c::au) false (cb bI) got [])=some (.bool true,hp R M o t .tSED (c::rb) au false (cb bI) got [aT 1 [45]],[9+(cb bI).length,1,2]):=by
 cases o<;>cases bI<;>exact λc m got=>by apply bH c m;kernel_rfl
theorem Bv :∀c∈([60]:List Nat),∀got,G7.call .tSE [.inst .tok 2] (hp R M o t .tSE rb (c::au) false (cb bI) got [])=some (.bool true,hp R M o t .tSELt (c::rb) au false (cb bI) got [],[9+(cb bI).length]):=by
 cases o<;>cases bI<;>exact λc m got=>by apply bH c m;kernel_rfl
theorem Bw :∀c∈(Cf:List Nat),∀got,G7.call .tSE [.inst .tok 2] (hp R M o t .tSE rb (c::au) false tb got [])=some (.bool true,hp R M o t .tSE ((iw PQ false au).reverse++c::rb) (oM PQ false au) (oM PQ false au).isEmpty tb got [aT 1 (c::(iw PQ false au))],[1,2,[c].length+(iw PQ false au).length,au.length,3]):=by
 cases o<;>exact λc m got=>by apply bH c m;kernel_rfl
theorem pY :∀got,G7.call .tSE [.inst .tok 2] (hp R M o t .tSE rb [] en (cb bI) got [])=some (.bool true,hp R M o t .bw rb [] true (cb bI) got [],[9+(cb bI).length]):=by
 cases o<;>cases bI<;>cases en<;>exact λgot=>by kernel_rfl
theorem xJ :∀c∈([45]:List Nat),∀got,G7.call .tSED [.inst .tok 2] (hp R M o t .tSED rb (c::au) false (cb bI) got [])=some (.bool true,hp R M o t .tSEDD (c::rb) au false (cb bI) got [aT 1 [45]],[9+(cb bI).length,1,2]):=by
 cases o<;>cases bI<;>exact λc m got=>by apply bH c m;kernel_rfl
theorem xK :∀c∈([60]:List Nat),∀got,G7.call .tSED [.inst .tok 2] (hp R M o t .tSED rb (c::au) false (cb bI) got [])=some (.bool true,hp R M o t .tSELt (c::rb) au false (cb bI) got [],[9+(cb bI).length]):=by
 cases o<;>cases bI<;>exact λc m got=>by apply bH c m;kernel_rfl
theorem xM :∀c∈(Cf:List Nat),∀got,G7.call .tSED [.inst .tok 2] (hp R M o t .tSED rb (c::au) false (cb bI) got [])=some (.bool true,hp R M o t .tSE (c::rb) au false (cb bI) got [aT 1 [c]],[9+(cb bI).length,1,2]):=by
 cases o<;>cases bI<;>exact λc m got=>by apply bH c m;kernel_rfl
theorem vO :∀got,G7.call .tSED [.inst .tok 2] (hp R M o t .tSED rb [] en (cb bI) got [])=some (.bool true,hp R M o t .bw rb [] true (cb bI) got [],[9+(cb bI).length]):=by
 cases o<;>cases bI<;>cases en<;>exact λgot=>by kernel_rfl
theorem vK :∀c∈([45]:List Nat),∀got,G7.call .tSEDD [.inst .tok 2] (hp R M o t .tSEDD rb (c::au) false (cb bI) got [])=some (.bool true,hp R M o t .tSEDD (c::rb) au false (cb bI) got [aT 1 [45]],[1,2]):=by
 cases o<;>cases bI<;>exact λc m got=>by apply bH c m;kernel_rfl
theorem vM :∀c∈([60]:List Nat),∀got,G7.call .tSEDD [.inst .tok 2] (hp R M o t .tSEDD rb (c::au) false (cb bI) got [])=some (.bool true,hp R M o t .tSELt (c::rb) au false (cb bI) got [],[9+(cb bI).length]):=by
 cases o<;>cases bI<;>exact λc m got=>by apply bH c m;kernel_rfl
theorem vL :∀c∈([62]:List Nat),∀got,G7.call .tSEDD [.inst .tok 2] (hp R M o t .tSEDD rb (c::au) false (cb bI) got [])=some (.bool true,hp R M o t .tS (c::rb) au false (cb bI) got [aT 1 [62]],[9+(cb bI).length,1,2]):=by
 cases o<;>cases bI<;>exact λc m got=>by apply bH c m;kernel_rfl
theorem vN :∀c∈(MM:List Nat),∀got,G7.call .tSEDD [.inst .tok 2] (hp R M o t .tSEDD rb (c::au) false (cb bI) got [])=some (.bool true,hp R M o t .tSE (c::rb) au false (cb bI) got [aT 1 [c]],[9+(cb bI).length,1,2]):=by
 cases o<;>cases bI<;>exact λc m got=>by apply bH c m;kernel_rfl
theorem tK :∀got,G7.call .tSEDD [.inst .tok 2] (hp R M o t .tSEDD rb [] en (cb bI) got [])=some (.bool true,hp R M o t .bw rb [] true (cb bI) got [],[9+(cb bI).length]):=by
 cases o<;>cases bI<;>cases en<;>exact λgot=>by kernel_rfl
theorem vW :∀c∈([47]:List Nat),∀got,G7.call .tSELt [.inst .tok 2] (hp R M o t .tSELt rb (c::au) false (cb bI) got [])=some (.bool true,hp R M o t .tSEEO (c::rb) au false (cH []) got [],[10,9+(cb bI).length]):=by
 cases o<;>cases bI<;>exact λc m got=>by apply bH c m;kernel_rfl
theorem vU :∀c∈(t7:List Nat),∀got,G7.call .tSELt [.inst .tok 2] (hp R M o t .tSELt rb (c::au) false (cb bI) got [])=some (.bool true,hp R M o t .tSDES (c::rb) au false (cH [c]) got [aT 1 [60,c]],[10,9+(cb bI).length,1,2,2]):=by
 cases o<;>cases bI<;>exact λc m got=>by apply bH c m;kernel_rfl
theorem vV :∀c∈(Q2:List Nat),∀got,G7.call .tSELt [.inst .tok 2] (hp R M o t .tSELt rb (c::au) false (cb bI) got [])=some (.bool true,hp R M o t .tSE rb (c::au) false (cb bI) got [aT 1 [60]],[9+(cb bI).length,1,2]):=by
 cases o<;>cases bI<;>exact λc m got=>by apply bH c m;kernel_rfl
theorem tM :∀got,G7.call .tSELt [.inst .tok 2] (hp R M o t .tSELt rb [] en (cb bI) got [])=some (.bool true,hp R M o t .tSE rb [] true (cb bI) got [aT 1 [60]],[9+(cb bI).length,1,2]):=by
 cases o<;>cases bI<;>cases en<;>exact λgot=>by kernel_rfl
theorem vP :∀c∈(t7:List Nat),∀got,G7.call .tSEEO [.inst .tok 2] (hp R M o t .tSEEO rb (c::au) false (cH b) got [])=some (.bool true,hp R M o t .tSEEN (c::rb) au false (cH [c]) got [],[10,10]):=by
 cases o<;>exact λc m got=>by apply bH c m;kernel_rfl
theorem vQ :∀c∈(MK:List Nat),∀got,G7.call .tSEEO [.inst .tok 2] (hp R M o t .tSEEO rb (c::au) false (cH b) got [])=some (.bool true,hp R M o t .tSE rb (c::au) false (cH b) got [aT 1 [60,47]],[10,1,2]):=by
 cases o<;>exact λc m got=>by apply bH c m;kernel_rfl
theorem tL :∀got,G7.call .tSEEO [.inst .tok 2] (hp R M o t .tSEEO rb [] en (cH b) got [])=some (.bool true,hp R M o t .tSE rb [] true (cH b) got [aT 1 [60,47]],[10,1,2]):=by
 cases o<;>cases en<;>exact λgot=>by kernel_rfl
theorem vG :∀c∈(t7:List Nat),∀got,G7.call .tSDES [.inst .tok 2] (hp R M o t .tSDES rb (c::au) false (cH b) got [])=some (.bool true,hp R M o t .tSDES (c::rb) au false (cH (b++[c])) got [aT 1 [c]],[10,b.length+1,1,2,7,2]):=by
 cases o<;>exact λc m got=>by apply bH c m;kernel_rfl
theorem vH :∀c∈(MN:List Nat),∀got,G7.call .tSDES [.inst .tok 2] (hp R M o t .tSDES rb (c::au) false (cH b) got [])=some (.bool true,hp R M o t .tSE rb (c::au) false (cH b) got [],[10,7,2]):=by
 cases o<;>exact λc m got=>by apply bH c m;kernel_rfl
theorem tJ :∀got,G7.call .tSDES [.inst .tok 2] (hp R M o t .tSDES rb [] en (cH b) got [])=some (.bool true,hp R M o t .tSE rb [] true (cH b) got [],[10,7,2]):=by
 cases o<;>cases en<;>exact λgot=>by kernel_rfl
theorem vD :∀c∈(t7:List Nat),∀got,G7.call .tSDEE [.inst .tok 2] (hp R M o t .tSDEE rb (c::au) false (cH b) got [])=some (.bool true,hp R M o t .tSDEE (c::rb) au false (cH (b++[c])) got [aT 1 [c]],[10,b.length+1,1,2,7,2]):=by
 cases o<;>exact λc m got=>by apply bH c m;kernel_rfl
theorem vE :∀c∈(MN:List Nat),∀got,G7.call .tSDEE [.inst .tok 2] (hp R M o t .tSDEE rb (c::au) false (cH b) got [])=some (.bool true,hp R M o t .tSDE rb (c::au) false (cH b) got [],[10,7,2]):=by
 cases o<;>exact λc m got=>by apply bH c m;kernel_rfl
theorem tG :∀got,G7.call .tSDEE [.inst .tok 2] (hp R M o t .tSDEE rb [] en (cH b) got [])=some (.bool true,hp R M o t .tSDE rb [] true (cH b) got [],[10,7,2]):=by
 cases o<;>cases en<;>exact λgot=>by kernel_rfl
theorem xG :∀c∈([45]:List Nat),∀got,G7.call .tSDE [.inst .tok 2] (hp R M o t .tSDE rb (c::au) false (cb bI) got [])=some (.bool true,hp R M o t .tSDED (c::rb) au false (cb bI) got [aT 1 [45]],[9+(cb bI).length,1,2]):=by
 cases o<;>cases bI<;>exact λc m got=>by apply bH c m;kernel_rfl
theorem xH :∀c∈([60]:List Nat),∀got,G7.call .tSDE [.inst .tok 2] (hp R M o t .tSDE rb (c::au) false (cb bI) got [])=some (.bool true,hp R M o t .bB (c::rb) au false (cb bI) got [aT 1 [60]],[9+(cb bI).length,1,2]):=by
 cases o<;>cases bI<;>exact λc m got=>by apply bH c m;kernel_rfl
theorem xI :∀c∈(Cf:List Nat),∀got,G7.call .tSDE [.inst .tok 2] (hp R M o t .tSDE rb (c::au) false (cb bI) got [])=some (.bool true,hp R M o t .tSDE (c::rb) au false (cb bI) got [aT 1 [c]],[1,2]):=by
 cases o<;>cases bI<;>exact λc m got=>by apply bH c m;kernel_rfl
theorem vJ :∀got,G7.call .tSDE [.inst .tok 2] (hp R M o t .tSDE rb [] en (cb bI) got [])=some (.bool true,hp R M o t .bw rb [] true (cb bI) got [aT 7 Bd],[9+(cb bI).length,1,2]):=by
 cases o<;>cases bI<;>cases en<;>exact λgot=>by kernel_rfl
theorem vy :∀c∈([45]:List Nat),∀got,G7.call .tSDED [.inst .tok 2] (hp R M o t .tSDED rb (c::au) false (cb bI) got [])=some (.bool true,hp R M o t .bG (c::rb) au false (cb bI) got [aT 1 [45]],[9+(cb bI).length,1,2]):=by
 cases o<;>cases bI<;>exact λc m got=>by apply bH c m;kernel_rfl
theorem vz :∀c∈([60]:List Nat),∀got,G7.call .tSDED [.inst .tok 2] (hp R M o t .tSDED rb (c::au) false (cb bI) got [])=some (.bool true,hp R M o t .bB (c::rb) au false (cb bI) got [aT 1 [60]],[9+(cb bI).length,1,2]):=by
 cases o<;>cases bI<;>exact λc m got=>by apply bH c m;kernel_rfl
theorem vA :∀c∈(Cf:List Nat),∀got,G7.call .tSDED [.inst .tok 2] (hp R M o t .tSDED rb (c::au) false (cb bI) got [])=some (.bool true,hp R M o t .tSDE (c::rb) au false (cb bI) got [aT 1 [c]],[9+(cb bI).length,1,2]):=by
 cases o<;>cases bI<;>exact λc m got=>by apply bH c m;kernel_rfl
theorem tF :∀got,G7.call .tSDED [.inst .tok 2] (hp R M o t .tSDED rb [] en (cb bI) got [])=some (.bool true,hp R M o t .bw rb [] true (cb bI) got [aT 7 Bd],[9+(cb bI).length,1,2]):=by
 cases o<;>cases bI<;>cases en<;>exact λgot=>by kernel_rfl
theorem tn :∀c∈([45]:List Nat),∀got,G7.call .bG [.inst .tok 2] (hp R M o t .bG rb (c::au) false (cb bI) got [])=some (.bool true,hp R M o t .bG (c::rb) au false (cb bI) got [aT 1 [45]],[1,2]):=by
 cases o<;>cases bI<;>exact λc m got=>by apply bH c m;kernel_rfl
theorem tD :∀c∈([60]:List Nat),∀got,G7.call .bG [.inst .tok 2] (hp R M o t .bG rb (c::au) false (cb bI) got [])=some (.bool true,hp R M o t .bB (c::rb) au false (cb bI) got [aT 1 [60]],[9+(cb bI).length,1,2]):=by
 cases o<;>cases bI<;>exact λc m got=>by apply bH c m;kernel_rfl
theorem tp :∀c∈([62]:List Nat),∀got,G7.call .bG [.inst .tok 2] (hp R M o t .bG rb (c::au) false (cb bI) got [])=some (.bool true,hp R M o t .tS (c::rb) au false (cb bI) got [aT 1 [62]],[9+(cb bI).length,1,2]):=by
 cases o<;>cases bI<;>exact λc m got=>by apply bH c m;kernel_rfl
theorem tE :∀c∈(MM:List Nat),∀got,G7.call .bG [.inst .tok 2] (hp R M o t .bG rb (c::au) false (cb bI) got [])=some (.bool true,hp R M o t .tSDE (c::rb) au false (cb bI) got [aT 1 [c]],[9+(cb bI).length,1,2]):=by
 cases o<;>cases bI<;>exact λc m got=>by apply bH c m;kernel_rfl
theorem qM :∀got,G7.call .bG [.inst .tok 2] (hp R M o t .bG rb [] en (cb bI) got [])=some (.bool true,hp R M o t .bw rb [] true (cb bI) got [aT 7 Bd],[9+(cb bI).length,1,2]):=by
 cases o<;>cases bI<;>cases en<;>exact λgot=>by kernel_rfl
theorem tI :∀c∈([47]:List Nat),∀got,G7.call .bB [.inst .tok 2] (hp R M o t .bB rb (c::au) false (cb bI) got [])=some (.bool true,hp R M o t .tSDEE (c::rb) au false (cH []) got [aT 1 [47]],[10,9+(cb bI).length,1,2]):=by
 cases o<;>cases bI<;>exact λc m got=>by apply bH c m;kernel_rfl
theorem tH :∀c∈(Q3:List Nat),∀got,G7.call .bB [.inst .tok 2] (hp R M o t .bB rb (c::au) false (cb bI) got [])=some (.bool true,hp R M o t .tSDE rb (c::au) false (cb bI) got [],[9+(cb bI).length]):=by
 cases o<;>cases bI<;>exact λc m got=>by apply bH c m;kernel_rfl
theorem qN :∀got,G7.call .bB [.inst .tok 2] (hp R M o t .bB rb [] en (cb bI) got [])=some (.bool true,hp R M o t .tSDE rb [] true (cb bI) got [],[9+(cb bI).length]):=by
 cases o<;>cases bI<;>cases en<;>exact λgot=>by kernel_rfl
end
noncomputable abbrev Ci:List Nat:=[67,73,80,82,83,84,97,98,99,105,107,108,112,114,115,116,117,118,119]
noncomputable abbrev MS:List Nat:=[33,38,45,49,59,60,61,233]
noncomputable abbrev MT:List Nat:=[33,38,45,49,59,60,61,233,32,10,47,62]
noncomputable def WZ:c5->c5
 |.cons _ r=>r
 |.nil=>.nil
noncomputable def cu (ir:c5) (a:AV) (O:List Nat) (H:List AO):Option (AV×List AO×List Nat):=bd (cG G6 (WZ ir) {H:=H,V:=[(.ae,.inst .tok 2),(.cm,a)],O:=O}) λp=>bd (lF p.1) λr=>some (r,p.2.H,p.2.O)
section
variable (R M:AO) (o:Option (List Nat)) (nm t rb au b O:List Nat) (a:Bool) (en:Bool) (got:List AV)
noncomputable def ja (nm:List Nat) (sc:Bool) (l:Nat):AO:=.dict [(.aJ,.int 4),(.aO,.str nm),(.af,.a5 l),(.bT,.bool sc)]
theorem fH (en:Bool):G7.call .tSEN [.inst .tok 2] (HA R M nm t .tSEN rb au en (cH b) got [])=cu eU (.bool (bQ (aX nm) (aX b))) [(aX b).length,(aX nm).length] (HA R M nm t .tSEN rb au en (cH b) got []):=by kernel_rfl
theorem mH (en:Bool):G7.call .tSEN [.inst .tok 2] (HB R M [] t .tSEN rb au en (cH b) got [])=cu eU .none [] (HB R M [] t .tSEN rb au en (cH b) got []):=by kernel_rfl
theorem sd :∀c∈(Ci:List Nat),cu eU (.bool a) O (HA R M nm t .tSEN rb (c::au) false (cH b) got [])=some (.bool true,HA R M nm t .tSEN (c::rb) au false (cH (b++[c])) got [],10::(b.length+1)::O):=by
 cases a<;>(repeat' first|exact List.forall_mem_nil _|refine List.forall_mem_cons.mpr ⟨by kernel_rfl,?_⟩)
theorem sf :∀c∈(MS:List Nat),cu eU (.bool a) O (HA R M nm t .tSEN rb (c::au) false (cH b) got [])=some (.bool true,HA R M nm t .tS rb (c::au) false (cH b) got [aT 1 (60::47::b)],10::1::2::(2+b.length)::O):=by
 cases a<;>(repeat' first|exact List.forall_mem_nil _|refine List.forall_mem_cons.mpr ⟨by kernel_rfl,?_⟩)
theorem qD:cu eU (.bool a) O (HA R M nm t .tSEN rb [] en (cH b) got [])=some (.bool true,HA R M nm t .tS rb [] true (cH b) got [aT 1 (60::47::b)],10::1::2::(2+b.length)::O):=by
 cases a<;>cases en<;>kernel_rfl
theorem si :∀c∈(Ci:List Nat),cu eU .none O (HB R M [] t .tSEN rb (c::au) false (cH b) got [])=some (.bool true,HB R M [] t .tSEN (c::rb) au false (cH (b++[c])) got [],10::(b.length+1)::O):=by
 (repeat' first|exact List.forall_mem_nil _|refine List.forall_mem_cons.mpr ⟨by kernel_rfl,?_⟩)
theorem sj :∀c∈(MT:List Nat),cu eU .none O (HB R M [] t .tSEN rb (c::au) false (cH b) got [])=some (.bool true,HB R M [] t .tS rb (c::au) false (cH b) got [aT 1 (60::47::b)],10::1::2::(2+b.length)::O):=by
 (repeat' first|exact List.forall_mem_nil _|refine List.forall_mem_cons.mpr ⟨by kernel_rfl,?_⟩)
theorem qE:cu eU .none O (HB R M [] t .tSEN rb [] en (cH b) got [])=some (.bool true,HB R M [] t .tS rb [] true (cH b) got [aT 1 (60::47::b)],10::1::2::(2+b.length)::O):=by
 cases en<;>kernel_rfl
theorem se :∀c∈([32,10,47,62]:List Nat),cu eU (.bool false) O (HA R M nm t .tSEN rb (c::au) false (cH b) got [])=some (.bool true,HA R M nm t .tS rb (c::au) false (cH b) got [aT 1 (60::47::b)],10::1::2::(2+b.length)::O):=by
 (repeat' first|exact List.forall_mem_nil _|refine List.forall_mem_cons.mpr ⟨by kernel_rfl,?_⟩)
theorem lE :∀c∈([32,10]:List Nat),cu eU (.bool true) O (HA R M nm t .tSEN rb (c::au) false (cH b) got [])=some (.bool true,[R,M,tk .jC (.a5 9) 7 (cH b),.ay 4 3 (c::rb) au false,.txt t true,gg nm,.list got,.list [],.list [],ja b false 8],10::10::4::0::O):=by
 (repeat' first|exact List.forall_mem_nil _|refine List.forall_mem_cons.mpr ⟨by kernel_rfl,?_⟩)
theorem sg :∀c∈([47]:List Nat),cu eU (.bool true) O (HA R M nm t .tSEN rb (c::au) false (cH b) got [])=some (.bool true,[R,M,tk .BN (.a5 9) 7 (cH b),.ay 4 3 (c::rb) au false,.txt t true,gg nm,.list got,.list [],.list [],ja b false 8],10::10::4::0::O):=by
 (repeat' first|exact List.forall_mem_nil _|refine List.forall_mem_cons.mpr ⟨by kernel_rfl,?_⟩)
theorem r0 :∀c∈([62]:List Nat),cu eU (.bool true) O (HA R M nm t .tSEN rb (c::au) false (cH b) got [])=some (.bool true,[R,M,tk .bw (.a5 9) 7 (cH b),.ay 4 3 (c::rb) au false,.txt t true,gg nm,.list got,.list [.a5 9],.list [],ja (b.map gY) false 8],10::10::1::b.length::10::4::0::O):=by
 (repeat' first|exact List.forall_mem_nil _|refine List.forall_mem_cons.mpr ⟨by kernel_rfl,?_⟩)
theorem eN (en:Bool):G7.call .tSEEN [.inst .tok 2] (HA R M nm t .tSEEN rb au en (cH b) got [])=cu dU (.bool (bQ (aX nm) (aX b))) [(aX b).length,(aX nm).length] (HA R M nm t .tSEEN rb au en (cH b) got []):=by kernel_rfl
theorem kW (en:Bool):G7.call .tSEEN [.inst .tok 2] (HB R M [] t .tSEEN rb au en (cH b) got [])=cu dU .none [] (HB R M [] t .tSEEN rb au en (cH b) got []):=by kernel_rfl
theorem qw :∀c∈(Ci:List Nat),cu dU (.bool a) O (HA R M nm t .tSEEN rb (c::au) false (cH b) got [])=some (.bool true,HA R M nm t .tSEEN (c::rb) au false (cH (b++[c])) got [],10::(b.length+1)::O):=by
 cases a<;>(repeat' first|exact List.forall_mem_nil _|refine List.forall_mem_cons.mpr ⟨by kernel_rfl,?_⟩)
theorem qy :∀c∈(MS:List Nat),cu dU (.bool a) O (HA R M nm t .tSEEN rb (c::au) false (cH b) got [])=some (.bool true,HA R M nm t .tSE rb (c::au) false (cH b) got [aT 1 (60::47::b)],10::1::2::(2+b.length)::O):=by
 cases a<;>(repeat' first|exact List.forall_mem_nil _|refine List.forall_mem_cons.mpr ⟨by kernel_rfl,?_⟩)
theorem oN:cu dU (.bool a) O (HA R M nm t .tSEEN rb [] en (cH b) got [])=some (.bool true,HA R M nm t .tSE rb [] true (cH b) got [aT 1 (60::47::b)],10::1::2::(2+b.length)::O):=by
 cases a<;>cases en<;>kernel_rfl
theorem qA :∀c∈(Ci:List Nat),cu dU .none O (HB R M [] t .tSEEN rb (c::au) false (cH b) got [])=some (.bool true,HB R M [] t .tSEEN (c::rb) au false (cH (b++[c])) got [],10::(b.length+1)::O):=by
 (repeat' first|exact List.forall_mem_nil _|refine List.forall_mem_cons.mpr ⟨by kernel_rfl,?_⟩)
theorem qC :∀c∈(MT:List Nat),cu dU .none O (HB R M [] t .tSEEN rb (c::au) false (cH b) got [])=some (.bool true,HB R M [] t .tSE rb (c::au) false (cH b) got [aT 1 (60::47::b)],10::1::2::(2+b.length)::O):=by
 (repeat' first|exact List.forall_mem_nil _|refine List.forall_mem_cons.mpr ⟨by kernel_rfl,?_⟩)
theorem oO:cu dU .none O (HB R M [] t .tSEEN rb [] en (cH b) got [])=some (.bool true,HB R M [] t .tSE rb [] true (cH b) got [aT 1 (60::47::b)],10::1::2::(2+b.length)::O):=by
 cases en<;>kernel_rfl
theorem qx :∀c∈([32,10,47,62]:List Nat),cu dU (.bool false) O (HA R M nm t .tSEEN rb (c::au) false (cH b) got [])=some (.bool true,HA R M nm t .tSE rb (c::au) false (cH b) got [aT 1 (60::47::b)],10::1::2::(2+b.length)::O):=by
 (repeat' first|exact List.forall_mem_nil _|refine List.forall_mem_cons.mpr ⟨by kernel_rfl,?_⟩)
theorem kI :∀c∈([32,10]:List Nat),cu dU (.bool true) O (HA R M nm t .tSEEN rb (c::au) false (cH b) got [])=some (.bool true,[R,M,tk .jC (.a5 9) 7 (cH b),.ay 4 3 (c::rb) au false,.txt t true,gg nm,.list got,.list [],.list [],ja b false 8],10::10::4::0::O):=by
 (repeat' first|exact List.forall_mem_nil _|refine List.forall_mem_cons.mpr ⟨by kernel_rfl,?_⟩)
theorem qz :∀c∈([47]:List Nat),cu dU (.bool true) O (HA R M nm t .tSEEN rb (c::au) false (cH b) got [])=some (.bool true,[R,M,tk .BN (.a5 9) 7 (cH b),.ay 4 3 (c::rb) au false,.txt t true,gg nm,.list got,.list [],.list [],ja b false 8],10::10::4::0::O):=by
 (repeat' first|exact List.forall_mem_nil _|refine List.forall_mem_cons.mpr ⟨by kernel_rfl,?_⟩)
theorem qu :∀c∈([62]:List Nat),cu dU (.bool true) O (HA R M nm t .tSEEN rb (c::au) false (cH b) got [])=some (.bool true,[R,M,tk .bw (.a5 9) 7 (cH b),.ay 4 3 (c::rb) au false,.txt t true,gg nm,.list got,.list [.a5 9],.list [],ja (b.map gY) false 8],10::10::1::b.length::10::4::0::O):=by
 (repeat' first|exact List.forall_mem_nil _|refine List.forall_mem_cons.mpr ⟨by kernel_rfl,?_⟩)
end
noncomputable def hX (R M:AO) (t:List Nat) (CD:AO) (K:List AO) (f:Fn) (ct:AV) (rb au:List Nat) (en:Bool) (b:List Nat) (got qs:List AV):List AO:=
 R::M::tk f ct 7 (cH b)::.ay 4 3 rb au en::.txt t true::CD::.list got::.list qs::K
noncomputable def MH (H:List AO) (v:AV):Prop:=∃kd,nM H v (.str [116,121,112,101])=some (.int kd)/\((kd==4)=true->∃sc,nM H v (.str [115,101,108,102,67,108,111,115,105,110,103])=some (.bool sc))
structure dX (R M:AO) (t:List Nat) (V0:List (Nm×AV)) (CD:AO) (K:List AO) (f:Fn) (ct:AV) (rb au:List Nat) (en:Bool) (b:List Nat) (got:List AV) (σ:St):Prop where
 h:σ.H=hX R M t CD K f ct rb au en b got []
 v:HL (some []) V0 σ.V
 lm:Lm σ.O
section
variable {R M:AO} {t:List Nat} {V0:List (Nm×AV)} {CD CD':AO} {K K':List AO} {f f':Fn} {ct ct':AV} {rb au rb' aft':List Nat} {en en':Bool} {b b':List Nat} {got qs:List AV} {σ:St}
theorem YS {G:cy} {n k:Nat} {x:Nm} {b:St->Option (Fl×St)} {σ τ:St} (h:cZ G BM (mj n σ)=some (false,τ)):d6 G n x b (k+1) false σ=d6 G n x b k true (bk σ τ):=aA h rfl
theorem YT {G:cy} {n k:Nat} {x:Nm} {b:St->Option (Fl×St)} {σ τ ρ:St} {q:AV} {H:List AO} {V:List (Nm×AV)} {O:List Nat} (h:cZ G BM (mj n σ)=some (true,τ)) (h2:ev G Dn τ=some (q,⟨H,V,O⟩)) (h3:b ⟨H,pt σ.V x q,O⟩=some (.nx,ρ)):d6 G n x b (k+1) false σ=d6 G n x b k false ρ:=aA h (aA h2 (aA h3 rfl))
theorem YU {G:cy} {n k:Nat} {x:Nm} {b:St->Option (Fl×St)} {σ τ ρ:St} (h:cZ G wW (mj n σ)=some (true,τ)) (h2:cZ G G8 τ=some (false,ρ)):d6 G n x b (k+1) true σ=d6 G n x b k false (bk σ ρ):=aA h (aA h2 rfl)
theorem Se {G:cy} {n k:Nat} {x:Nm} {b:St->Option (Fl×St)} {σ τ:St} (h:cZ G wW (mj n σ)=some (false,τ)):d6 G n x b (k+1) true σ=some (bk σ τ):=aA h rfl
theorem xE1 {V:List (Nm×AV)} {O os:List Nat} {r:Bool} {H':List AO} (e:G7.call f [.inst .tok 2] (hX R M t CD K f ct rb au en b got qs)=some (.bool r,H',os)) :
  cZ G7 wW (mj 2 ⟨hX R M t CD K f ct rb au en b got qs,V,O⟩)=some (r,⟨H',gV 2,os++O⟩):=j9 (bZ rfl) (pE rfl rfl) rfl (nv (uM e)) rfl
theorem xE2 {O:List Nat}:cZ G7 G8 ⟨hX R M t CD K f ct rb au en b got qs,gV 2,O⟩=some (false,⟨hX R M t CD K f ct rb au en b got qs,gV 2,O⟩):=by
 cases en<;>kernel_rfl
theorem ZV {V:List (Nm×AV)} {O:List Nat}:cZ G7 BM (mj 2 ⟨hX R M t CD K f ct rb au en b got [],V,O⟩)=some (false,⟨hX R M t CD K f ct rb au en b got [],gV 2,O⟩):=by kernel_rfl
theorem ZU {V:List (Nm×AV)} {O:List Nat} {q:AV}:cZ G7 BM (mj 2 ⟨hX R M t CD K f ct rb au en b got (q::qs),V,O⟩)=some (true,⟨hX R M t CD K f ct rb au en b got (q::qs),gV 2,O⟩):=by kernel_rfl
theorem xE4 {O:List Nat} {q:AV}:ev G7 Dn ⟨hX R M t CD K f ct rb au en b got (q::qs),gV 2,O⟩=some (q,⟨hX R M t CD K f ct rb au en b got qs,gV 2,O⟩):=by kernel_rfl
theorem Xl:G7.call .lZ [.inst .ay 3] (hX R M t CD K f ct rb au en b got qs)=some (bE rb,hX R M t CD K f ct rb au en b got qs,[]):=by
 cases en<;>kernel_rfl
theorem ZW {V:List (Nm×AV)} {O:List Nat} (hV:HL (some []) V0 V) {v:AV} (hk:MH (hX R M t CD K f ct rb au en b got qs) v) :
  qr ⟨hX R M t CD K f ct rb au en b got qs,pt V .aD v,O⟩=some (.nx,⟨hX R M t CD K f ct rb au en b (got++[.tup [bE rb,v]]) qs,pt V .aD v,[got.length+1]++(2::([]++O))⟩):=
 have m3:gS G7 (hX R M t CD K f ct rb au en b got qs) (.inst .ay 3) .dk=some (.inl (.bD .lZ (.inst .ay 3))):=by cases en<;>kernel_rfl
 Exists.elim hk λkd k=>uc (kd:=kd) bp (((hV.pt _).same .aN (by decide)).trans hV.tok) (((hV.pt _).same .e9 (by decide)).trans hV.got) k.1 k.2 (by kernel_rfl) m3 Xl rfl
theorem GU :∀(vs:List AV) (got:List AV) (V:List (Nm×AV)) (O:List Nat),HL (some []) V0 V->Lm O->got.length+vs.length<=500000->(∀got qs v,v∈vs->MH (hX R M t CD K f ct rb au en b got qs) v)->
  ∃σ',dX R M t V0 CD K f ct rb au en b (got++vs.map λv=>.tup [bE rb,v]) σ'/\∀n,uQ (n+vs.length+1) false ⟨hX R M t CD K f ct rb au en b got vs,V,O⟩=uQ n true σ'
 |[],got,V,O,hV,hO,_,_=>⟨⟨hX R M t CD K f ct rb au en b got [],V,O⟩,⟨by rw [List.map_nil,List.append_nil],hV,hO⟩,λn=>YS ZV⟩
 |v::vs,got,V,O,hV,hO,hl,hk=>by
  rw [List.length_cons]at hl
  have h1:got.length+1<=ew:=by show got.length+1<=1000000;lia
  obtain⟨σ',q,z⟩:=GU vs (got++[.tup [bE rb,v]]) (pt V .aD v) ([got.length+1]++(2::([]++O))) (hV.pt v) (Lm.app (.cons h1 .nil) (.cons (by decide) (Lm.app .nil hO))) (by rw [List.length_append,List.length_singleton];lia) λg q w m=>hk g q w (.tail _ m)
  refine⟨σ',?_,λn=>?_⟩
  ·rw [List.append_assoc]at q;exact q
  ·show d6 G7 2 .aD qr (n+vs.length+1+1) false _=_
   exact(YT ZU xE4 (ZW hV (hk got vs v (.head _)))).trans (z n)
theorem fB {vs:List AV} {os:List Nat} (hn:got.length+vs.length<=500000) (e:G7.call f [.inst .tok 2] (hX R M t CD K f ct rb au en b got [])=some (.bool true,hX R M t CD' K' f' ct' rb' aft' en' b' got vs,os)) (hos:Lm os)
  (hk :∀got qs v,v∈vs->MH (hX R M t CD' K' f' ct' rb' aft' en' b' got qs) v) :
  g6 (dX R M t V0 CD K f ct rb au en b got) (dX R M t V0 CD' K' f' ct' rb' aft' en' b' (got++vs.map λv=>.tup [bE rb',v])):=λσ p=>by
 obtain⟨H,V,O⟩:=σ
 obtain⟨rfl,hv,hl⟩:=p
 obtain⟨σ',q,z⟩:=GU vs got V (os++O) hv (hos.app hl) hn hk
 refine⟨vs.length+2,σ',q,λk=>?_⟩
 show d6 G7 2 .aD qr (k+vs.length+1+1) true _=_
 exact(YU (xE1 e) xE2).trans (z k)
end
section
variable {R M:AO} {t:List Nat} {V0:List (Nm×AV)} {nm:List Nat} {CD:AO} {K:List AO} {ct:AV} {rb au:List Nat} {en:Bool} {b:List Nat} {got:List AV} {σ:St}
noncomputable abbrev toks (rb:List Nat) (vs:List AV):List AV:=vs.map λv=>.tup [bE rb,v]
theorem yL (hx:bQ (aX nm) (aX b)=true) (hn:got.length<=400000) (hb:b.length<=400000) (hm:(aX nm).length<=400000) (hl:(aX b).length<=400000):g6 (dX R M t V0 (gg nm) [] .tSEN (.a5 5) rb (32::au) false b got) (dX R M t V0 (gg nm) [.list [],ja b false 8] .jC (.a5 9) (32::rb) au false b (got++toks (32::rb) [])):=
 fB (vs:=[]) (os:=10::10::4::0::[(aX b).length,(aX nm).length]) (by simp only [List.length_cons,List.length_nil];lia) (by
  show G7.call .tSEN [.inst .tok 2] (HA R M nm t .tSEN rb (32::au) false (cH b) got [])=_
  rw [fH,hx];exact lE _ _ _ _ _ _ _ _ _ 32 (by decide)) (λk hk=>by simp at hk;show k<=1000000;lia) (λ_ _ _ m=>nomatch m)
theorem ID (hx:bQ (aX nm) (aX b)=true) (hn:got.length<=400000) (hb:b.length<=400000) (hm:(aX nm).length<=400000) (hl:(aX b).length<=400000):g6 (dX R M t V0 (gg nm) [] .tSEN (.a5 5) rb (10::au) false b got) (dX R M t V0 (gg nm) [.list [],ja b false 8] .jC (.a5 9) (10::rb) au false b (got++toks (10::rb) [])):=
 fB (vs:=[]) (os:=10::10::4::0::[(aX b).length,(aX nm).length]) (by simp only [List.length_cons,List.length_nil];lia) (by
  show G7.call .tSEN [.inst .tok 2] (HA R M nm t .tSEN rb (10::au) false (cH b) got [])=_
  rw [fH,hx];exact lE _ _ _ _ _ _ _ _ _ 10 (by decide)) (λk hk=>by simp at hk;show k<=1000000;lia) (λ_ _ _ m=>nomatch m)
theorem yM (hx:bQ (aX nm) (aX b)=true) (hn:got.length<=400000) (hb:b.length<=400000) (hm:(aX nm).length<=400000) (hl:(aX b).length<=400000):g6 (dX R M t V0 (gg nm) [] .tSEN (.a5 5) rb (47::au) false b got) (dX R M t V0 (gg nm) [.list [],ja b false 8] .BN (.a5 9) (47::rb) au false b (got++toks (47::rb) [])):=
 fB (vs:=[]) (os:=10::10::4::0::[(aX b).length,(aX nm).length]) (by simp only [List.length_cons,List.length_nil];lia) (by
  show G7.call .tSEN [.inst .tok 2] (HA R M nm t .tSEN rb (47::au) false (cH b) got [])=_
  rw [fH,hx];exact sg _ _ _ _ _ _ _ _ _ 47 (by decide)) (λk hk=>by simp at hk;show k<=1000000;lia) (λ_ _ _ m=>nomatch m)
theorem IE (hx:bQ (aX nm) (aX b)=true) (hn:got.length<=400000) (hb:b.length<=400000) (hm:(aX nm).length<=400000) (hl:(aX b).length<=400000):g6 (dX R M t V0 (gg nm) [] .tSEN (.a5 5) rb (62::au) false b got) (dX R M t V0 (gg nm) [.list [],ja (b.map gY) false 8] .bw (.a5 9) (62::rb) au false b (got++toks (62::rb) [.a5 9])):=
 fB (vs:=[.a5 9]) (os:=10::10::1::b.length::10::4::0::[(aX b).length,(aX nm).length]) (by simp only [List.length_cons,List.length_nil];lia) (by
  show G7.call .tSEN [.inst .tok 2] (HA R M nm t .tSEN rb (62::au) false (cH b) got [])=_
  rw [fH,hx];exact r0 _ _ _ _ _ _ _ _ _ 62 (by decide)) (λk hk=>by simp at hk;show k<=1000000;lia) (λg q v m=>by
  cases List.mem_singleton.mp m
  exact⟨4,by kernel_rfl,λ_=>⟨false,by kernel_rfl⟩⟩)
theorem uH (hx:bQ (aX nm) (aX b)=true) (hn:got.length<=400000) (hb:b.length<=400000) (hm:(aX nm).length<=400000) (hl:(aX b).length<=400000):g6 (dX R M t V0 (gg nm) [] .tSEEN (.a5 5) rb (32::au) false b got) (dX R M t V0 (gg nm) [.list [],ja b false 8] .jC (.a5 9) (32::rb) au false b (got++toks (32::rb) [])):=
 fB (vs:=[]) (os:=10::10::4::0::[(aX b).length,(aX nm).length]) (by simp only [List.length_cons,List.length_nil];lia) (by
  show G7.call .tSEEN [.inst .tok 2] (HA R M nm t .tSEEN rb (32::au) false (cH b) got [])=_
  rw [eN,hx];exact kI _ _ _ _ _ _ _ _ _ 32 (by decide)) (λk hk=>by simp at hk;show k<=1000000;lia) (λ_ _ _ m=>nomatch m)
theorem C3 (hx:bQ (aX nm) (aX b)=true) (hn:got.length<=400000) (hb:b.length<=400000) (hm:(aX nm).length<=400000) (hl:(aX b).length<=400000):g6 (dX R M t V0 (gg nm) [] .tSEEN (.a5 5) rb (10::au) false b got) (dX R M t V0 (gg nm) [.list [],ja b false 8] .jC (.a5 9) (10::rb) au false b (got++toks (10::rb) [])):=
 fB (vs:=[]) (os:=10::10::4::0::[(aX b).length,(aX nm).length]) (by simp only [List.length_cons,List.length_nil];lia) (by
  show G7.call .tSEEN [.inst .tok 2] (HA R M nm t .tSEEN rb (10::au) false (cH b) got [])=_
  rw [eN,hx];exact kI _ _ _ _ _ _ _ _ _ 10 (by decide)) (λk hk=>by simp at hk;show k<=1000000;lia) (λ_ _ _ m=>nomatch m)
theorem uI (hx:bQ (aX nm) (aX b)=true) (hn:got.length<=400000) (hb:b.length<=400000) (hm:(aX nm).length<=400000) (hl:(aX b).length<=400000):g6 (dX R M t V0 (gg nm) [] .tSEEN (.a5 5) rb (47::au) false b got) (dX R M t V0 (gg nm) [.list [],ja b false 8] .BN (.a5 9) (47::rb) au false b (got++toks (47::rb) [])):=
 fB (vs:=[]) (os:=10::10::4::0::[(aX b).length,(aX nm).length]) (by simp only [List.length_cons,List.length_nil];lia) (by
  show G7.call .tSEEN [.inst .tok 2] (HA R M nm t .tSEEN rb (47::au) false (cH b) got [])=_
  rw [eN,hx];exact qz _ _ _ _ _ _ _ _ _ 47 (by decide)) (λk hk=>by simp at hk;show k<=1000000;lia) (λ_ _ _ m=>nomatch m)
theorem C4 (hx:bQ (aX nm) (aX b)=true) (hn:got.length<=400000) (hb:b.length<=400000) (hm:(aX nm).length<=400000) (hl:(aX b).length<=400000):g6 (dX R M t V0 (gg nm) [] .tSEEN (.a5 5) rb (62::au) false b got) (dX R M t V0 (gg nm) [.list [],ja (b.map gY) false 8] .bw (.a5 9) (62::rb) au false b (got++toks (62::rb) [.a5 9])):=
 fB (vs:=[.a5 9]) (os:=10::10::1::b.length::10::4::0::[(aX b).length,(aX nm).length]) (by simp only [List.length_cons,List.length_nil];lia) (by
  show G7.call .tSEEN [.inst .tok 2] (HA R M nm t .tSEEN rb (62::au) false (cH b) got [])=_
  rw [eN,hx];exact qu _ _ _ _ _ _ _ _ _ 62 (by decide)) (λk hk=>by simp at hk;show k<=1000000;lia) (λg q v m=>by
  cases List.mem_singleton.mp m
  exact⟨4,by kernel_rfl,λ_=>⟨false,by kernel_rfl⟩⟩)
theorem uF (hn:got.length<=400000) (hb:b.length<=400000):g6 (dX R M t V0 CD [.list [],ja b false 8] .jC (.a5 9) rb (62::au) false b got) (dX R M t V0 CD [.list [],ja (b.map gY) false 8] .bw (.a5 9) (62::rb) au false b (got++toks (62::rb) [.a5 9])):=
 fB (vs:=[.a5 9]) (os:=[10,1,b.length]) (by simp only [List.length_cons,List.length_nil];lia) (by kernel_rfl) (λk hk=>by simp at hk;show k<=1000000;lia) (λg q v m=>by
  cases List.mem_singleton.mp m
  exact⟨4,by kernel_rfl,λ_=>⟨false,by kernel_rfl⟩⟩)
theorem Ae (hn:got.length<=400000) (hb:b.length<=400000):g6 (dX R M t V0 CD [.list [],ja b false 8] .jC (.a5 9) rb [] false b got) (dX R M t V0 CD [.list [],ja b false 8] .bw (.a5 9) rb [] true b (got++toks rb [aT 7 [101,120,112,101,99,116,101,100,45,97,116,116,114,105,98,117,116,101,45,110,97,109,101,45,98,117,116,45,103,111,116,45,101,111,102]])):=
 fB (vs:=[aT 7 [101,120,112,101,99,116,101,100,45,97,116,116,114,105,98,117,116,101,45,110,97,109,101,45,98,117,116,45,103,111,116,45,101,111,102]]) (os:=[10,1,2,4]) (by simp only [List.length_cons,List.length_nil];lia) (by kernel_rfl) (λk hk=>by simp at hk;show k<=1000000;lia) (λg q v m=>by
  cases List.mem_singleton.mp m
  exact⟨7,by kernel_rfl,λh=>nomatch h⟩)
theorem Ad (hn:got.length<=400000) (hb:b.length<=400000):g6 (dX R M t V0 CD [.list [],ja b false 8] .jC (.a5 9) rb (107::au) false b got) (dX R M t V0 CD [.list [.a5 10],ja b false 8,.list [.str [107],.str []]] .tAN (.a5 9) (107::rb) au false b (got++toks (107::rb) [])):=
 fB (vs:=[]) (os:=[10,1,2]) (by simp only [List.length_cons,List.length_nil];lia) (by kernel_rfl) (λk hk=>by simp at hk;show k<=1000000;lia) (λ_ _ _ m=>nomatch m)
theorem YK (hn:got.length<=400000) (hb:b.length<=400000):g6 (dX R M t V0 CD [.list [.a5 10],ja b false 8,.list [.str [107],.str []]] .tAN (.a5 9) rb (61::au) false b got) (dX R M t V0 CD [.list [.a5 10],ja b false 8,.list [.str [107],.str []]] .BB (.a5 9) (61::rb) au false b (got++toks (61::rb) [])):=
 fB (vs:=[]) (os:=[1,10]) (by simp only [List.length_cons,List.length_nil];lia) (by kernel_rfl) (λk hk=>by simp at hk;show k<=1000000;lia) (λ_ _ _ m=>nomatch m)
theorem RV (hn:got.length<=400000) (hb:b.length<=400000):g6 (dX R M t V0 CD [.list [.a5 10],ja b false 8,.list [.str [107],.str []]] .BB (.a5 9) rb (49::au) false b got) (dX R M t V0 CD [.list [.a5 10],ja b false 8,.list [.str [107],.str [49]]] .BA (.a5 9) (49::rb) au false b (got++toks (49::rb) [])):=
 fB (vs:=[]) (os:=[10,1,3]) (by simp only [List.length_cons,List.length_nil];lia) (by kernel_rfl) (λk hk=>by simp at hk;show k<=1000000;lia) (λ_ _ _ m=>nomatch m)
theorem RU (hn:got.length<=400000) (hb:b.length<=400000):g6 (dX R M t V0 CD [.list [.a5 10],ja b false 8,.list [.str [107],.str [49]]] .BA (.a5 9) rb (62::au) false b got) (dX R M t V0 CD [.list [.a5 10],ja (b.map gY) false 8,.list [.str [107],.str [49]]] .bw (.a5 9) (62::rb) au false b (got++toks (62::rb) [aT 7 [97,116,116,114,105,98,117,116,101,115,45,105,110,45,101,110,100,45,116,97,103],.a5 9])):=
 fB (vs:=[aT 7 [97,116,116,114,105,98,117,116,101,115,45,105,110,45,101,110,100,45,116,97,103],.a5 9]) (os:=[10,2,1,2,b.length]) (by simp only [List.length_cons,List.length_nil];lia) (by kernel_rfl) (λk hk=>by simp at hk;show k<=1000000;lia) (λg q v m=>by
  rcases List.mem_cons.mp m with rfl|m
  ·exact⟨7,by kernel_rfl,λh=>nomatch h⟩
  ·cases List.mem_singleton.mp m
   exact⟨4,by kernel_rfl,λ_=>⟨false,by kernel_rfl⟩⟩)
theorem IC (hn:got.length<=400000) (hb:b.length<=400000):g6 (dX R M t V0 CD [.list [],ja b false 8] .BN (.a5 9) rb (62::au) false b got) (dX R M t V0 CD [.list [],ja (b.map gY) true 8] .bw (.a5 9) (62::rb) au false b (got++toks (62::rb) [aT 7 [115,101,108,102,45,99,108,111,115,105,110,103,45,102,108,97,103,45,111,110,45,101,110,100,45,116,97,103],.a5 9])):=
 fB (vs:=[aT 7 [115,101,108,102,45,99,108,111,115,105,110,103,45,102,108,97,103,45,111,110,45,101,110,100,45,116,97,103],.a5 9]) (os:=[10,2,1,2,b.length]) (by simp only [List.length_cons,List.length_nil];lia) (by kernel_rfl) (λk hk=>by simp at hk;show k<=1000000;lia) (λg q v m=>by
  rcases List.mem_cons.mp m with rfl|m
  ·exact⟨7,by kernel_rfl,λh=>nomatch h⟩
  ·cases List.mem_singleton.mp m
   exact⟨4,by kernel_rfl,λ_=>⟨true,by kernel_rfl⟩⟩)
theorem IB (hn:got.length<=400000) (hb:b.length<=400000):g6 (dX R M t V0 CD [.list [],ja b false 8] .BN (.a5 9) rb (32::au) false b got) (dX R M t V0 CD [.list [],ja b false 8] .jC (.a5 9) rb (32::au) false b (got++toks rb [aT 7 [117,110,101,120,112,101,99,116,101,100,45,99,104,97,114,97,99,116,101,114,45,97,102,116,101,114,45,115,111,108,105,100,117,115,45,105,110,45,116,97,103]])):=
 fB (vs:=[aT 7 [117,110,101,120,112,101,99,116,101,100,45,99,104,97,114,97,99,116,101,114,45,97,102,116,101,114,45,115,111,108,105,100,117,115,45,105,110,45,116,97,103]]) (os:=[10,1,2]) (by simp only [List.length_cons,List.length_nil];lia) (by kernel_rfl) (λk hk=>by simp at hk;show k<=1000000;lia) (λg q v m=>by
  cases List.mem_singleton.mp m
  exact⟨7,by kernel_rfl,λh=>nomatch h⟩)
theorem C1 (hn:got.length<=400000) (hb:b.length<=400000) (ha:au.length<=400000):g6 (dX R M t V0 CD [.list [],ja b false 8] .jC (.a5 9) rb (32::62::au) false b got) (dX R M t V0 CD [.list [],ja b false 8] .jC (.a5 9) (32::rb) (62::au) false b (got++toks (32::rb) [])):=
 fB (vs:=[]) (os:=[au.length+1]) (by simp only [List.length_cons,List.length_nil];lia) (by kernel_rfl) (λk hk=>by simp at hk;show k<=1000000;lia) (λ_ _ _ m=>nomatch m)
theorem YJ (hn:got.length<=400000) (hb:b.length<=400000):g6 (dX R M t V0 CD K .bw ct rb [117,32,118] false b got) (dX R M t V0 CD K .bw ct (118::32::117::rb) [] true b (got++toks (118::32::117::rb) [aT 1 [117,32,118]])):=
 fB (vs:=[aT 1 [117,32,118]]) (os:=[1,2,3,2,3]) (by simp only [List.length_cons,List.length_nil];lia) (by kernel_rfl) (λk hk=>by simp at hk;show k<=1000000;lia) (λg q v m=>by
  cases List.mem_singleton.mp m
  exact⟨1,by kernel_rfl,λh=>nomatch h⟩)
theorem YH (hn:got.length<=400000) (hb:b.length<=400000):g6 (dX R M t V0 CD K .bw ct rb [10,32,119,62] false b got) (dX R M t V0 CD K .bw ct (32::10::rb) [119,62] false b (got++toks (32::10::rb) [aT 2 [10,32]])):=
 fB (vs:=[aT 2 [10,32]]) (os:=[1,2,2,3]) (by simp only [List.length_cons,List.length_nil];lia) (by kernel_rfl) (λk hk=>by simp at hk;show k<=1000000;lia) (λg q v m=>by
  cases List.mem_singleton.mp m
  exact⟨2,by kernel_rfl,λh=>nomatch h⟩)
theorem d_w (hn:got.length<=400000) (hb:b.length<=400000):g6 (dX R M t V0 CD K .bw ct rb [119,62] false b got) (dX R M t V0 CD K .bw ct (62::119::rb) [] true b (got++toks (62::119::rb) [aT 1 [119,62]])):=
 fB (vs:=[aT 1 [119,62]]) (os:=[1,2,2,1,3]) (by simp only [List.length_cons,List.length_nil];lia) (by kernel_rfl) (λk hk=>by simp at hk;show k<=1000000;lia) (λg q v m=>by
  cases List.mem_singleton.mp m
  exact⟨1,by kernel_rfl,λh=>nomatch h⟩)
theorem YI (hn:got.length<=400000) (hb:b.length<=400000):g6 (dX R M t V0 CD K .bw ct rb [32] false b got) (dX R M t V0 CD K .bw ct (32::rb) [] true b (got++toks (32::rb) [aT 2 [32]])):=
 fB (vs:=[aT 2 [32]]) (os:=[1,2,1,0]) (by simp only [List.length_cons,List.length_nil];lia) (by kernel_rfl) (λk hk=>by simp at hk;show k<=1000000;lia) (λg q v m=>by
  cases List.mem_singleton.mp m
  exact⟨2,by kernel_rfl,λh=>nomatch h⟩)
end
noncomputable def eD (c:Nat):Nat:=gY c
theorem EC :∀c∈alpha,Unicode.lowerOf c=[eD c]/\(c==0x3A3)=false:=by
 unfold alpha
 repeat' first|exact List.forall_mem_nil _|refine List.forall_mem_cons.mpr ⟨⟨by kernel_rfl,by kernel_rfl⟩,?_⟩
theorem Df (f:Nat->Nat) :∀s:List Nat,((s.map λc=>#[f c]).toArray.flatten).toList=s.map f:=λs=>by
 rw [Array.flatten_toArray]
 simp
 induction s with
 |nil=>rfl
 |cons c r ih=>simp [ih]
theorem iI (s:List Nat) (h :∀c∈s,c∈alpha):aX s=s.map eD:=by
 have e:(s.toArray.mapIdx λi _=>(Unicode.lowerAt s.toArray i).toArray)=(s.map λc=>#[eD c]).toArray:=by
  apply Array.ext
  ·simp
  ·intro i h1 h2
   have hi:i<s.length:=by simpa using h1
   obtain⟨a,b⟩:=EC s[i] (h _ (List.getElem_mem hi))
   have:Unicode.lowerAt s.toArray i=[eD s[i]]:=by
    unfold Unicode.lowerAt
    have:s.toArray[i]?=some s[i]:=by simp [hi]
    rw [this]
    simp only [b,Bool.false_and,a]
    simp
   simp [this]
 unfold aX Txt.lower placed
 simp only []
 rw [e,Df]
noncomputable def fR:Bool->Fn|true=>.tS|false=>.tSE
noncomputable def ql:Bool->Fn|true=>.tSEN|false=>.tSEEN
noncomputable def dP (c:Nat):Bool:=(decide (97<=c)&&decide (c<=122))||(decide (65<=c)&&decide (c<=90))
noncomputable def jq (c:Nat):Bool:=c==32||c==10
noncomputable def gG (c:Nat):Bool:=c==32||c==10||c==47||c==62
noncomputable def Cj (o:Option (List Nat)) (b:List Nat):Bool:=match o with
 |some nm=>bQ (aX nm) (aX b)
 |none=>false
noncomputable def Kb (o:Option (List Nat)) (b:List Nat):List Nat:=match o with
 |some nm=>[(aX b).length,(aX nm).length]
 |none=>[]
theorem Q4 :∀c∈alpha,dP c=true->c∈Ci:=by decide
theorem Q5 :∀c∈alpha,dP c=false->gG c=false->c∈MS:=by decide
theorem Q6 :∀c∈alpha,dP c=false->c∈MT:=by decide
theorem Yu :∀c∈alpha,gG c=true->c∈[32,10,47,62]:=by decide
section
variable (R M:AO) (o:Option (List Nat)) (t rb au b:List Nat) (bI:Option (List Nat)) (en ap:Bool) {c:Nat}
theorem zw (h:c∈alpha) (h':dP c=true) :∀got,G7.call (ql ap) [.inst .tok 2] (hp R M o t (ql ap) rb (c::au) false (cH b) got [])=some (.bool true,hp R M o t (ql ap) (c::rb) au false (cH (b++[c])) got [],10::(b.length+1)::Kb o b):=λgot=>by
 have hc:=Q4 c h h'
 cases o with
 |none=>
  cases ap
  ·exact(kW R M t rb (c::au) b got false).trans (qA R M t rb au b [] got c hc)
  ·exact(mH R M t rb (c::au) b got false).trans (si R M t rb au b [] got c hc)
 |some nm=>
  cases ap
  ·exact(eN R M nm t rb (c::au) b got false).trans (qw R M nm t rb au b _ _ got c hc)
  ·exact(fH R M nm t rb (c::au) b got false).trans (sd R M nm t rb au b _ _ got c hc)
theorem zx (h:c∈alpha) (h':dP c=false) (h2:gG c=false\/Cj o b=false) :∀got,G7.call (ql ap) [.inst .tok 2] (hp R M o t (ql ap) rb (c::au) false (cH b) got [])=some (.bool true,hp R M o t (fR ap) rb (c::au) false (cH b) got [aT 1 (60::47::b)],10::1::2::(2+b.length)::Kb o b):=λgot=>by
 cases o with
 |none=>
  have hc:=Q6 c h h'
  cases ap
  ·exact(kW R M t rb (c::au) b got false).trans (qC R M t rb au b [] got c hc)
  ·exact(mH R M t rb (c::au) b got false).trans (sj R M t rb au b [] got c hc)
 |some nm=>
  cases hF:gG c with
  |false=>
   have hc:=Q5 c h h' hF
   cases ap
   ·exact(eN R M nm t rb (c::au) b got false).trans (qy R M nm t rb au b _ _ got c hc)
   ·exact(fH R M nm t rb (c::au) b got false).trans (sf R M nm t rb au b _ _ got c hc)
  |true=>
   have hc:=Yu c h hF
   have ha:bQ (aX nm) (aX b)=false:=by
    rcases h2 with h2|h2
    ·rw [hF]at h2;cases h2
    ·exact h2
   cases ap
   ·exact(eN R M nm t rb (c::au) b got false).trans (by rw [ha];exact qx R M nm t rb au b _ got c hc)
   ·exact(fH R M nm t rb (c::au) b got false).trans (by rw [ha];exact se R M nm t rb au b _ got c hc)
theorem vr :∀got,G7.call (ql ap) [.inst .tok 2] (hp R M o t (ql ap) rb [] en (cH b) got [])=some (.bool true,hp R M o t (fR ap) rb [] true (cH b) got [aT 1 (60::47::b)],10::1::2::(2+b.length)::Kb o b):=λgot=>by
 cases o with
 |none=>
  cases ap
  ·exact(kW R M t rb [] b got en).trans (oO R M t rb b [] en got)
  ·exact(mH R M t rb [] b got en).trans (qE R M t rb b [] en got)
 |some nm=>
  cases ap
  ·exact(eN R M nm t rb [] b got en).trans (oN R M nm t rb b _ _ en got)
  ·exact(fH R M nm t rb [] b got en).trans (qD R M nm t rb b _ _ en got)
end
noncomputable def WK:Sx:=(.asg (.v .af) (.aq (.at (.v .ae) .aE) .bK .nil))
noncomputable def beT:Ex:=(.cmp (.v .af) (.cons .isin (.bin .add (.g .aI) (.tup (.cons (.c (.str [47])) (.cons (.c (.str [62])) .nil)))) .nil))
noncomputable def Sv:Ex:=(.cmp (.aq (.at (.v .ae) .aF) .eW .nil) (.cons .eq (.c (.str eY)) .nil))
theorem rQ {f u v:Fn} {H H1 H2:List AO} {hs:Fn->List AO} {b:List Nat} {V1:List (Nm×AV)} {T1 T2:Ex} {s1 sA sB s2:Sx} {X:c5} {ks:c4}
  (hd:G7.call f [.inst .tok 2] H=kE G6 ⟨[.ae],[],ks,.cons s1 (.cons (.ite T1 (.cons s2 (.cons (.ite T2 (.cons sA .nil) (.cons sB .nil)) .nil)) X) (.cons (.ret (.c (.bool true))) .nil))⟩ [.inst .tok 2] H)
  (e1:ex G6 s1 ⟨H,[(.ae,.inst .tok 2)],[]⟩=some (.nx,⟨H1,V1,[]⟩)) (e2:cZ G6 T1 ⟨H1,V1,[]⟩=some (true,⟨H1,V1,[7,2]⟩)) (e3:ex G6 s2 ⟨H1,V1,[7,2]⟩=some (.nx,⟨H2,V1,[1,2,7,2]⟩))
  (e4:cZ G6 T2 ⟨H2,V1,[1,2,7,2]⟩=some (bQ (aX b) eY,⟨H2,V1,[(aX b).length,1,2,7,2]⟩)) (e5:ex G6 sA ⟨H2,V1,[(aX b).length,1,2,7,2]⟩=some (.nx,⟨hs u,V1,[10,(aX b).length,1,2,7,2]⟩)) (e6:ex G6 sB ⟨H2,V1,[(aX b).length,1,2,7,2]⟩=some (.nx,⟨hs v,V1,[10,(aX b).length,1,2,7,2]⟩)) :
  G7.call f [.inst .tok 2] H=some (.bool true,hs (cond (bQ (aX b) eY) u v),[10,(aX b).length,1,2,7,2]):=by
 rw [hd]
 refine k9 rfl (aK e1 (dW (b:=true) e2 (aK e3 (dW e4 (z:=some (.rt (.bool true),⟨hs (cond (bQ (aX b) eY) u v),V1,[10,(aX b).length,1,2,7,2]⟩)) ?_)))) rfl
 cases bQ (aX b) eY with
 |true=>exact aK e5 rfl
 |false=>exact aK e6 rfl
theorem vF (R M:AO) (o:Option (List Nat)) (t rb au b:List Nat) :∀c∈([32,10,47,62]:List Nat),∀got,G7.call .tSDES [.inst .tok 2] (hp R M o t .tSDES rb (c::au) false (cH b) got [])=some (.bool true,hp R M o t (cond (bQ (aX b) eY) .tSDE .tSE) (c::rb) au false (cH b) got [aT 1 [c]],[10,(aX b).length,1,2,7,2]):=by
 have go (c:Nat) (got:List AV) (e1:ex G6 WK ⟨hp R M o t .tSDES rb (c::au) false (cH b) got [],[(.ae,.inst .tok 2)],[]⟩=some (.nx,⟨hp R M o t .tSDES (c::rb) au false (cH b) got [],[(.ae,.inst .tok 2),(.af,.str [c])],[]⟩))
   (e2:cZ G6 beT ⟨hp R M o t .tSDES (c::rb) au false (cH b) got [],[(.ae,.inst .tok 2),(.af,.str [c])],[]⟩=some (true,⟨hp R M o t .tSDES (c::rb) au false (cH b) got [],[(.ae,.inst .tok 2),(.af,.str [c])],[7,2]⟩)) :
   G7.call .tSDES [.inst .tok 2] (hp R M o t .tSDES rb (c::au) false (cH b) got [])=some (.bool true,hp R M o t (cond (bQ (aX b) eY) .tSDE .tSE) (c::rb) au false (cH b) got [aT 1 [c]],[10,(aX b).length,1,2,7,2]):=by
  have e4:cZ G6 Sv ⟨hp R M o t .tSDES (c::rb) au false (cH b) got [aT 1 [c]],[(.ae,.inst .tok 2),(.af,.str [c])],[1,2,7,2]⟩=some (bQ (aX b) eY,⟨hp R M o t .tSDES (c::rb) au false (cH b) got [aT 1 [c]],[(.ae,.inst .tok 2),(.af,.str [c])],[(aX b).length,1,2,7,2]⟩):=by
   have a1:rP G6 (hp R M o t .tSDES (c::rb) au false (cH b) got [aT 1 [c]]) (.inst .tok 2) .aF=some (.str b):=by cases o<;>kernel_rfl
   exact cN (d0 (rY (bZ rfl) a1) (nD j7) rfl (ny (os:=[(aX b).length]) rfl)) (fM rfl rfl)
  cases o with
  |none=>exact rQ (hs:=λg=>hp R M none t g (c::rb) au false (cH b) got [aT 1 [c]]) rfl e1 e2 (by kernel_rfl) e4 (by kernel_rfl) (by kernel_rfl)
  |some nm=>exact rQ (hs:=λg=>hp R M (some nm) t g (c::rb) au false (cH b) got [aT 1 [c]]) rfl e1 e2 (by kernel_rfl) e4 (by kernel_rfl) (by kernel_rfl)
 cases o<;>(repeat' first|exact List.forall_mem_nil _|refine List.forall_mem_cons.mpr ⟨λgot=>go _ got (by kernel_rfl) (by kernel_rfl),?_⟩)
theorem vC (R M:AO) (o:Option (List Nat)) (t rb au b:List Nat) :∀c∈([32,10,47,62]:List Nat),∀got,G7.call .tSDEE [.inst .tok 2] (hp R M o t .tSDEE rb (c::au) false (cH b) got [])=some (.bool true,hp R M o t (cond (bQ (aX b) eY) .tSE .tSDE) (c::rb) au false (cH b) got [aT 1 [c]],[10,(aX b).length,1,2,7,2]):=by
 have go (c:Nat) (got:List AV) (e1:ex G6 WK ⟨hp R M o t .tSDEE rb (c::au) false (cH b) got [],[(.ae,.inst .tok 2)],[]⟩=some (.nx,⟨hp R M o t .tSDEE (c::rb) au false (cH b) got [],[(.ae,.inst .tok 2),(.af,.str [c])],[]⟩))
   (e2:cZ G6 beT ⟨hp R M o t .tSDEE (c::rb) au false (cH b) got [],[(.ae,.inst .tok 2),(.af,.str [c])],[]⟩=some (true,⟨hp R M o t .tSDEE (c::rb) au false (cH b) got [],[(.ae,.inst .tok 2),(.af,.str [c])],[7,2]⟩)) :
   G7.call .tSDEE [.inst .tok 2] (hp R M o t .tSDEE rb (c::au) false (cH b) got [])=some (.bool true,hp R M o t (cond (bQ (aX b) eY) .tSE .tSDE) (c::rb) au false (cH b) got [aT 1 [c]],[10,(aX b).length,1,2,7,2]):=by
  have e4:cZ G6 Sv ⟨hp R M o t .tSDEE (c::rb) au false (cH b) got [aT 1 [c]],[(.ae,.inst .tok 2),(.af,.str [c])],[1,2,7,2]⟩=some (bQ (aX b) eY,⟨hp R M o t .tSDEE (c::rb) au false (cH b) got [aT 1 [c]],[(.ae,.inst .tok 2),(.af,.str [c])],[(aX b).length,1,2,7,2]⟩):=by
   have a1:rP G6 (hp R M o t .tSDEE (c::rb) au false (cH b) got [aT 1 [c]]) (.inst .tok 2) .aF=some (.str b):=by cases o<;>kernel_rfl
   exact cN (d0 (rY (bZ rfl) a1) (nD j7) rfl (ny (os:=[(aX b).length]) rfl)) (fM rfl rfl)
  cases o with
  |none=>exact rQ (hs:=λg=>hp R M none t g (c::rb) au false (cH b) got [aT 1 [c]]) rfl e1 e2 (by kernel_rfl) e4 (by kernel_rfl) (by kernel_rfl)
  |some nm=>exact rQ (hs:=λg=>hp R M (some nm) t g (c::rb) au false (cH b) got [aT 1 [c]]) rfl e1 e2 (by kernel_rfl) e4 (by kernel_rfl) (by kernel_rfl)
 cases o<;>(repeat' first|exact List.forall_mem_nil _|refine List.forall_mem_cons.mpr ⟨λgot=>go _ got (by kernel_rfl) (by kernel_rfl),?_⟩)
noncomputable def Al (l:List Nat):Prop:=∀c∈l,c∈alpha
theorem Al.hd {c:Nat} {l:List Nat} (h:Al (c::l)):c∈alpha:=h _ (.head _)
theorem Al.tl {c:Nat} {l:List Nat} (h:Al (c::l)):Al l:=λx m=>h _ (.tail _ m)
theorem Al.app {a b:List Nat} (h:Al (a++b)):Al a/\Al b:=⟨λx m=>h _ (List.mem_append_left _ m),λx m=>h _ (List.mem_append_right _ m)⟩
structure dQ (o:Option (List Nat)):Prop where
 lo :∀nm,o=some nm->aX nm=nm
 le :∀nm,o=some nm->nm.length<=10
theorem rq {o:Option (List Nat)} {b:List Nat} (hn:dQ o) (hb:Al b) (hl:b.length<=400000):Lm (Kb o b):=by
 cases o with
 |none=>exact .nil
 |some nm=>
  refine .cons ?_ (.cons ?_ .nil)
  ·rw [iI b hb,List.length_map];show _<=1000000;lia
  ·rw [hn.lo nm rfl];have:=hn.le nm rfl;show _<=1000000;lia
theorem qj {p q:Nat->Bool} :∀{l:List Nat},(∀c∈l,p c=q c)->l.takeWhile p=l.takeWhile q/\l.dropWhile p=l.dropWhile q
 |[],_=>⟨rfl,rfl⟩
 |c::r,h=>by
  have hc:=h c (.head _)
  obtain⟨a,b⟩:=qj (l:=r) λx m=>h x (.tail _ m)
  simp only [List.takeWhile_cons,List.dropWhile_cons,hc,a,b]
  exact⟨trivial,trivial⟩
theorem Qe {p:Nat->Bool} :∀{l:List Nat},(∀c∈l,p c=true)->l.takeWhile p=l/\l.dropWhile p=[]
 |[],_=>⟨rfl,rfl⟩
 |c::r,h=>by
  have hc:=h c (.head _)
  obtain⟨a,b⟩:=Qe (l:=r) λx m=>h x (.tail _ m)
  simp only [List.takeWhile_cons,List.dropWhile_cons,hc,a,b]
  exact⟨rfl,rfl⟩
theorem tR (p:Nat->Bool) (l:List Nat):(l.takeWhile p).length<=l.length:=by
 have:=congrArg List.length (List.takeWhile_append_dropWhile (p:=p) (l:=l))
 rw [List.length_append]at this;lia
noncomputable def aaO (o:Option (List Nat)) (l:List Nat):Bool:=match o with
 |some nm=>bQ (l.take 2) [60,47]&&bQ (aX ((l.drop 2).take nm.length)) nm&&(match l.drop (2+nm.length)with|e::_=>gG e|[]=>false)
 |none=>false
theorem vg {b:List Nat} (h:Al b):(aX b).length=b.length:=by rw [iI b h,List.length_map]
structure Yq where
 f:Fn
 b:Option (List Nat)
 p:List Nat
 k:List Nat
 r:List Nat
noncomputable def sT (c:Nat):Bool:=c != 60
noncomputable def jA (c:Nat):Bool:=c != 60&&c != 45
noncomputable def iC (f:Fn) (b:Option (List Nat)) (c:Nat) (r:List Nat):Yq:=match f with
 |.tS=>cond (c==60) ⟨.tSLt,b,[],[c],r⟩<|⟨.tS,b,c::r.takeWhile sT,c::r.takeWhile sT,r.dropWhile sT⟩
 |.tSLt=>cond (c==47) ⟨.tSEO,(some []),[],[c],r⟩<|cond (c==33) ⟨.tSES,b,[60,33],[c],r⟩<|⟨.tS,b,[60],[],c::r⟩
 |.tSEO=>cond (dP c) ⟨.tSEN,(some [c]),[],[c],r⟩<|⟨.tS,b,[60,47],[],c::r⟩
 |.tSEN=>cond (dP c) ⟨.tSEN,(b.map (·++[c])),[],[c],r⟩<|⟨.tS,b,(60::47::b.getD []),[],c::r⟩
 |.tSES=>cond (c==45) ⟨.tSESD,b,[45],[c],r⟩<|⟨.tS,b,[],[],c::r⟩
 |.tSESD=>cond (c==45) ⟨.tSEDD,b,[45],[c],r⟩<|⟨.tS,b,[],[],c::r⟩
 |.tSE=>cond (c==45) ⟨.tSED,b,[45],[c],r⟩<|cond (c==60) ⟨.tSELt,b,[],[c],r⟩<|⟨.tSE,b,c::r.takeWhile jA,c::r.takeWhile jA,r.dropWhile jA⟩
 |.tSED=>cond (c==45) ⟨.tSEDD,b,[45],[c],r⟩<|cond (c==60) ⟨.tSELt,b,[],[c],r⟩<|⟨.tSE,b,[c],[c],r⟩
 |.tSEDD=>cond (c==45) ⟨.tSEDD,b,[45],[c],r⟩<|cond (c==60) ⟨.tSELt,b,[],[c],r⟩<|cond (c==62) ⟨.tS,b,[62],[c],r⟩<|⟨.tSE,b,[c],[c],r⟩
 |.tSELt=>cond (c==47) ⟨.tSEEO,(some []),[],[c],r⟩<|cond (dP c) ⟨.tSDES,(some [c]),[60,c],[c],r⟩<|⟨.tSE,b,[60],[],c::r⟩
 |.tSEEO=>cond (dP c) ⟨.tSEEN,(some [c]),[],[c],r⟩<|⟨.tSE,b,[60,47],[],c::r⟩
 |.tSEEN=>cond (dP c) ⟨.tSEEN,(b.map (·++[c])),[],[c],r⟩<|⟨.tSE,b,(60::47::b.getD []),[],c::r⟩
 |.tSDES=>cond (gG c) ⟨(cond (bQ (aX (b.getD [])) eY) .tSDE .tSE),b,[c],[c],r⟩<|cond (dP c) ⟨.tSDES,(b.map (·++[c])),[c],[c],r⟩<|⟨.tSE,b,[],[],c::r⟩
 |.tSDEE=>cond (gG c) ⟨(cond (bQ (aX (b.getD [])) eY) .tSE .tSDE),b,[c],[c],r⟩<|cond (dP c) ⟨.tSDEE,(b.map (·++[c])),[c],[c],r⟩<|⟨.tSDE,b,[],[],c::r⟩
 |.tSDE=>cond (c==45) ⟨.tSDED,b,[45],[c],r⟩<|cond (c==60) ⟨.bB,b,[60],[c],r⟩<|⟨.tSDE,b,[c],[c],r⟩
 |.tSDED=>cond (c==45) ⟨.bG,b,[45],[c],r⟩<|cond (c==60) ⟨.bB,b,[60],[c],r⟩<|⟨.tSDE,b,[c],[c],r⟩
 |.bG=>cond (c==45) ⟨.bG,b,[45],[c],r⟩<|cond (c==60) ⟨.bB,b,[60],[c],r⟩<|cond (c==62) ⟨.tS,b,[62],[c],r⟩<|⟨.tSDE,b,[c],[c],r⟩
 |.bB=>cond (c==47) ⟨.tSDEE,(some []),[47],[c],r⟩<|⟨.tSDE,b,[],[],c::r⟩
 |_=>⟨f,b,[],[],c::r⟩
noncomputable def WF (f:Fn) (b:Option (List Nat)):Prop:=match f with
 |.tS=>True
 |.tSLt=>True
 |.tSEO=>b=some []
 |.tSEN=>∃x,b=some x
 |.tSES=>True
 |.tSESD=>True
 |.tSE=>True
 |.tSED=>True
 |.tSEDD=>True
 |.tSELt=>True
 |.tSEEO=>∃x,b=some x
 |.tSEEN=>∃x,b=some x
 |.tSDES=>∃x,b=some x
 |.tSDEE=>∃x,b=some x
 |.tSDE=>True
 |.tSDED=>True
 |.bG=>True
 |.bB=>True
 |_=>False
noncomputable def tq (p:List Nat):List AV:=match p with
 |[]=>[]
 |c::r=>[aT 1 (c::r)]
noncomputable def bV (R M:AO) (o:Option (List Nat)) (t:List Nat) (f:Fn) (b:Option (List Nat)) (rb:List Nat) (c:Nat) (r:List Nat) (s:Yq):Prop:=
 ∃os en',Lm os/\(s.r≠[]->en'=false)/\∀got,G7.call f [.inst .tok 2] (hp R M o t f rb (c::r) false (cb b) got [])=some (.bool true,hp R M o t s.f (s.k.reverse++rb) s.r en' (cb s.b) got (tq s.p),os)
theorem df (b:Option (List Nat)):9+(cb b).length<=ew:=by cases b<;>first|exact(show 9<=1000000 by decide)|exact(show 10<=1000000 by decide)
theorem wM {l:List Nat} (h:l≠[]):l.isEmpty=false:=by cases l with|nil=>exact absurd rfl h|cons=>rfl
theorem MP :∀c∈alpha,(sS PH c==false)=sT c:=by decide
theorem MQ :∀c∈alpha,(sS PQ c==false)=jA c:=by decide
theorem Zb :∀c∈alpha,(c==60)=false->c∈Q0:=by decide
theorem Zc :∀c∈alpha,(c==47)=false->(c==33)=false->c∈Q1:=by decide
theorem SM :∀c∈alpha,(dP c)=true->c∈t7:=by decide
theorem SP :∀c∈alpha,(dP c)=false->c∈MK:=by decide
theorem SQ :∀c∈alpha,(c==45)=false->c∈ML:=by decide
theorem JU :∀c∈alpha,(c==45)=false->(c==60)=false->c∈Cf:=by decide
theorem SR :∀c∈alpha,(c==45)=false->(c==60)=false->(c==62)=false->c∈MM:=by decide
theorem Zd :∀c∈alpha,(c==47)=false->(dP c)=true->c∈t7:=by decide
theorem Ze :∀c∈alpha,(c==47)=false->(dP c)=false->c∈Q2:=by decide
theorem SU :∀c∈alpha,(gG c)=true->c∈[32,10,47,62]:=by decide
theorem LC :∀c∈alpha,(gG c)=false->(dP c)=true->c∈t7:=by decide
theorem LD :∀c∈alpha,(gG c)=false->(dP c)=false->c∈MN:=by decide
theorem SJ :∀c∈alpha,(c==47)=false->c∈Q3:=by decide
section
variable {R M:AO} {o:Option (List Nat)} {t rb:List Nat} {b:Option (List Nat)} {c:Nat} {r:List Nat}
theorem Yl (hn:dQ o) (hw:WF .tS b) (hA:Al (c::r)) (hb :∀x,b=some x->Al x/\x.length<=400000) (hl:r.length<=400000):bV R M o t .tS b rb c r (iC .tS b c r):=by
 have h9:=df b
 show bV R M o t .tS b rb c r (cond (c==60) ⟨.tSLt,b,[],[c],r⟩<|⟨.tS,b,c::r.takeWhile sT,c::r.takeWhile sT,r.dropWhile sT⟩)
 cases h0:(c==60)with
 |true=>
  obtain rfl:=eq_of_beq h0
  exact⟨_,false,(.cons h9 .nil),λ_=>rfl,Gf R M o t rb r b _ (.head _)⟩
 |false=>
  obtain⟨e1,e2⟩:=qj (p:=λc=>sS PH c==false) (q:=sT) (l:=r) λx m=>MP x (hA.tl x m)
  have e:=Gg R M o t rb r (cb b) c (Zb c hA.hd h0)
  unfold iw oM at e
  rw [e1,e2,show(r.takeWhile sT).reverse++c::rb=(c::r.takeWhile sT).reverse++rb by rw [List.reverse_cons,List.append_assoc];rfl]at e
  have ht:=tR sT r
  exact⟨[1,2,[c].length+(r.takeWhile sT).length,r.length,2],_,.cons (by decide) (.cons (by decide) (.cons (by show 1+_<=1000000;lia) (.cons (by show _<=1000000;lia) (.cons (by decide) .nil)))),wM,e⟩
theorem Mm (hn:dQ o) (hw:WF .tSLt b) (hA:Al (c::r)) (hb :∀x,b=some x->Al x/\x.length<=400000) (hl:r.length<=400000):bV R M o t .tSLt b rb c r (iC .tSLt b c r):=by
 have h9:=df b
 show bV R M o t .tSLt b rb c r (cond (c==47) ⟨.tSEO,(some []),[],[c],r⟩<|cond (c==33) ⟨.tSES,b,[60,33],[c],r⟩<|⟨.tS,b,[60],[],c::r⟩)
 cases h0:(c==47)with
 |true=>
  obtain rfl:=eq_of_beq h0
  exact⟨_,false,(.cons (by decide) (.cons h9 .nil)),λ_=>rfl,xT R M o t rb r b _ (.head _)⟩
 |false=>
  cases h1:(c==33)with
  |true=>
   obtain rfl:=eq_of_beq h1
   exact⟨_,false,(.cons h9 (.cons (by decide) (.cons (by decide) .nil))),λ_=>rfl,xR R M o t rb r b _ (.head _)⟩
  |false=>
   exact⟨_,false,(.cons h9 (.cons (by decide) (.cons (by decide) .nil))),λ_=>rfl,xS R M o t rb r b _ (Zc _ hA.hd h0 h1)⟩
theorem Mk (hn:dQ o) (hw:WF .tSEO b) (hA:Al (c::r)) (hb :∀x,b=some x->Al x/\x.length<=400000) (hl:r.length<=400000):bV R M o t .tSEO b rb c r (iC .tSEO b c r):=by
 obtain rfl:b=some []:=hw
 show bV R M o t .tSEO (some []) rb c r (cond (dP c) ⟨.tSEN,(some [c]),[],[c],r⟩<|⟨.tS,(some []),[60,47],[],c::r⟩)
 cases h0:(dP c)with
 |true=>
  exact⟨_,false,(.cons (by decide) (.cons (by decide) (.cons (by decide) .nil))),λ_=>rfl,xN R M o t rb r _ (SM _ hA.hd h0)⟩
 |false=>
  exact⟨_,false,(.cons (by decide) (.cons (by decide) (.cons (by decide) .nil))),λ_=>rfl,xO R M o t rb r [] _ (SP _ hA.hd h0)⟩
theorem Mj (hn:dQ o) (hw:WF .tSEN b) (hA:Al (c::r)) (hb :∀x,b=some x->Al x/\x.length<=400000) (hl:r.length<=400000) (hf :∀x,b=some x->gG c=false\/Cj o x=false):bV R M o t .tSEN b rb c r (iC .tSEN b c r):=by
 obtain⟨x,rfl⟩ :∃x,b=some x:=hw
 obtain⟨hx,hxl⟩:=hb x rfl
 show bV R M o t .tSEN (some x) rb c r (cond (dP c) ⟨.tSEN,(some (x++[c])),[],[c],r⟩<|⟨.tS,(some x),(60::47::x),[],c::r⟩)
 cases h0:(dP c)with
 |true=>
  exact⟨_,false,.cons (by decide) (.cons (by show _<=1000000;lia) (rq hn hx hxl)),λ_=>rfl,zw R M o t rb r x true hA.hd h0⟩
 |false=>
  exact⟨_,false,.cons (by decide) (.cons (by decide) (.cons (by decide) (.cons (by show _<=1000000;lia) (rq hn hx hxl)))),λ_=>rfl,zx R M o t rb r x true hA.hd h0 (hf x rfl)⟩
theorem Ml (hn:dQ o) (hw:WF .tSES b) (hA:Al (c::r)) (hb :∀x,b=some x->Al x/\x.length<=400000) (hl:r.length<=400000):bV R M o t .tSES b rb c r (iC .tSES b c r):=by
 have h9:=df b
 show bV R M o t .tSES b rb c r (cond (c==45) ⟨.tSESD,b,[45],[c],r⟩<|⟨.tS,b,[],[],c::r⟩)
 cases h0:(c==45)with
 |true=>
  obtain rfl:=eq_of_beq h0
  exact⟨_,false,(.cons h9 (.cons (by decide) (.cons (by decide) .nil))),λ_=>rfl,xP R M o t rb r b _ (.head _)⟩
 |false=>
  exact⟨_,false,(.cons h9 .nil),λ_=>rfl,xQ R M o t rb r b _ (SQ _ hA.hd h0)⟩
theorem Hj (hn:dQ o) (hw:WF .tSESD b) (hA:Al (c::r)) (hb :∀x,b=some x->Al x/\x.length<=400000) (hl:r.length<=400000):bV R M o t .tSESD b rb c r (iC .tSESD b c r):=by
 have h9:=df b
 show bV R M o t .tSESD b rb c r (cond (c==45) ⟨.tSEDD,b,[45],[c],r⟩<|⟨.tS,b,[],[],c::r⟩)
 cases h0:(c==45)with
 |true=>
  obtain rfl:=eq_of_beq h0
  exact⟨_,false,(.cons h9 (.cons (by decide) (.cons (by decide) .nil))),λ_=>rfl,vY R M o t rb r b _ (.head _)⟩
 |false=>
  exact⟨_,false,(.cons h9 .nil),λ_=>rfl,vZ R M o t rb r b _ (SQ _ hA.hd h0)⟩
theorem QD (hn:dQ o) (hw:WF .tSE b) (hA:Al (c::r)) (hb :∀x,b=some x->Al x/\x.length<=400000) (hl:r.length<=400000):bV R M o t .tSE b rb c r (iC .tSE b c r):=by
 have h9:=df b
 show bV R M o t .tSE b rb c r (cond (c==45) ⟨.tSED,b,[45],[c],r⟩<|cond (c==60) ⟨.tSELt,b,[],[c],r⟩<|⟨.tSE,b,c::r.takeWhile jA,c::r.takeWhile jA,r.dropWhile jA⟩)
 cases h0:(c==45)with
 |true=>
  obtain rfl:=eq_of_beq h0
  exact⟨_,false,(.cons h9 (.cons (by decide) (.cons (by decide) .nil))),λ_=>rfl,Bu R M o t rb r b _ (.head _)⟩
 |false=>
  cases h1:(c==60)with
  |true=>
   obtain rfl:=eq_of_beq h1
   exact⟨_,false,(.cons h9 .nil),λ_=>rfl,Bv R M o t rb r b _ (.head _)⟩
  |false=>
   obtain⟨e1,e2⟩:=qj (p:=λc=>sS PQ c==false) (q:=jA) (l:=r) λx m=>MQ x (hA.tl x m)
   have e:=Bw R M o t rb r (cb b) c (JU c hA.hd h0 h1)
   unfold iw oM at e
   rw [e1,e2,show(r.takeWhile jA).reverse++c::rb=(c::r.takeWhile jA).reverse++rb by rw [List.reverse_cons,List.append_assoc];rfl]at e
   have ht:=tR jA r
   exact⟨[1,2,[c].length+(r.takeWhile jA).length,r.length,3],_,.cons (by decide) (.cons (by decide) (.cons (by show 1+_<=1000000;lia) (.cons (by show _<=1000000;lia) (.cons (by decide) .nil)))),wM,e⟩
theorem Mi (hn:dQ o) (hw:WF .tSED b) (hA:Al (c::r)) (hb :∀x,b=some x->Al x/\x.length<=400000) (hl:r.length<=400000):bV R M o t .tSED b rb c r (iC .tSED b c r):=by
 have h9:=df b
 show bV R M o t .tSED b rb c r (cond (c==45) ⟨.tSEDD,b,[45],[c],r⟩<|cond (c==60) ⟨.tSELt,b,[],[c],r⟩<|⟨.tSE,b,[c],[c],r⟩)
 cases h0:(c==45)with
 |true=>
  obtain rfl:=eq_of_beq h0
  exact⟨_,false,(.cons h9 (.cons (by decide) (.cons (by decide) .nil))),λ_=>rfl,xJ R M o t rb r b _ (.head _)⟩
 |false=>
  cases h1:(c==60)with
  |true=>
   obtain rfl:=eq_of_beq h1
   exact⟨_,false,(.cons h9 .nil),λ_=>rfl,xK R M o t rb r b _ (.head _)⟩
  |false=>
   exact⟨_,false,(.cons h9 (.cons (by decide) (.cons (by decide) .nil))),λ_=>rfl,xM R M o t rb r b _ (JU _ hA.hd h0 h1)⟩
theorem Hf (hn:dQ o) (hw:WF .tSEDD b) (hA:Al (c::r)) (hb :∀x,b=some x->Al x/\x.length<=400000) (hl:r.length<=400000):bV R M o t .tSEDD b rb c r (iC .tSEDD b c r):=by
 have h9:=df b
 show bV R M o t .tSEDD b rb c r (cond (c==45) ⟨.tSEDD,b,[45],[c],r⟩<|cond (c==60) ⟨.tSELt,b,[],[c],r⟩<|cond (c==62) ⟨.tS,b,[62],[c],r⟩<|⟨.tSE,b,[c],[c],r⟩)
 cases h0:(c==45)with
 |true=>
  obtain rfl:=eq_of_beq h0
  exact⟨_,false,(.cons (by decide) (.cons (by decide) .nil)),λ_=>rfl,vK R M o t rb r b _ (.head _)⟩
 |false=>
  cases h1:(c==60)with
  |true=>
   obtain rfl:=eq_of_beq h1
   exact⟨_,false,(.cons h9 .nil),λ_=>rfl,vM R M o t rb r b _ (.head _)⟩
  |false=>
   cases h2:(c==62)with
   |true=>
    obtain rfl:=eq_of_beq h2
    exact⟨_,false,(.cons h9 (.cons (by decide) (.cons (by decide) .nil))),λ_=>rfl,vL R M o t rb r b _ (.head _)⟩
   |false=>
    exact⟨_,false,(.cons h9 (.cons (by decide) (.cons (by decide) .nil))),λ_=>rfl,vN R M o t rb r b _ (SR _ hA.hd h0 h1 h2)⟩
theorem Hi (hn:dQ o) (hw:WF .tSELt b) (hA:Al (c::r)) (hb :∀x,b=some x->Al x/\x.length<=400000) (hl:r.length<=400000):bV R M o t .tSELt b rb c r (iC .tSELt b c r):=by
 have h9:=df b
 show bV R M o t .tSELt b rb c r (cond (c==47) ⟨.tSEEO,(some []),[],[c],r⟩<|cond (dP c) ⟨.tSDES,(some [c]),[60,c],[c],r⟩<|⟨.tSE,b,[60],[],c::r⟩)
 cases h0:(c==47)with
 |true=>
  obtain rfl:=eq_of_beq h0
  exact⟨_,false,(.cons (by decide) (.cons h9 .nil)),λ_=>rfl,vW R M o t rb r b _ (.head _)⟩
 |false=>
  cases h1:(dP c)with
  |true=>
   exact⟨_,false,(.cons (by decide) (.cons h9 (.cons (by decide) (.cons (by decide) (.cons (by decide) .nil))))),λ_=>rfl,vU R M o t rb r b _ (Zd _ hA.hd h0 h1)⟩
  |false=>
   exact⟨_,false,(.cons h9 (.cons (by decide) (.cons (by decide) .nil))),λ_=>rfl,vV R M o t rb r b _ (Ze _ hA.hd h0 h1)⟩
theorem Hh (hn:dQ o) (hw:WF .tSEEO b) (hA:Al (c::r)) (hb :∀x,b=some x->Al x/\x.length<=400000) (hl:r.length<=400000):bV R M o t .tSEEO b rb c r (iC .tSEEO b c r):=by
 obtain⟨x,rfl⟩ :∃x,b=some x:=hw
 obtain⟨hx,hxl⟩:=hb x rfl
 show bV R M o t .tSEEO (some x) rb c r (cond (dP c) ⟨.tSEEN,(some [c]),[],[c],r⟩<|⟨.tSE,(some x),[60,47],[],c::r⟩)
 cases h0:(dP c)with
 |true=>
  exact⟨_,false,(.cons (by decide) (.cons (by decide) .nil)),λ_=>rfl,vP R M o t rb r x _ (SM _ hA.hd h0)⟩
 |false=>
  exact⟨_,false,(.cons (by decide) (.cons (by decide) (.cons (by decide) .nil))),λ_=>rfl,vQ R M o t rb r x _ (SP _ hA.hd h0)⟩
theorem Hg (hn:dQ o) (hw:WF .tSEEN b) (hA:Al (c::r)) (hb :∀x,b=some x->Al x/\x.length<=400000) (hl:r.length<=400000) (hf :∀x,b=some x->gG c=false\/Cj o x=false):bV R M o t .tSEEN b rb c r (iC .tSEEN b c r):=by
 obtain⟨x,rfl⟩ :∃x,b=some x:=hw
 obtain⟨hx,hxl⟩:=hb x rfl
 show bV R M o t .tSEEN (some x) rb c r (cond (dP c) ⟨.tSEEN,(some (x++[c])),[],[c],r⟩<|⟨.tSE,(some x),(60::47::x),[],c::r⟩)
 cases h0:(dP c)with
 |true=>
  exact⟨_,false,.cons (by decide) (.cons (by show _<=1000000;lia) (rq hn hx hxl)),λ_=>rfl,zw R M o t rb r x false hA.hd h0⟩
 |false=>
  exact⟨_,false,.cons (by decide) (.cons (by decide) (.cons (by decide) (.cons (by show _<=1000000;lia) (rq hn hx hxl)))),λ_=>rfl,zx R M o t rb r x false hA.hd h0 (hf x rfl)⟩
theorem He (hn:dQ o) (hw:WF .tSDES b) (hA:Al (c::r)) (hb :∀x,b=some x->Al x/\x.length<=400000) (hl:r.length<=400000):bV R M o t .tSDES b rb c r (iC .tSDES b c r):=by
 obtain⟨x,rfl⟩ :∃x,b=some x:=hw
 obtain⟨hx,hxl⟩:=hb x rfl
 show bV R M o t .tSDES (some x) rb c r (cond (gG c) ⟨(cond (bQ (aX (x)) eY) .tSDE .tSE),(some x),[c],[c],r⟩<|cond (dP c) ⟨.tSDES,(some (x++[c])),[c],[c],r⟩<|⟨.tSE,(some x),[],[],c::r⟩)
 cases h0:(gG c)with
 |true=>
  exact⟨_,false,(.cons (by decide) (.cons (by rw [vg hx];show _<=1000000;lia) (.cons (by decide) (.cons (by decide) (.cons (by decide) (.cons (by decide) .nil)))))),λ_=>rfl,vF R M o t rb r x _ (SU _ hA.hd h0)⟩
 |false=>
  cases h1:(dP c)with
  |true=>
   exact⟨_,false,(.cons (by decide) (.cons (by show _<=1000000;lia) (.cons (by decide) (.cons (by decide) (.cons (by decide) (.cons (by decide) .nil)))))),λ_=>rfl,vG R M o t rb r x _ (LC _ hA.hd h0 h1)⟩
  |false=>
   exact⟨_,false,(.cons (by decide) (.cons (by decide) (.cons (by decide) .nil))),λ_=>rfl,vH R M o t rb r x _ (LD _ hA.hd h0 h1)⟩
theorem Hd (hn:dQ o) (hw:WF .tSDEE b) (hA:Al (c::r)) (hb :∀x,b=some x->Al x/\x.length<=400000) (hl:r.length<=400000):bV R M o t .tSDEE b rb c r (iC .tSDEE b c r):=by
 obtain⟨x,rfl⟩ :∃x,b=some x:=hw
 obtain⟨hx,hxl⟩:=hb x rfl
 show bV R M o t .tSDEE (some x) rb c r (cond (gG c) ⟨(cond (bQ (aX (x)) eY) .tSE .tSDE),(some x),[c],[c],r⟩<|cond (dP c) ⟨.tSDEE,(some (x++[c])),[c],[c],r⟩<|⟨.tSDE,(some x),[],[],c::r⟩)
 cases h0:(gG c)with
 |true=>
  exact⟨_,false,(.cons (by decide) (.cons (by rw [vg hx];show _<=1000000;lia) (.cons (by decide) (.cons (by decide) (.cons (by decide) (.cons (by decide) .nil)))))),λ_=>rfl,vC R M o t rb r x _ (SU _ hA.hd h0)⟩
 |false=>
  cases h1:(dP c)with
  |true=>
   exact⟨_,false,(.cons (by decide) (.cons (by show _<=1000000;lia) (.cons (by decide) (.cons (by decide) (.cons (by decide) (.cons (by decide) .nil)))))),λ_=>rfl,vD R M o t rb r x _ (LC _ hA.hd h0 h1)⟩
  |false=>
   exact⟨_,false,(.cons (by decide) (.cons (by decide) (.cons (by decide) .nil))),λ_=>rfl,vE R M o t rb r x _ (LD _ hA.hd h0 h1)⟩
theorem Mh (hn:dQ o) (hw:WF .tSDE b) (hA:Al (c::r)) (hb :∀x,b=some x->Al x/\x.length<=400000) (hl:r.length<=400000):bV R M o t .tSDE b rb c r (iC .tSDE b c r):=by
 have h9:=df b
 show bV R M o t .tSDE b rb c r (cond (c==45) ⟨.tSDED,b,[45],[c],r⟩<|cond (c==60) ⟨.bB,b,[60],[c],r⟩<|⟨.tSDE,b,[c],[c],r⟩)
 cases h0:(c==45)with
 |true=>
  obtain rfl:=eq_of_beq h0
  exact⟨_,false,(.cons h9 (.cons (by decide) (.cons (by decide) .nil))),λ_=>rfl,xG R M o t rb r b _ (.head _)⟩
 |false=>
  cases h1:(c==60)with
  |true=>
   obtain rfl:=eq_of_beq h1
   exact⟨_,false,(.cons h9 (.cons (by decide) (.cons (by decide) .nil))),λ_=>rfl,xH R M o t rb r b _ (.head _)⟩
  |false=>
   exact⟨_,false,(.cons (by decide) (.cons (by decide) .nil)),λ_=>rfl,xI R M o t rb r b _ (JU _ hA.hd h0 h1)⟩
theorem Hc (hn:dQ o) (hw:WF .tSDED b) (hA:Al (c::r)) (hb :∀x,b=some x->Al x/\x.length<=400000) (hl:r.length<=400000):bV R M o t .tSDED b rb c r (iC .tSDED b c r):=by
 have h9:=df b
 show bV R M o t .tSDED b rb c r (cond (c==45) ⟨.bG,b,[45],[c],r⟩<|cond (c==60) ⟨.bB,b,[60],[c],r⟩<|⟨.tSDE,b,[c],[c],r⟩)
 cases h0:(c==45)with
 |true=>
  obtain rfl:=eq_of_beq h0
  exact⟨_,false,(.cons h9 (.cons (by decide) (.cons (by decide) .nil))),λ_=>rfl,vy R M o t rb r b _ (.head _)⟩
 |false=>
  cases h1:(c==60)with
  |true=>
   obtain rfl:=eq_of_beq h1
   exact⟨_,false,(.cons h9 (.cons (by decide) (.cons (by decide) .nil))),λ_=>rfl,vz R M o t rb r b _ (.head _)⟩
  |false=>
   exact⟨_,false,(.cons h9 (.cons (by decide) (.cons (by decide) .nil))),λ_=>rfl,vA R M o t rb r b _ (JU _ hA.hd h0 h1)⟩
theorem BO (hn:dQ o) (hw:WF .bG b) (hA:Al (c::r)) (hb :∀x,b=some x->Al x/\x.length<=400000) (hl:r.length<=400000):bV R M o t .bG b rb c r (iC .bG b c r):=by
 have h9:=df b
 show bV R M o t .bG b rb c r (cond (c==45) ⟨.bG,b,[45],[c],r⟩<|cond (c==60) ⟨.bB,b,[60],[c],r⟩<|cond (c==62) ⟨.tS,b,[62],[c],r⟩<|⟨.tSDE,b,[c],[c],r⟩)
 cases h0:(c==45)with
 |true=>
  obtain rfl:=eq_of_beq h0
  exact⟨_,false,(.cons (by decide) (.cons (by decide) .nil)),λ_=>rfl,tn R M o t rb r b _ (.head _)⟩
 |false=>
  cases h1:(c==60)with
  |true=>
   obtain rfl:=eq_of_beq h1
   exact⟨_,false,(.cons h9 (.cons (by decide) (.cons (by decide) .nil))),λ_=>rfl,tD R M o t rb r b _ (.head _)⟩
  |false=>
   cases h2:(c==62)with
   |true=>
    obtain rfl:=eq_of_beq h2
    exact⟨_,false,(.cons h9 (.cons (by decide) (.cons (by decide) .nil))),λ_=>rfl,tp R M o t rb r b _ (.head _)⟩
   |false=>
    exact⟨_,false,(.cons h9 (.cons (by decide) (.cons (by decide) .nil))),λ_=>rfl,tE R M o t rb r b _ (SR _ hA.hd h0 h1 h2)⟩
theorem BP (hn:dQ o) (hw:WF .bB b) (hA:Al (c::r)) (hb :∀x,b=some x->Al x/\x.length<=400000) (hl:r.length<=400000):bV R M o t .bB b rb c r (iC .bB b c r):=by
 have h9:=df b
 show bV R M o t .bB b rb c r (cond (c==47) ⟨.tSDEE,(some []),[47],[c],r⟩<|⟨.tSDE,b,[],[],c::r⟩)
 cases h0:(c==47)with
 |true=>
  obtain rfl:=eq_of_beq h0
  exact⟨_,false,(.cons (by decide) (.cons h9 (.cons (by decide) (.cons (by decide) .nil)))),λ_=>rfl,tI R M o t rb r b _ (.head _)⟩
 |false=>
  exact⟨_,false,(.cons h9 .nil),λ_=>rfl,tH R M o t rb r b _ (SJ _ hA.hd h0)⟩
end
inductive Md where|S|E|D
noncomputable def kJ:Md->Bool|.S=>false|.E=>false|.D=>true
noncomputable def FF (l:List Nat):Bool:=match l with
 |e::_=>gG e
 |[]=>false
noncomputable def g7 (o:Option (List Nat)) (s:List Nat):Bool:=match o with
 |some nm=>aM (60::47::nm) s&&FF (s.drop (2+nm.length))
 |none=>false
noncomputable def tA (o:Option (List Nat)) (m:Md) (s:List Nat):Bool:=cond (kJ m) false (g7 o s)
noncomputable def tB (m:Md) (s:List Nat):Bool:=match m with
 |.S=>aM [60,33,45,45] s
 |.E=>aM [45,45,62] s
 |.D=>aM [45,45,62] s
noncomputable def tC (m:Md) (s:List Nat):Bool:=match m with
 |.S=>false
 |.E=>aM (60::eY) s&&FF (s.drop 7)
 |.D=>aM (60::47::eY) s&&FF (s.drop 8)
noncomputable def mdB:Md->Md|.S=>.E|.E=>.S|.D=>.S
noncomputable def kB:Md->Nat|.S=>1|.E=>2|.D=>2
noncomputable def OB:Md->Md|.S=>.S|.E=>.D|.D=>.E
noncomputable def kC:Md->Nat|.S=>0|.E=>7|.D=>8
noncomputable def sc (o:Option (List Nat)):Nat->Md->List Nat->List Nat×Bool
 |0,m,_=>([],kJ m)
 |_+1,m,[]=>([],kJ m)
 |n+1,m,d::s=>cond (tA o m (d::s)) (d::s,false) (cond (tB m (d::s)) (sc o n (mdB m) (s.drop (kB m))) (cond (tC m (d::s)) (sc o n (OB m) (s.drop (kC m))) (sc o n m s)))
theorem l0 (o:Option (List Nat)) :∀(n n':Nat) (m:Md) (l:List Nat),l.length<n->l.length<n'->sc o n m l=sc o n' m l
 |0,_,_,_,h,_=>absurd h (Nat.not_lt_zero _)
 |_,0,_,_,_,h=>absurd h (Nat.not_lt_zero _)
 |_+1,_+1,_,[],_,_=>rfl
 |n+1,n'+1,m,d::s,h,h'=>by
  have h:=Nat.lt_of_succ_lt_succ h
  have h':=Nat.lt_of_succ_lt_succ h'
  have dr (k:Nat):(s.drop k).length<=s.length:=by rw [List.length_drop];exact Nat.sub_le _ _
  show cond _ _ (cond _ _ (cond _ _ _))=cond _ _ (cond _ _ (cond _ _ _))
  rw [l0 o n n' m s h h',l0 o n n' _ (s.drop (kB m)) (Nat.lt_of_le_of_lt (dr _) h) (Nat.lt_of_le_of_lt (dr _) h'),l0 o n n' _ (s.drop (kC m)) (Nat.lt_of_le_of_lt (dr _) h) (Nat.lt_of_le_of_lt (dr _) h')]
noncomputable def SC (o:Option (List Nat)) (m:Md) (l:List Nat):List Nat×Bool:=sc o (l.length+1) m l
section
variable {o:Option (List Nat)} {m:Md} {d:Nat} {s:List Nat}
theorem bN (a:tA o m (d::s)=false) (b:tB m (d::s)=false) (c:tC m (d::s)=false):SC o m (d::s)=SC o m s:=by
 show cond _ _ (cond _ _ (cond _ _ _))=_
 rw [a,b,c]
 rfl
theorem zU (a:tA o m (d::s)=true):SC o m (d::s)=(d::s,false):=by
 show cond _ _ _=_
 rw [a]
 rfl
theorem rN (a:tA o m (d::s)=false) (b:tB m (d::s)=true):SC o m (d::s)=SC o (mdB m) (s.drop (kB m)):=by
 show cond _ _ (cond _ _ _)=_
 rw [a,b]
 exact l0 o _ _ _ _ (by rw [List.length_drop,List.length_cons];omega) (Nat.lt_succ_self _)
theorem wx (a:tA o m (d::s)=false) (b:tB m (d::s)=false) (c:tC m (d::s)=true):SC o m (d::s)=SC o (OB m) (s.drop (kC m)):=by
 show cond _ _ (cond _ _ (cond _ _ _))=_
 rw [a,b,c]
 exact l0 o _ _ _ _ (by rw [List.length_drop,List.length_cons];omega) (Nat.lt_succ_self _)
theorem bO {a:Nat} {w:List Nat} (h:d≠a):aM (a::w) (d::s)=false:=by
 show(Nat.beq a d&&_)=false
 rw [BT.beq_eq,decide_eq_false λz=>h z.symm]
 rfl
theorem dA {a:Nat} {w:List Nat}:aM (a::w) (a::s)=aM w s:=by
 show(Nat.beq a a&&_)=_
 rw [Nat.beq_refl]
 rfl
theorem mA (h:d≠60):g7 o (d::s)=false:=by
 cases o with
 |none=>rfl
 |some nm=>show(aM _ _&&_)=false;rw [bO h];rfl
theorem gp (h:d≠47):g7 o (60::d::s)=false:=by
 cases o with
 |none=>rfl
 |some nm=>show(aM _ _&&_)=false;rw [dA,bO h];rfl
theorem Lb:g7 o [60]=false:=by cases o<;>rfl
theorem eL (h:g7 o (d::s)=false):tA o m (d::s)=false:=by
 unfold tA
 rw [h]
 cases kJ m<;>rfl
theorem sk (h:d≠60) (h':d≠45\/m=.S):SC o m (d::s)=SC o m s:=by
 have h2:tC m (d::s)=false:=by cases m<;>first|rfl|(show(aM _ _&&_)=false;rw [bO h];rfl)
 refine bN (eL (mA h)) ?_ h2
 rcases h' with h'|rfl
 ·cases m with
  |S=>exact bO h
  |E=>exact bO h'
  |D=>exact bO h'
 ·exact bO h
theorem ZK {x:List Nat} (h :∀c∈x,c≠60/\(c≠45\/m=.S)):SC o m (x++s)=SC o m s:=by
 induction x with
 |nil=>rfl
 |cons a x ih=>exact(sk (h a (.head _)).1 (h a (.head _)).2).trans (ih λc mm=>h c (.tail _ mm))
theorem iB (hm:m=.S\/aM [45,62] s=false):SC o m (45::s)=SC o m s:=by
 rcases hm with rfl|hm
 ·exact sk (by decide) (.inr rfl)
 ·refine bN (eL (mA (by decide))) ?_ (by cases m<;>first|rfl|(show(aM _ _&&_)=false;rw [bO (by decide)];rfl))
  cases m with
  |S=>exact bO (by decide)
  |E=>exact dA.trans hm
  |D=>exact dA.trans hm
end
theorem AP (c:Nat) (h:gG c=true):dP c=false:=by
 unfold gG at h
 rw [Bool.or_eq_true,Bool.or_eq_true,Bool.or_eq_true]at h
 rcases h with((h|h)|h)|h<;>(rw [eq_of_beq h];rfl)
theorem LS :∀(w x:List Nat) {c:Nat} {r:List Nat},(∀a∈w,dP a=true)->(∀a∈x,dP a=true)->dP c=false->(aM w (x++c::r)&&FF ((x++c::r).drop w.length))=(bQ x w&&gG c)
 |[],[],_,_,_,_,_=>rfl
 |[],a::x,c,r,_,hx,_=>by
  show gG a=false
  have:=hx a (.head _)
  cases h:gG a with
  |false=>rfl
  |true=>exact absurd (this.symm.trans (AP a h)) (by decide)
 |d::w,[],c,r,hw,_,hc=>by
  show(aM (d::w) (c::r)&&_)=false
  rw [bO λz:c=d=>absurd (hc.symm.trans (z▸hw d (.head _))) (by decide)]
  rfl
 |d::w,a::x,c,r,hw,hx,hc=>by
  have ih:=LS w x (c:=c) (r:=r) (λa m=>hw a (.tail _ m)) (λa m=>hx a (.tail _ m)) hc
  show(aM (d::w) (a::(x++c::r))&&_)=_
  show((Nat.beq d a&&aM w (x++c::r))&&FF ((x++c::r).drop w.length))=((Nat.beq a d&&bQ x w)&&gG c)
  rw [Bool.and_assoc,ih,Bool.and_assoc,BT.beq_eq,BT.beq_eq,show decide (d=a)=decide (a=d)from decide_eq_decide.mpr ⟨Eq.symm,Eq.symm⟩]
theorem Xn :∀(w x:List Nat),(∀a∈x,dP a=true)->(aM w x&&FF (x.drop w.length))=false
 |[],[],_=>rfl
 |[],a::x,hx=>by
  show gG a=false
  cases h:gG a with
  |false=>rfl
  |true=>exact absurd ((hx a (.head _)).symm.trans (AP a h)) (by decide)
 |_::_,[],_=>rfl
 |d::w,a::x,hx=>by
  have ih:=Xn w x λa m=>hx a (.tail _ m)
  show((Nat.beq d a&&aM w x)&&FF (x.drop w.length))=false
  rw [Bool.and_assoc,ih,Bool.and_false]
structure mu (o:Option (List Nat)):Prop where
 ne :∀nm,o=some nm->nm≠[]
 le :∀nm,o=some nm->∀c∈nm,dP c=true
noncomputable def wC (o:Option (List Nat)) (x:List Nat):Bool:=match o with
 |some nm=>bQ x nm
 |none=>false
theorem uk {o:Option (List Nat)} {x:List Nat} {c:Nat} {r:List Nat} (hn:mu o) (hx :∀a∈x,dP a=true) (hc:dP c=false):g7 o (60::47::(x++c::r))=(wC o x&&gG c):=by
 cases o with
 |none=>rfl
 |some nm=>
  show(aM (60::47::nm) (60::47::(x++c::r))&&FF ((60::47::(x++c::r)).drop (2+nm.length)))=_
  rw [dA,dA,Nat.add_comm]
  exact LS nm x (hn.le nm rfl) hx hc
theorem yl {o:Option (List Nat)} {x:List Nat} (hx :∀a∈x,dP a=true):g7 o (60::47::x)=false:=by
 cases o with
 |none=>rfl
 |some nm=>
  show(aM (60::47::nm) (60::47::x)&&FF ((60::47::x).drop (2+nm.length)))=_
  rw [dA,dA,Nat.add_comm]
  exact Xn nm x hx
theorem P4 {x:List Nat} {c:Nat} {r:List Nat} (hx :∀a∈x,dP a=true) (hc:dP c=false):tC .E (60::(x++c::r))=(bQ x eY&&gG c):=by
 show(aM (60::eY) (60::(x++c::r))&&FF ((x++c::r).drop eY.length))=_
 rw [dA]
 exact LS eY x (by decide) hx hc
theorem W9 {x:List Nat} {c:Nat} {r:List Nat} (hx :∀a∈x,dP a=true) (hc:dP c=false):tC .D (60::47::(x++c::r))=(bQ x eY&&gG c):=by
 show(aM (60::47::eY) (60::47::(x++c::r))&&FF ((x++c::r).drop eY.length))=_
 rw [dA,dA]
 exact LS eY x (by decide) hx hc
theorem ZO {x:List Nat} (hx :∀a∈x,dP a=true):tC .E (60::x)=false:=by
 show(aM (60::eY) (60::x)&&FF (x.drop eY.length))=_
 rw [dA]
 exact Xn eY x hx
theorem ZN {x:List Nat} (hx :∀a∈x,dP a=true):tC .D (60::47::x)=false:=by
 show(aM (60::47::eY) (60::47::x)&&FF (x.drop eY.length))=_
 rw [dA,dA]
 exact Xn eY x hx
theorem zC {s:List Nat}:tC .E (60::47::s)=false:=by
 show(aM (60::eY) (60::47::s)&&FF ((47::s).drop 6))=false
 rw [dA,show aM eY (47::s)=false from bO (by decide)]
 rfl
theorem PV {o:Option (List Nat)} {m:Md} {x s:List Nat} (hx :∀a∈x,dP a=true):SC o m (x++s)=SC o m s:=ZK λc mm=>by
 have:=hx c mm
 exact⟨λz=>absurd (z▸this) (by decide),.inl λz=>absurd (z▸this) (by decide)⟩
noncomputable abbrev sm (l:List Nat):List Nat:=l.map eD
noncomputable def pend (f:Fn) (b:Option (List Nat)):List Nat:=match f with
 |.tSLt=>[60]
 |.tSELt=>[60]
 |.tSEO=>[60,47]
 |.tSEEO=>[60,47]
 |.tSEN=>60::47::b.getD []
 |.tSEEN=>60::47::b.getD []
 |_=>[]
noncomputable def ov (f:Fn) (b:Option (List Nat)):List Nat:=match f with
 |.tSLt=>[60]
 |.tSELt=>[60]
 |.bB=>[60]
 |.tSEO=>[60,47]
 |.tSEEO=>[60,47]
 |.tSEN=>60::47::b.getD []
 |.tSEEN=>60::47::b.getD []
 |.tSDEE=>60::47::b.getD []
 |.tSES=>[60,33]
 |.tSESD=>[60,33,45]
 |.tSED=>[45]
 |.tSDED=>[45]
 |.tSEDD=>[45,45]
 |.bG=>[45,45]
 |.tSDES=>60::b.getD []
 |_=>[]
noncomputable def md (f:Fn):Md:=match f with
 |.tS=>.S
 |.tSLt=>.S
 |.tSEO=>.S
 |.tSEN=>.S
 |.tSES=>.S
 |.tSESD=>.S
 |.tSDE=>.D
 |.tSDED=>.D
 |.bG=>.D
 |.bB=>.D
 |.tSDEE=>.D
 |_=>.E
noncomputable def wt (f:Fn):Nat:=match f with
 |.tS=>0
 |.tSE=>0
 |.tSED=>0
 |.tSEDD=>0
 |.tSDE=>0
 |.tSDED=>0
 |.bG=>0
 |_=>1
noncomputable def LT (b:Option (List Nat)):Prop:=∀a∈b.getD [],dP a=true/\a∈alpha
noncomputable def NE (f:Fn) (b:Option (List Nat)):Prop:=f=.tSDES->b≠some []
structure PS (o:Option (List Nat)) (f:Fn) (b:Option (List Nat)) (c:Nat) (r:List Nat) (s:Yq):Prop where
 wf:WF s.f s.b
 ne:NE s.f s.b
 kr:c::r=s.k++s.r
 pe:pend f b++s.k=s.p++pend s.f s.b
 pz:s.p≠[]->pend s.f s.b=[]
 me:2 * s.r.length+wt s.f<2 * (r.length+1)+wt f
 lt:LT s.b
 bl:(s.b.getD []).length<=(b.getD []).length+s.k.length
 sc:SC o (md f) (sm (ov f b++c::r))=SC o (md s.f) (sm (ov s.f s.b++s.r))
theorem sP :∀c∈alpha,(c==60)=false->eD c≠60:=by decide
theorem mX :∀c∈alpha,(c==45)=false->eD c≠45:=by decide
theorem Oh :∀c∈alpha,(c==47)=false->eD c≠47:=by decide
theorem Y9 :∀c∈alpha,(c==33)=false->eD c≠33:=by decide
theorem SA :∀c∈alpha,(c==62)=false->eD c≠62:=by decide
theorem EF :∀c∈alpha,dP (eD c)=dP c:=by decide
theorem JJ :∀c∈alpha,gG (eD c)=gG c:=by decide
theorem Yc :∀c∈alpha,gG c=true->eD c≠60/\eD c≠45:=by decide
theorem om {x:List Nat} (h :∀a∈x,dP a=true/\a∈alpha) :∀a∈sm x,dP a=true:=λa m=>by
 obtain⟨y,my,rfl⟩:=List.mem_map.mp m
 rw [EF y (h y my).2]
 exact(h y my).1
theorem tT {p:Nat->Bool} :∀{l:List Nat} {a:Nat},a∈l.takeWhile p->p a=true/\a∈l
 |c::l,a,m=>by
  rw [List.takeWhile_cons]at m
  cases h:p c with
  |false=>rw [h]at m;exact nomatch m
  |true=>
   rw [h]at m
   rcases List.mem_cons.mp m with rfl|m
   ·exact⟨h,.head _⟩
   ·exact⟨(tT m).1,.tail _ (tT m).2⟩
theorem HR {o:Option (List Nat)} (h:mu o):wC o []=false:=by
 cases o with
 |none=>rfl
 |some nm=>cases nm with
  |nil=>exact absurd rfl (h.ne _ rfl)
  |cons=>rfl
theorem cl3 {o:Option (List Nat)} (h:mu o) {d:Nat} {s:List Nat} (hd:dP d=false):g7 o (60::47::d::s)=false:=(uk (x:=[]) h (λ_ m=>nomatch m) hd).trans (by rw [HR h];rfl)
theorem Kx {o:Option (List Nat)} {m:Md} {x:List Nat} (hx :∀a∈x,dP a=true):SC o m x=SC o m []:=(congrArg (SC o m) (List.append_nil x).symm).trans (PV hx)
theorem LT.snoc {x:List Nat} {c:Nat} (h:LT (some x)) (hl:dP c=true) (hc:c∈alpha):LT (some (x++[c])):=λa m=>(List.mem_append.mp m).elim (h a) λm=>by cases List.mem_singleton.mp m;exact⟨hl,hc⟩
theorem LT.one {c:Nat} (hl:dP c=true) (hc:c∈alpha):LT (some [c]):=λa m=>by cases List.mem_singleton.mp m;exact⟨hl,hc⟩
theorem LT.emp:LT (some []):=λ_ m=>nomatch m
theorem PZ {w x:List Nat} {c:Nat} {r:List Nat}:sm ((w++x)++c::r)=sm w++(sm x++eD c::sm r):=by rw [List.append_assoc];exact List.map_append.trans (congrArg (sm w++·) List.map_append)
section
variable {o:Option (List Nat)} {b:Option (List Nat)} {c:Nat} {r:List Nat}
theorem YF {x:List Nat} {d:Nat} {s:List Nat} (h0:x≠[]) (hb :∀a∈x,dP a=true/\a∈alpha):g7 o (60::(sm x++d::s))=false:=by
 cases x with
 |nil=>exact absurd rfl h0
 |cons a x=>exact gp λz=>absurd (z▸om hb (eD a) (.head _)) (by decide)
theorem Yn (hn:mu o) (hw:WF .tS b) (hA:Al (c::r)) (hb:LT b):PS o .tS b c r (iC .tS b c r):=by
 show PS o .tS b c r (cond (c==60) ⟨.tSLt,b,[],[c],r⟩<|⟨.tS,b,c::r.takeWhile sT,c::r.takeWhile sT,r.dropWhile sT⟩)
 cases h0:(c==60)with
 |true=>
  obtain rfl:=eq_of_beq h0
  exact⟨trivial,(λz=>nomatch z),rfl,rfl,(λh=>absurd rfl h),((show 2 * r.length+1<2 * (r.length+1)+0 by lia)),hb,(Nat.le_add_right _ _),rfl⟩
 |false=>
  exact⟨trivial,(λz=>nomatch z),(congrArg (c::·) List.takeWhile_append_dropWhile.symm),((List.append_nil _).symm),(λ_=>rfl),(by show 2 * (r.dropWhile sT).length+0<2 * (r.length+1)+0;have:=congrArg List.length (List.takeWhile_append_dropWhile (p:=sT) (l:=r));rw [List.length_append]at this;lia),hb,(Nat.le_add_right _ _),by
   have e:sm (c::r)=sm (c::r.takeWhile sT)++sm (r.dropWhile sT):=by
    rw [<-List.map_append,List.cons_append,List.takeWhile_append_dropWhile]
   refine(congrArg (SC o .S) e).trans (ZK λd mm=>?_)
   obtain⟨a,ma,rfl⟩:=List.mem_map.mp mm
   rcases List.mem_cons.mp ma with rfl|ma
   ·exact⟨sP _ hA.hd h0,.inr rfl⟩
   ·have:=tT ma
    exact⟨sP _ (hA.tl _ this.2) (Bool.not_eq_true' _▸this.1),.inr rfl⟩⟩
theorem MC (hn:mu o) (hw:WF .tSLt b) (hA:Al (c::r)) (hb:LT b):PS o .tSLt b c r (iC .tSLt b c r):=by
 show PS o .tSLt b c r (cond (c==47) ⟨.tSEO,(some []),[],[c],r⟩<|cond (c==33) ⟨.tSES,b,[60,33],[c],r⟩<|⟨.tS,b,[60],[],c::r⟩)
 cases h0:(c==47)with
 |true=>
  obtain rfl:=eq_of_beq h0
  exact⟨rfl,(λz=>nomatch z),rfl,rfl,(λh=>absurd rfl h),((show 2 * r.length+1<2 * (r.length+1)+1 by lia)),LT.emp,(Nat.zero_le _),rfl⟩
 |false=>
  cases h1:(c==33)with
  |true=>
   obtain rfl:=eq_of_beq h1
   exact⟨trivial,(λz=>nomatch z),rfl,rfl,(λ_=>rfl),((show 2 * r.length+1<2 * (r.length+1)+1 by lia)),hb,(Nat.le_add_right _ _),rfl⟩
  |false=>
   exact⟨trivial,(λz=>nomatch z),rfl,rfl,(λ_=>rfl),((show 2 * (r.length+1)+0<2 * (r.length+1)+1 by lia)),hb,(Nat.le_add_right _ _),bN (m:=.S) (eL (gp (Oh c hA.hd h0))) (dA.trans (bO (Y9 c hA.hd h1))) rfl⟩
theorem MA (hn:mu o) (hw:WF .tSEO b) (hA:Al (c::r)) (hb:LT b):PS o .tSEO b c r (iC .tSEO b c r):=by
 obtain rfl:b=some []:=hw
 show PS o .tSEO (some []) c r (cond (dP c) ⟨.tSEN,(some [c]),[],[c],r⟩<|⟨.tS,(some []),[60,47],[],c::r⟩)
 cases h0:(dP c)with
 |true=>
  exact⟨(⟨_,rfl⟩),(λz=>nomatch z),rfl,rfl,(λh=>absurd rfl h),((show 2 * r.length+1<2 * (r.length+1)+1 by lia)),(LT.one h0 hA.hd),(Nat.le_add_left _ _),rfl⟩
 |false=>
  exact⟨trivial,(λz=>nomatch z),rfl,rfl,(λ_=>rfl),((show 2 * (r.length+1)+0<2 * (r.length+1)+1 by lia)),hb,(Nat.le_add_right _ _),(bN (m:=.S) (eL (cl3 hn ((EF c hA.hd).trans h0))) (dA.trans (bO (by decide))) rfl).trans (sk (m:=.S) (by decide) (.inr rfl))⟩
theorem Mz (hn:mu o) (hw:WF .tSEN b) (hA:Al (c::r)) (hb:LT b) (hf:(wC o (sm (b.getD []))&&gG (eD c))=false):PS o .tSEN b c r (iC .tSEN b c r):=by
 obtain⟨x,rfl⟩ :∃x,b=some x:=hw
 have hf:(wC o (sm x)&&gG (eD c))=false:=hf
 have hb :∀a∈x,dP a=true/\a∈alpha:=hb
 show PS o .tSEN (some x) c r (cond (dP c) ⟨.tSEN,(some (x++[c])),[],[c],r⟩<|⟨.tS,(some x),(60::47::x),[],c::r⟩)
 cases h0:(dP c)with
 |true=>
  exact⟨(⟨_,rfl⟩),(λz=>nomatch z),rfl,rfl,(λh=>absurd rfl h),((show 2 * r.length+1<2 * (r.length+1)+1 by lia)),(LT.snoc hb h0 hA.hd),(Nat.le_of_eq List.length_append),congrArg (λl=>SC o .S (sm (60::47::l))) (List.append_cons x c r)⟩
 |false=>
  exact⟨trivial,(λz=>nomatch z),rfl,rfl,(λ_=>rfl),((show 2 * (r.length+1)+0<2 * (r.length+1)+1 by lia)),hb,(Nat.le_add_right _ _),(congrArg (SC o .S) (PZ (w:=[60,47]))).trans ((bN (m:=.S) (eL ((uk hn (om hb) ((EF c hA.hd).trans h0)).trans hf)) (dA.trans (bO (by decide))) rfl).trans ((sk (m:=.S) (by decide) (.inr rfl)).trans (PV (om hb))))⟩
theorem MB (hn:mu o) (hw:WF .tSES b) (hA:Al (c::r)) (hb:LT b):PS o .tSES b c r (iC .tSES b c r):=by
 show PS o .tSES b c r (cond (c==45) ⟨.tSESD,b,[45],[c],r⟩<|⟨.tS,b,[],[],c::r⟩)
 cases h0:(c==45)with
 |true=>
  obtain rfl:=eq_of_beq h0
  exact⟨trivial,(λz=>nomatch z),rfl,rfl,(λ_=>rfl),((show 2 * r.length+1<2 * (r.length+1)+1 by lia)),hb,(Nat.le_add_right _ _),rfl⟩
 |false=>
  exact⟨trivial,(λz=>nomatch z),rfl,rfl,(λh=>absurd rfl h),((show 2 * (r.length+1)+0<2 * (r.length+1)+1 by lia)),hb,(Nat.le_add_right _ _),(bN (m:=.S) (eL (gp (by decide))) (dA.trans (dA.trans (bO (mX c hA.hd h0)))) rfl).trans (sk (m:=.S) (by decide) (.inr rfl))⟩
theorem HJ (hn:mu o) (hw:WF .tSESD b) (hA:Al (c::r)) (hb:LT b):PS o .tSESD b c r (iC .tSESD b c r):=by
 show PS o .tSESD b c r (cond (c==45) ⟨.tSEDD,b,[45],[c],r⟩<|⟨.tS,b,[],[],c::r⟩)
 cases h0:(c==45)with
 |true=>
  obtain rfl:=eq_of_beq h0
  exact⟨trivial,(λz=>nomatch z),rfl,rfl,(λ_=>rfl),((show 2 * r.length+0<2 * (r.length+1)+1 by lia)),hb,(Nat.le_add_right _ _),rN (m:=.S) (eL (gp (by decide))) rfl⟩
 |false=>
  exact⟨trivial,(λz=>nomatch z),rfl,rfl,(λh=>absurd rfl h),((show 2 * (r.length+1)+0<2 * (r.length+1)+1 by lia)),hb,(Nat.le_add_right _ _),(bN (m:=.S) (eL (gp (by decide))) (dA.trans (dA.trans (dA.trans (bO (mX c hA.hd h0))))) rfl).trans ((sk (m:=.S) (by decide) (.inr rfl)).trans (iB (m:=.S) (.inl rfl)))⟩
theorem QS (hn:mu o) (hw:WF .tSE b) (hA:Al (c::r)) (hb:LT b):PS o .tSE b c r (iC .tSE b c r):=by
 show PS o .tSE b c r (cond (c==45) ⟨.tSED,b,[45],[c],r⟩<|cond (c==60) ⟨.tSELt,b,[],[c],r⟩<|⟨.tSE,b,c::r.takeWhile jA,c::r.takeWhile jA,r.dropWhile jA⟩)
 cases h0:(c==45)with
 |true=>
  obtain rfl:=eq_of_beq h0
  exact⟨trivial,(λz=>nomatch z),rfl,rfl,(λ_=>rfl),((show 2 * r.length+0<2 * (r.length+1)+0 by lia)),hb,(Nat.le_add_right _ _),rfl⟩
 |false=>
  cases h1:(c==60)with
  |true=>
   obtain rfl:=eq_of_beq h1
   exact⟨trivial,(λz=>nomatch z),rfl,rfl,(λh=>absurd rfl h),((show 2 * r.length+1<2 * (r.length+1)+0 by lia)),hb,(Nat.le_add_right _ _),rfl⟩
  |false=>
   exact⟨trivial,(λz=>nomatch z),(congrArg (c::·) List.takeWhile_append_dropWhile.symm),((List.append_nil _).symm),(λ_=>rfl),(by show 2 * (r.dropWhile jA).length+0<2 * (r.length+1)+0;have:=congrArg List.length (List.takeWhile_append_dropWhile (p:=jA) (l:=r));rw [List.length_append]at this;lia),hb,(Nat.le_add_right _ _),by
    have e:sm (c::r)=sm (c::r.takeWhile jA)++sm (r.dropWhile jA):=by
     rw [<-List.map_append,List.cons_append,List.takeWhile_append_dropWhile]
    refine(congrArg (SC o .E) e).trans (ZK λd mm=>?_)
    obtain⟨a,ma,rfl⟩:=List.mem_map.mp mm
    rcases List.mem_cons.mp ma with rfl|ma
    ·exact⟨sP _ hA.hd h1,.inl (mX _ hA.hd h0)⟩
    ·have:=tT ma
     have h:=Bool.and_eq_true_iff.mp this.1
     exact⟨sP _ (hA.tl _ this.2) (Bool.not_eq_true' _▸h.1),.inl (mX _ (hA.tl _ this.2) (Bool.not_eq_true' _▸h.2))⟩⟩
theorem My (hn:mu o) (hw:WF .tSED b) (hA:Al (c::r)) (hb:LT b):PS o .tSED b c r (iC .tSED b c r):=by
 show PS o .tSED b c r (cond (c==45) ⟨.tSEDD,b,[45],[c],r⟩<|cond (c==60) ⟨.tSELt,b,[],[c],r⟩<|⟨.tSE,b,[c],[c],r⟩)
 cases h0:(c==45)with
 |true=>
  obtain rfl:=eq_of_beq h0
  exact⟨trivial,(λz=>nomatch z),rfl,rfl,(λ_=>rfl),((show 2 * r.length+0<2 * (r.length+1)+0 by lia)),hb,(Nat.le_add_right _ _),rfl⟩
 |false=>
  cases h1:(c==60)with
  |true=>
   obtain rfl:=eq_of_beq h1
   exact⟨trivial,(λz=>nomatch z),rfl,rfl,(λh=>absurd rfl h),((show 2 * r.length+1<2 * (r.length+1)+0 by lia)),hb,(Nat.le_add_right _ _),iB (m:=.E) (.inr (bO (by decide)))⟩
  |false=>
   exact⟨trivial,(λz=>nomatch z),rfl,rfl,(λ_=>rfl),((show 2 * r.length+0<2 * (r.length+1)+0 by lia)),hb,(Nat.le_add_right _ _),(iB (m:=.E) (.inr (bO (mX c hA.hd h0)))).trans (sk (m:=.E) (sP c hA.hd h1) (.inl (mX c hA.hd h0)))⟩
theorem HF (hn:mu o) (hw:WF .tSEDD b) (hA:Al (c::r)) (hb:LT b):PS o .tSEDD b c r (iC .tSEDD b c r):=by
 show PS o .tSEDD b c r (cond (c==45) ⟨.tSEDD,b,[45],[c],r⟩<|cond (c==60) ⟨.tSELt,b,[],[c],r⟩<|cond (c==62) ⟨.tS,b,[62],[c],r⟩<|⟨.tSE,b,[c],[c],r⟩)
 cases h0:(c==45)with
 |true=>
  obtain rfl:=eq_of_beq h0
  exact⟨trivial,(λz=>nomatch z),rfl,rfl,(λ_=>rfl),((show 2 * r.length+0<2 * (r.length+1)+0 by lia)),hb,(Nat.le_add_right _ _),iB (m:=.E) (.inr (dA.trans (bO (by decide))))⟩
 |false=>
  cases h1:(c==60)with
  |true=>
   obtain rfl:=eq_of_beq h1
   exact⟨trivial,(λz=>nomatch z),rfl,rfl,(λh=>absurd rfl h),((show 2 * r.length+1<2 * (r.length+1)+0 by lia)),hb,(Nat.le_add_right _ _),(iB (m:=.E) (.inr (dA.trans (bO (by decide))))).trans (iB (m:=.E) (.inr (bO (by decide))))⟩
  |false=>
   cases h2:(c==62)with
   |true=>
    obtain rfl:=eq_of_beq h2
    exact⟨trivial,(λz=>nomatch z),rfl,rfl,(λ_=>rfl),((show 2 * r.length+0<2 * (r.length+1)+0 by lia)),hb,(Nat.le_add_right _ _),rN (m:=.E) (eL (mA (by decide))) rfl⟩
   |false=>
    exact⟨trivial,(λz=>nomatch z),rfl,rfl,(λ_=>rfl),((show 2 * r.length+0<2 * (r.length+1)+0 by lia)),hb,(Nat.le_add_right _ _),(iB (m:=.E) (.inr (dA.trans (bO (SA c hA.hd h2))))).trans ((iB (m:=.E) (.inr (bO (mX c hA.hd h0)))).trans (sk (m:=.E) (sP c hA.hd h1) (.inl (mX c hA.hd h0))))⟩
theorem HI (hn:mu o) (hw:WF .tSELt b) (hA:Al (c::r)) (hb:LT b):PS o .tSELt b c r (iC .tSELt b c r):=by
 show PS o .tSELt b c r (cond (c==47) ⟨.tSEEO,(some []),[],[c],r⟩<|cond (dP c) ⟨.tSDES,(some [c]),[60,c],[c],r⟩<|⟨.tSE,b,[60],[],c::r⟩)
 cases h0:(c==47)with
 |true=>
  obtain rfl:=eq_of_beq h0
  exact⟨(⟨_,rfl⟩),(λz=>nomatch z),rfl,rfl,(λh=>absurd rfl h),((show 2 * r.length+1<2 * (r.length+1)+1 by lia)),LT.emp,(Nat.zero_le _),rfl⟩
 |false=>
  cases h1:(dP c)with
  |true=>
   exact⟨(⟨_,rfl⟩),(λ_ z=>nomatch z),rfl,rfl,(λ_=>rfl),((show 2 * r.length+1<2 * (r.length+1)+1 by lia)),(LT.one h1 hA.hd),(Nat.le_add_left _ _),rfl⟩
  |false=>
   exact⟨trivial,(λz=>nomatch z),rfl,rfl,(λ_=>rfl),((show 2 * (r.length+1)+0<2 * (r.length+1)+1 by lia)),hb,(Nat.le_add_right _ _),bN (m:=.E) (eL (gp (Oh c hA.hd h0))) (bO (by decide)) ((P4 (x:=[]) (λ_ m=>nomatch m) ((EF c hA.hd).trans h1)).trans rfl)⟩
theorem HH (hn:mu o) (hw:WF .tSEEO b) (hA:Al (c::r)) (hb:LT b):PS o .tSEEO b c r (iC .tSEEO b c r):=by
 obtain⟨x,rfl⟩ :∃x,b=some x:=hw
 have hb :∀a∈x,dP a=true/\a∈alpha:=hb
 show PS o .tSEEO (some x) c r (cond (dP c) ⟨.tSEEN,(some [c]),[],[c],r⟩<|⟨.tSE,(some x),[60,47],[],c::r⟩)
 cases h0:(dP c)with
 |true=>
  exact⟨(⟨_,rfl⟩),(λz=>nomatch z),rfl,rfl,(λh=>absurd rfl h),((show 2 * r.length+1<2 * (r.length+1)+1 by lia)),(LT.one h0 hA.hd),(Nat.le_add_left _ _),rfl⟩
 |false=>
  exact⟨trivial,(λz=>nomatch z),rfl,rfl,(λ_=>rfl),((show 2 * (r.length+1)+0<2 * (r.length+1)+1 by lia)),hb,(Nat.le_add_right _ _),(bN (m:=.E) (eL (cl3 hn ((EF c hA.hd).trans h0))) (bO (by decide)) zC).trans (sk (m:=.E) (by decide) (.inl (by decide)))⟩
theorem HG (hn:mu o) (hw:WF .tSEEN b) (hA:Al (c::r)) (hb:LT b) (hf:(wC o (sm (b.getD []))&&gG (eD c))=false):PS o .tSEEN b c r (iC .tSEEN b c r):=by
 obtain⟨x,rfl⟩ :∃x,b=some x:=hw
 have hf:(wC o (sm x)&&gG (eD c))=false:=hf
 have hb :∀a∈x,dP a=true/\a∈alpha:=hb
 show PS o .tSEEN (some x) c r (cond (dP c) ⟨.tSEEN,(some (x++[c])),[],[c],r⟩<|⟨.tSE,(some x),(60::47::x),[],c::r⟩)
 cases h0:(dP c)with
 |true=>
  exact⟨(⟨_,rfl⟩),(λz=>nomatch z),rfl,rfl,(λh=>absurd rfl h),((show 2 * r.length+1<2 * (r.length+1)+1 by lia)),(LT.snoc hb h0 hA.hd),(Nat.le_of_eq List.length_append),congrArg (λl=>SC o .E (sm (60::47::l))) (List.append_cons x c r)⟩
 |false=>
  exact⟨trivial,(λz=>nomatch z),rfl,rfl,(λ_=>rfl),((show 2 * (r.length+1)+0<2 * (r.length+1)+1 by lia)),hb,(Nat.le_add_right _ _),(congrArg (SC o .E) (PZ (w:=[60,47]))).trans ((bN (m:=.E) (eL ((uk hn (om hb) ((EF c hA.hd).trans h0)).trans hf)) (bO (by decide)) zC).trans ((sk (m:=.E) (by decide) (.inl (by decide))).trans (PV (om hb))))⟩
theorem HE (hn:mu o) (hw:WF .tSDES b) (hA:Al (c::r)) (hb:LT b) (hx:NE .tSDES b):PS o .tSDES b c r (iC .tSDES b c r):=by
 obtain⟨x,rfl⟩ :∃x,b=some x:=hw
 have hx0:x≠[]:=λz=>hx rfl (z▸rfl)
 have hb :∀a∈x,dP a=true/\a∈alpha:=hb
 show PS o .tSDES (some x) c r (cond (gG c) ⟨(cond (bQ (aX (x)) eY) .tSDE .tSE),(some x),[c],[c],r⟩<|cond (dP c) ⟨.tSDES,(some (x++[c])),[c],[c],r⟩<|⟨.tSE,(some x),[],[],c::r⟩)
 cases h0:(gG c)with
 |true=>
  exact⟨(by cases bQ (aX x) eY<;>trivial),(by cases bQ (aX x) eY<;>exact λz=>nomatch z),rfl,(by cases bQ (aX x) eY<;>rfl),(λ_=>by cases bQ (aX x) eY<;>rfl),(by cases bQ (aX x) eY<;>(show 2 * r.length+0<2 * (r.length+1)+1)<;>lia),hb,(Nat.le_add_right _ _),by
   have e:=congrArg (SC o .E) (PZ (w:=[60]) (x:=x) (c:=c) (r:=r))
   have hL:=iI x λa m=>(hb a m).2
   have t:=P4 (r:=sm r) (om hb) (AP _ ((JJ c hA.hd).trans h0))
   rw [JJ c hA.hd,h0,Bool.and_true]at t
   rw [show aX x=sm x from hL]
   cases hq:bQ (sm x) eY with
   |true=>
    rw [hq]at t
    rw [fC]at hq
    refine e.trans ((wx (m:=.E) (eL (YF hx0 hb)) (bO (by decide)) t).trans ?_)
    rw [eq_of_beq hq]
    rfl
   |false=>
    rw [hq]at t
    exact e.trans ((bN (m:=.E) (eL (YF hx0 hb)) (bO (by decide)) t).trans ((PV (om hb)).trans (sk (m:=.E) (Yc c hA.hd h0).1 (.inl (Yc c hA.hd h0).2))))⟩
 |false=>
  cases h1:(dP c)with
  |true=>
   exact⟨(⟨_,rfl⟩),(λ_ z=>absurd (List.append_eq_nil_iff.mp (Option.some.inj z)).2 (λy=>nomatch y)),rfl,rfl,(λ_=>rfl),((show 2 * r.length+1<2 * (r.length+1)+1 by lia)),(LT.snoc hb h1 hA.hd),(Nat.le_of_eq List.length_append),congrArg (λl=>SC o .E (sm (60::l))) (List.append_cons x c r)⟩
  |false=>
   exact⟨trivial,(λz=>nomatch z),rfl,rfl,(λh=>absurd rfl h),((show 2 * (r.length+1)+0<2 * (r.length+1)+1 by lia)),hb,(Nat.le_add_right _ _),by
    have t:=P4 (r:=sm r) (om hb) ((EF c hA.hd).trans h1)
    rw [JJ c hA.hd,h0,Bool.and_false]at t
    exact(congrArg (SC o .E) (PZ (w:=[60]) (x:=x) (c:=c) (r:=r))).trans ((bN (m:=.E) (eL (YF hx0 hb)) (bO (by decide)) t).trans (PV (om hb)))⟩
theorem HD (hn:mu o) (hw:WF .tSDEE b) (hA:Al (c::r)) (hb:LT b):PS o .tSDEE b c r (iC .tSDEE b c r):=by
 obtain⟨x,rfl⟩ :∃x,b=some x:=hw
 have hb :∀a∈x,dP a=true/\a∈alpha:=hb
 show PS o .tSDEE (some x) c r (cond (gG c) ⟨(cond (bQ (aX (x)) eY) .tSE .tSDE),(some x),[c],[c],r⟩<|cond (dP c) ⟨.tSDEE,(some (x++[c])),[c],[c],r⟩<|⟨.tSDE,(some x),[],[],c::r⟩)
 cases h0:(gG c)with
 |true=>
  exact⟨(by cases bQ (aX x) eY<;>trivial),(by cases bQ (aX x) eY<;>exact λz=>nomatch z),rfl,(by cases bQ (aX x) eY<;>rfl),(λ_=>by cases bQ (aX x) eY<;>rfl),(by cases bQ (aX x) eY<;>(show 2 * r.length+0<2 * (r.length+1)+1)<;>lia),hb,(Nat.le_add_right _ _),by
   have e:=congrArg (SC o .D) (PZ (w:=[60,47]) (x:=x) (c:=c) (r:=r))
   have hL:=iI x λa m=>(hb a m).2
   have t:=W9 (r:=sm r) (om hb) (AP _ ((JJ c hA.hd).trans h0))
   rw [JJ c hA.hd,h0,Bool.and_true]at t
   rw [show aX x=sm x from hL]
   cases hq:bQ (sm x) eY with
   |true=>
    rw [hq]at t
    rw [fC]at hq
    refine e.trans ((wx (m:=.D) rfl (bO (by decide)) t).trans ?_)
    rw [eq_of_beq hq]
    rfl
   |false=>
    rw [hq]at t
    exact e.trans ((bN (m:=.D) rfl (bO (by decide)) t).trans ((sk (m:=.D) (by decide) (.inl (by decide))).trans ((PV (om hb)).trans (sk (m:=.D) (Yc c hA.hd h0).1 (.inl (Yc c hA.hd h0).2)))))⟩
 |false=>
  cases h1:(dP c)with
  |true=>
   exact⟨(⟨_,rfl⟩),(λz=>nomatch z),rfl,rfl,(λ_=>rfl),((show 2 * r.length+1<2 * (r.length+1)+1 by lia)),(LT.snoc hb h1 hA.hd),(Nat.le_of_eq List.length_append),congrArg (λl=>SC o .D (sm (60::47::l))) (List.append_cons x c r)⟩
  |false=>
   exact⟨trivial,(λz=>nomatch z),rfl,rfl,(λh=>absurd rfl h),((show 2 * (r.length+1)+0<2 * (r.length+1)+1 by lia)),hb,(Nat.le_add_right _ _),by
    have t:=W9 (r:=sm r) (om hb) ((EF c hA.hd).trans h1)
    rw [JJ c hA.hd,h0,Bool.and_false]at t
    exact(congrArg (SC o .D) (PZ (w:=[60,47]) (x:=x) (c:=c) (r:=r))).trans ((bN (m:=.D) rfl (bO (by decide)) t).trans ((sk (m:=.D) (by decide) (.inl (by decide))).trans<|PV (om hb)))⟩
theorem Mx (hn:mu o) (hw:WF .tSDE b) (hA:Al (c::r)) (hb:LT b):PS o .tSDE b c r (iC .tSDE b c r):=by
 show PS o .tSDE b c r (cond (c==45) ⟨.tSDED,b,[45],[c],r⟩<|cond (c==60) ⟨.bB,b,[60],[c],r⟩<|⟨.tSDE,b,[c],[c],r⟩)
 cases h0:(c==45)with
 |true=>
  obtain rfl:=eq_of_beq h0
  exact⟨trivial,(λz=>nomatch z),rfl,rfl,(λ_=>rfl),((show 2 * r.length+0<2 * (r.length+1)+0 by lia)),hb,(Nat.le_add_right _ _),rfl⟩
 |false=>
  cases h1:(c==60)with
  |true=>
   obtain rfl:=eq_of_beq h1
   exact⟨trivial,(λz=>nomatch z),rfl,rfl,(λ_=>rfl),((show 2 * r.length+1<2 * (r.length+1)+0 by lia)),hb,(Nat.le_add_right _ _),rfl⟩
  |false=>
   exact⟨trivial,(λz=>nomatch z),rfl,rfl,(λ_=>rfl),((show 2 * r.length+0<2 * (r.length+1)+0 by lia)),hb,(Nat.le_add_right _ _),sk (m:=.D) (sP c hA.hd h1) (.inl (mX c hA.hd h0))⟩
theorem Hz (hn:mu o) (hw:WF .tSDED b) (hA:Al (c::r)) (hb:LT b):PS o .tSDED b c r (iC .tSDED b c r):=by
 show PS o .tSDED b c r (cond (c==45) ⟨.bG,b,[45],[c],r⟩<|cond (c==60) ⟨.bB,b,[60],[c],r⟩<|⟨.tSDE,b,[c],[c],r⟩)
 cases h0:(c==45)with
 |true=>
  obtain rfl:=eq_of_beq h0
  exact⟨trivial,(λz=>nomatch z),rfl,rfl,(λ_=>rfl),((show 2 * r.length+0<2 * (r.length+1)+0 by lia)),hb,(Nat.le_add_right _ _),rfl⟩
 |false=>
  cases h1:(c==60)with
  |true=>
   obtain rfl:=eq_of_beq h1
   exact⟨trivial,(λz=>nomatch z),rfl,rfl,(λ_=>rfl),((show 2 * r.length+1<2 * (r.length+1)+0 by lia)),hb,(Nat.le_add_right _ _),iB (m:=.D) (.inr (bO (by decide)))⟩
  |false=>
   exact⟨trivial,(λz=>nomatch z),rfl,rfl,(λ_=>rfl),((show 2 * r.length+0<2 * (r.length+1)+0 by lia)),hb,(Nat.le_add_right _ _),(iB (m:=.D) (.inr (bO (mX c hA.hd h0)))).trans (sk (m:=.D) (sP c hA.hd h1) (.inl (mX c hA.hd h0)))⟩
theorem B6 (hn:mu o) (hw:WF .bG b) (hA:Al (c::r)) (hb:LT b):PS o .bG b c r (iC .bG b c r):=by
 show PS o .bG b c r (cond (c==45) ⟨.bG,b,[45],[c],r⟩<|cond (c==60) ⟨.bB,b,[60],[c],r⟩<|cond (c==62) ⟨.tS,b,[62],[c],r⟩<|⟨.tSDE,b,[c],[c],r⟩)
 cases h0:(c==45)with
 |true=>
  obtain rfl:=eq_of_beq h0
  exact⟨trivial,(λz=>nomatch z),rfl,rfl,(λ_=>rfl),((show 2 * r.length+0<2 * (r.length+1)+0 by lia)),hb,(Nat.le_add_right _ _),iB (m:=.D) (.inr (dA.trans (bO (by decide))))⟩
 |false=>
  cases h1:(c==60)with
  |true=>
   obtain rfl:=eq_of_beq h1
   exact⟨trivial,(λz=>nomatch z),rfl,rfl,(λ_=>rfl),((show 2 * r.length+1<2 * (r.length+1)+0 by lia)),hb,(Nat.le_add_right _ _),(iB (m:=.D) (.inr (dA.trans (bO (by decide))))).trans (iB (m:=.D) (.inr (bO (by decide))))⟩
  |false=>
   cases h2:(c==62)with
   |true=>
    obtain rfl:=eq_of_beq h2
    exact⟨trivial,(λz=>nomatch z),rfl,rfl,(λ_=>rfl),((show 2 * r.length+0<2 * (r.length+1)+0 by lia)),hb,(Nat.le_add_right _ _),rN (m:=.D) rfl rfl⟩
   |false=>
    exact⟨trivial,(λz=>nomatch z),rfl,rfl,(λ_=>rfl),((show 2 * r.length+0<2 * (r.length+1)+0 by lia)),hb,(Nat.le_add_right _ _),(iB (m:=.D) (.inr (dA.trans (bO (SA c hA.hd h2))))).trans ((iB (m:=.D) (.inr (bO (mX c hA.hd h0)))).trans (sk (m:=.D) (sP c hA.hd h1) (.inl (mX c hA.hd h0))))⟩
theorem B7 (hn:mu o) (hw:WF .bB b) (hA:Al (c::r)) (hb:LT b):PS o .bB b c r (iC .bB b c r):=by
 show PS o .bB b c r (cond (c==47) ⟨.tSDEE,(some []),[47],[c],r⟩<|⟨.tSDE,b,[],[],c::r⟩)
 cases h0:(c==47)with
 |true=>
  obtain rfl:=eq_of_beq h0
  exact⟨(⟨_,rfl⟩),(λz=>nomatch z),rfl,rfl,(λ_=>rfl),((show 2 * r.length+1<2 * (r.length+1)+1 by lia)),LT.emp,(Nat.zero_le _),rfl⟩
 |false=>
  exact⟨trivial,(λz=>nomatch z),rfl,rfl,(λh=>absurd rfl h),((show 2 * (r.length+1)+0<2 * (r.length+1)+1 by lia)),hb,(Nat.le_add_right _ _),bN (m:=.D) rfl (bO (by decide)) (show(aM (60::47::eY) (60::eD c::sm r)&&FF ((eD c::sm r).drop 7))=false by rw [dA,bO (Oh c hA.hd h0)];rfl)⟩
end
noncomputable def fy:List Nat->List (Int×List Nat)->List AV
 |_,[]=>[]
 |rb,(k,p)::r=>.tup [bE (p.reverse++rb),aT k p]::fy (p.reverse++rb) r
section
variable {R M:AO} {o:Option (List Nat)} {t:List Nat} {V0:List (Nm×AV)}
theorem fin {f:Fn} {rb:List Nat} {en:Bool} {tb:List (Nm×AV)} {got:List AV} (e :∀got,G7.call f [.inst .tok 2] (hp R M o t f rb [] en tb got [])=some (.bool false,hp R M o t f rb [] true tb got [],[]))
  {σ:St} (p:wq R M o t V0 f rb [] en tb got σ) :∃σ',uQ 1 true σ=some σ'/\wq R M o t V0 f rb [] true tb got σ':=by
 obtain⟨H,V,O⟩:=σ
 obtain⟨rfl,hv,hl⟩:=p
 refine⟨⟨hp R M o t f rb [] true tb got [],V,[]++O⟩,?_,⟨rfl,hv,Lm.nil.app hl⟩⟩
 show d6 G7 2 .aD qr (0+1) true _=_
 exact Se (wX (e got))
theorem R4 {CD:AO} {K:List AO} {ct:AV} {rb b:List Nat} {en:Bool} {got:List AV} {σ:St} (p:dX R M t V0 CD K .bw ct rb [] en b got σ) :∃σ',uQ 1 true σ=some σ'/\dX R M t V0 CD K .bw ct rb [] true b got σ':=by
 obtain⟨H,V,O⟩:=σ
 obtain⟨rfl,hv,hl⟩:=p
 refine⟨⟨hX R M t CD K .bw ct rb [] true b got [],V,[]++O⟩,?_,⟨rfl,hv,Lm.nil.app hl⟩⟩
 show d6 G7 2 .aD qr (0+1) true _=_
 have e:G7.call .bw [.inst .tok 2] (hX R M t CD K .bw ct rb [] en b got [])=some (.bool false,hX R M t CD K .bw ct rb [] true b got [],[]):=by cases en<;>kernel_rfl
 exact Se (xE1 e)
theorem g6.end {P Q:St->Prop} (h:g6 P Q) {Z:St->Prop} (hq :∀σ,Q σ->∃σ',uQ 1 true σ=some σ'/\Z σ') {σ:St} (p:P σ) :∃fu σ',uQ fu true σ=some σ'/\Z σ':=by
 obtain⟨c,σ1,q,e⟩:=h σ p
 obtain⟨σ',e',z⟩:=hq σ1 q
 exact⟨1+c,σ',by rw [e 1,e'],z⟩
end
noncomputable def ef (f:Fn):Fn:=match f with
 |.tSLt=>.tS
 |.tSEO=>.tS
 |.tSEN=>.tS
 |.tSES=>.tS
 |.tSESD=>.tS
 |.tSELt=>.tSE
 |.tSEEO=>.tSE
 |.tSEEN=>.tSE
 |.tSDES=>.tSE
 |.bB=>.tSDE
 |.tSDEE=>.tSDE
 |_=>.bw
noncomputable def dZ (R M:AO) (o:Option (List Nat)) (t:List Nat) (f:Fn) (b:Option (List Nat)) (rb:List Nat) (en:Bool) (q:List AV):Prop:=
 ∃os,Lm os/\∀got,G7.call f [.inst .tok 2] (hp R M o t f rb [] en (cb b) got [])=some (.bool true,hp R M o t (ef f) rb [] true (cb b) got q,os)
section
variable {R M:AO} {o:Option (List Nat)} {t rb:List Nat} {b:Option (List Nat)} {en:Bool}
theorem Mt (hn:dQ o) (hw:WF .tSLt b) (hb :∀x,b=some x->Al x/\x.length<=400000):dZ R M o t .tSLt b rb en (tq (pend .tSLt b)):=by
 exact⟨_,(.cons (df b) (.cons (by decide) (.cons (by decide) .nil))),v8 R M o t rb b en⟩
theorem Mr (hn:dQ o) (hw:WF .tSEO b) (hb :∀x,b=some x->Al x/\x.length<=400000):dZ R M o t .tSEO b rb en (tq (pend .tSEO b)):=by
 obtain rfl:b=some []:=hw
 exact⟨_,(.cons (by decide) (.cons (by decide) (.cons (by decide) .nil))),vX R M o t rb [] en⟩
theorem Mq (hn:dQ o) (hw:WF .tSEN b) (hb :∀x,b=some x->Al x/\x.length<=400000):dZ R M o t .tSEN b rb en (tq (pend .tSEN b)):=by
 obtain⟨x,rfl⟩ :∃x,b=some x:=hw
 exact⟨_,.cons (by decide) (.cons (by decide) (.cons (by decide) (.cons (by have:=(hb x rfl).2;show _<=1000000;lia) (rq hn (hb x rfl).1 (hb x rfl).2)))),vr R M o t rb x en true⟩
theorem Ms (hn:dQ o) (hw:WF .tSES b) (hb :∀x,b=some x->Al x/\x.length<=400000):dZ R M o t .tSES b rb en (tq (pend .tSES b)):=by
 exact⟨_,(.cons (df b) .nil),v5 R M o t rb b en⟩
theorem Hx (hn:dQ o) (hw:WF .tSESD b) (hb :∀x,b=some x->Al x/\x.length<=400000):dZ R M o t .tSESD b rb en (tq (pend .tSESD b)):=by
 exact⟨_,(.cons (df b) .nil),tN R M o t rb b en⟩
theorem QF (hn:dQ o) (hw:WF .tSE b) (hb :∀x,b=some x->Al x/\x.length<=400000):dZ R M o t .tSE b rb en (tq (pend .tSE b)):=by
 exact⟨_,(.cons (df b) .nil),pY R M o t rb b en⟩
theorem Mp (hn:dQ o) (hw:WF .tSED b) (hb :∀x,b=some x->Al x/\x.length<=400000):dZ R M o t .tSED b rb en (tq (pend .tSED b)):=by
 exact⟨_,(.cons (df b) .nil),vO R M o t rb b en⟩
theorem Ht (hn:dQ o) (hw:WF .tSEDD b) (hb :∀x,b=some x->Al x/\x.length<=400000):dZ R M o t .tSEDD b rb en (tq (pend .tSEDD b)):=by
 exact⟨_,(.cons (df b) .nil),tK R M o t rb b en⟩
theorem Hw (hn:dQ o) (hw:WF .tSELt b) (hb :∀x,b=some x->Al x/\x.length<=400000):dZ R M o t .tSELt b rb en (tq (pend .tSELt b)):=by
 exact⟨_,(.cons (df b) (.cons (by decide) (.cons (by decide) .nil))),tM R M o t rb b en⟩
theorem Hv (hn:dQ o) (hw:WF .tSEEO b) (hb :∀x,b=some x->Al x/\x.length<=400000):dZ R M o t .tSEEO b rb en (tq (pend .tSEEO b)):=by
 obtain⟨x,rfl⟩ :∃x,b=some x:=hw
 exact⟨_,(.cons (by decide) (.cons (by decide) (.cons (by decide) .nil))),tL R M o t rb x en⟩
theorem Hu (hn:dQ o) (hw:WF .tSEEN b) (hb :∀x,b=some x->Al x/\x.length<=400000):dZ R M o t .tSEEN b rb en (tq (pend .tSEEN b)):=by
 obtain⟨x,rfl⟩ :∃x,b=some x:=hw
 exact⟨_,.cons (by decide) (.cons (by decide) (.cons (by decide) (.cons (by have:=(hb x rfl).2;show _<=1000000;lia) (rq hn (hb x rfl).1 (hb x rfl).2)))),vr R M o t rb x en false⟩
theorem Hs (hn:dQ o) (hw:WF .tSDES b) (hb :∀x,b=some x->Al x/\x.length<=400000):dZ R M o t .tSDES b rb en (tq (pend .tSDES b)):=by
 obtain⟨x,rfl⟩ :∃x,b=some x:=hw
 exact⟨_,(.cons (by decide) (.cons (by decide) (.cons (by decide) .nil))),tJ R M o t rb x en⟩
theorem wu (hn:dQ o) (hw:WF .tSDE b) (hb :∀x,b=some x->Al x/\x.length<=400000):dZ R M o t .tSDE b rb en [aT 7 Bd]:=by
 exact⟨_,(.cons (df b) (.cons (by decide) (.cons (by decide) .nil))),vJ R M o t rb b en⟩
theorem Hq (hn:dQ o) (hw:WF .tSDED b) (hb :∀x,b=some x->Al x/\x.length<=400000):dZ R M o t .tSDED b rb en [aT 7 Bd]:=by
 exact⟨_,(.cons (df b) (.cons (by decide) (.cons (by decide) .nil))),tF R M o t rb b en⟩
theorem B0 (hn:dQ o) (hw:WF .bG b) (hb :∀x,b=some x->Al x/\x.length<=400000):dZ R M o t .bG b rb en [aT 7 Bd]:=by
 exact⟨_,(.cons (df b) (.cons (by decide) (.cons (by decide) .nil))),qM R M o t rb b en⟩
theorem B1 (hn:dQ o) (hw:WF .bB b) (hb :∀x,b=some x->Al x/\x.length<=400000):dZ R M o t .bB b rb en (tq (pend .bB b)):=by
 exact⟨_,(.cons (df b) .nil),qN R M o t rb b en⟩
theorem Hr (hn:dQ o) (hw:WF .tSDEE b) (hb :∀x,b=some x->Al x/\x.length<=400000):dZ R M o t .tSDEE b rb en (tq (pend .tSDEE b)):=by
 obtain⟨x,rfl⟩ :∃x,b=some x:=hw
 exact⟨_,(.cons (by decide) (.cons (by decide) (.cons (by decide) .nil))),tG R M o t rb x en⟩
theorem l8 (tb:List (Nm×AV)) :∀got,G7.call .bw [.inst .tok 2] (hp R M o t .bw rb [] en tb got [])=some (.bool false,hp R M o t .bw rb [] true tb got [],[]):=by
 cases o<;>cases en<;>exact λgot=>by kernel_rfl
theorem xU :∀got,G7.call .tS [.inst .tok 2] (hp R M o t .tS rb [] en (cb b) got [])=some (.bool false,hp R M o t .tS rb [] true (cb b) got [],[]):=Bx R M o t rb b en
end
noncomputable def EO (o:Option (List Nat)) (f:Fn) (b:Option (List Nat)):Prop:=SC o (md f) (sm (ov f b))=([],kJ (md f))
section
variable {o:Option (List Nat)} {b:Option (List Nat)}
theorem YG {x:List Nat} (h0:x≠[]) (hb :∀a∈x,dP a=true/\a∈alpha):g7 o (60::sm x)=false:=by
 cases x with
 |nil=>exact absurd rfl h0
 |cons a x=>exact gp λz=>absurd (z▸om hb (eD a) (.head _)) (by decide)
theorem QE (hw:WF .tS b) (hb:LT b) (hx:NE .tS b):EO o .tS b:=by
 exact rfl
theorem Mo (hw:WF .tSE b) (hb:LT b) (hx:NE .tSE b):EO o .tSE b:=by
 exact rfl
theorem Hk (hw:WF .tSDE b) (hb:LT b) (hx:NE .tSDE b):EO o .tSDE b:=by
 exact rfl
theorem Hp (hw:WF .tSLt b) (hb:LT b) (hx:NE .tSLt b):EO o .tSLt b:=by
 exact bN (m:=.S) (eL Lb) rfl rfl
theorem Hn (hw:WF .tSEO b) (hb:LT b) (hx:NE .tSEO b):EO o .tSEO b:=by
 obtain rfl:b=some []:=hw
 exact(bN (m:=.S) (eL (yl (x:=[]) λ_ m=>nomatch m)) rfl rfl).trans (sk (m:=.S) (by decide) (.inr rfl))
theorem Hm (hw:WF .tSEN b) (hb:LT b) (hx:NE .tSEN b):EO o .tSEN b:=by
 obtain⟨x,rfl⟩ :∃x,b=some x:=hw
 have hb :∀a∈x,dP a=true/\a∈alpha:=hb
 exact(bN (m:=.S) (eL (yl (om hb))) (dA.trans (bO (by decide))) rfl).trans ((sk (m:=.S) (by decide) (.inr rfl)).trans (Kx (om hb)))
theorem Ho (hw:WF .tSES b) (hb:LT b) (hx:NE .tSES b):EO o .tSES b:=by
 exact(bN (m:=.S) (eL (gp (by decide))) rfl rfl).trans (sk (m:=.S) (by decide) (.inr rfl))
theorem BZ (hw:WF .tSESD b) (hb:LT b) (hx:NE .tSESD b):EO o .tSESD b:=by
 exact(bN (m:=.S) (eL (gp (by decide))) rfl rfl).trans ((sk (m:=.S) (by decide) (.inr rfl)).trans (iB (.inl rfl)))
theorem Hl (hw:WF .tSED b) (hb:LT b) (hx:NE .tSED b):EO o .tSED b:=by
 exact iB (m:=.E) (.inr rfl)
theorem BV (hw:WF .tSEDD b) (hb:LT b) (hx:NE .tSEDD b):EO o .tSEDD b:=by
 exact(iB (m:=.E) (.inr rfl)).trans (iB (m:=.E) (.inr rfl))
theorem BY (hw:WF .tSELt b) (hb:LT b) (hx:NE .tSELt b):EO o .tSELt b:=by
 exact bN (m:=.E) (eL Lb) rfl rfl
theorem BX (hw:WF .tSEEO b) (hb:LT b) (hx:NE .tSEEO b):EO o .tSEEO b:=by
 obtain⟨x,rfl⟩ :∃x,b=some x:=hw
 have hb :∀a∈x,dP a=true/\a∈alpha:=hb
 exact(bN (m:=.E) (eL (yl (x:=[]) λ_ m=>nomatch m)) rfl rfl).trans (sk (m:=.E) (by decide) (.inl (by decide)))
theorem BW (hw:WF .tSEEN b) (hb:LT b) (hx:NE .tSEEN b):EO o .tSEEN b:=by
 obtain⟨x,rfl⟩ :∃x,b=some x:=hw
 have hb :∀a∈x,dP a=true/\a∈alpha:=hb
 exact(bN (m:=.E) (eL (yl (om hb))) (bO (by decide)) zC).trans ((sk (m:=.E) (by decide) (.inl (by decide))).trans (Kx (om hb)))
theorem BU (hw:WF .tSDES b) (hb:LT b) (hx:NE .tSDES b):EO o .tSDES b:=by
 obtain⟨x,rfl⟩ :∃x,b=some x:=hw
 have hb :∀a∈x,dP a=true/\a∈alpha:=hb
 have hx0:x≠[]:=λz=>hx rfl (z▸rfl)
 exact(bN (m:=.E) (eL (YG hx0 hb)) (bO (by decide)) (ZO (om hb))).trans (Kx (om hb))
theorem BR (hw:WF .tSDED b) (hb:LT b) (hx:NE .tSDED b):EO o .tSDED b:=by
 exact iB (m:=.D) (.inr rfl)
theorem zR (hw:WF .bG b) (hb:LT b) (hx:NE .bG b):EO o .bG b:=by
 exact(iB (m:=.D) (.inr rfl)).trans (iB (m:=.D) (.inr rfl))
theorem zS (hw:WF .bB b) (hb:LT b) (hx:NE .bB b):EO o .bB b:=by
 exact bN (m:=.D) rfl rfl rfl
theorem BS (hw:WF .tSDEE b) (hb:LT b) (hx:NE .tSDEE b):EO o .tSDEE b:=by
 obtain⟨x,rfl⟩ :∃x,b=some x:=hw
 have hb :∀a∈x,dP a=true/\a∈alpha:=hb
 exact(bN (m:=.D) rfl (bO (by decide)) (ZN (om hb))).trans ((sk (m:=.D) (by decide) (.inl (by decide))).trans (Kx (om hb)))
theorem Mn {f:Fn} (hw:WF f b) (hb:LT b) (hx:NE f b):EO o f b:=by
 cases f with
 |tS=>exact QE hw hb hx
 |tSLt=>exact Hp hw hb hx
 |tSEO=>exact Hn hw hb hx
 |tSEN=>exact Hm hw hb hx
 |tSES=>exact Ho hw hb hx
 |tSESD=>exact BZ hw hb hx
 |tSE=>exact Mo hw hb hx
 |tSED=>exact Hl hw hb hx
 |tSEDD=>exact BV hw hb hx
 |tSELt=>exact BY hw hb hx
 |tSEEO=>exact BX hw hb hx
 |tSEEN=>exact BW hw hb hx
 |tSDES=>exact BU hw hb hx
 |tSDEE=>exact BS hw hb hx
 |tSDE=>exact Hk hw hb hx
 |tSDED=>exact BR hw hb hx
 |bG=>exact zR hw hb hx
 |bB=>exact zS hw hb hx
 |_=>exact hw.elim
end
section
variable {R M:AO} {o:Option (List Nat)} {t rb:List Nat} {b:Option (List Nat)} {c:Nat} {r:List Nat} {f:Fn}
theorem Q9 {x:List Nat} (hn:dQ o) (hx:Al x):Cj o x=wC o (sm x):=by
 cases o with
 |none=>rfl
 |some nm=>
  show bQ (aX nm) (aX x)=bQ (sm x) nm
  rw [hn.lo nm rfl,iI x hx,fC,fC,Bool.beq_comm]
theorem QC (hn:dQ o) (hw:WF f b) (hA:Al (c::r)) (hb :∀x,b=some x->Al x/\x.length<=400000) (hl:r.length<=400000) (hf:(f=.tSEN\/f=.tSEEN)->(wC o (sm (b.getD []))&&gG (eD c))=false):bV R M o t f b rb c r (iC f b c r):=by
 have hf' (h:f=.tSEN\/f=.tSEEN) :∀x,b=some x->gG c=false\/Cj o x=false:=λx e=>by
  have h:=hf h
  rw [e,JJ c hA.hd]at h
  rw [Q9 hn (hb x e).1]
  exact(Bool.and_eq_false_iff.mp h).symm
 cases f with
 |tS=>exact Yl hn hw hA hb hl
 |tSLt=>exact Mm hn hw hA hb hl
 |tSEO=>exact Mk hn hw hA hb hl
 |tSEN=>exact Mj hn hw hA hb hl (hf' (.inl rfl))
 |tSES=>exact Ml hn hw hA hb hl
 |tSESD=>exact Hj hn hw hA hb hl
 |tSE=>exact QD hn hw hA hb hl
 |tSED=>exact Mi hn hw hA hb hl
 |tSEDD=>exact Hf hn hw hA hb hl
 |tSELt=>exact Hi hn hw hA hb hl
 |tSEEO=>exact Hh hn hw hA hb hl
 |tSEEN=>exact Hg hn hw hA hb hl (hf' (.inr rfl))
 |tSDES=>exact He hn hw hA hb hl
 |tSDEE=>exact Hd hn hw hA hb hl
 |tSDE=>exact Mh hn hw hA hb hl
 |tSDED=>exact Hc hn hw hA hb hl
 |bG=>exact BO hn hw hA hb hl
 |bB=>exact BP hn hw hA hb hl
 |_=>exact hw.elim
theorem KZ (hn:mu o) (hw:WF f b) (hA:Al (c::r)) (hb:LT b) (hx:NE f b) (hf:(f=.tSEN\/f=.tSEEN)->(wC o (sm (b.getD []))&&gG (eD c))=false):PS o f b c r (iC f b c r):=by
 cases f with
 |tS=>exact Yn hn hw hA hb
 |tSLt=>exact MC hn hw hA hb
 |tSEO=>exact MA hn hw hA hb
 |tSEN=>exact Mz hn hw hA hb (hf (.inl rfl))
 |tSES=>exact MB hn hw hA hb
 |tSESD=>exact HJ hn hw hA hb
 |tSE=>exact QS hn hw hA hb
 |tSED=>exact My hn hw hA hb
 |tSEDD=>exact HF hn hw hA hb
 |tSELt=>exact HI hn hw hA hb
 |tSEEO=>exact HH hn hw hA hb
 |tSEEN=>exact HG hn hw hA hb (hf (.inr rfl))
 |tSDES=>exact HE hn hw hA hb hx
 |tSDEE=>exact HD hn hw hA hb
 |tSDE=>exact Mx hn hw hA hb
 |tSDED=>exact Hz hn hw hA hb
 |bG=>exact B6 hn hw hA hb
 |bB=>exact B7 hn hw hA hb
 |_=>exact hw.elim
end
theorem rK :∀(ps qs:List (Int×List Nat)) (rb:List Nat),fy rb (ps++qs)=fy rb ps++fy ((ps.map Prod.snd).flatten.reverse++rb) qs
 |[],_,_=>rfl
 |(k,p)::r,qs,rb=>by
  show _::fy (p.reverse++rb) (r++qs)=_::(fy (p.reverse++rb) r++fy ((p++(r.map Prod.snd).flatten).reverse++rb) qs)
  rw [rK r qs,List.reverse_append,List.append_assoc]
theorem jn :∀(ps:List (Int×List Nat)) (rb:List Nat),(fy rb ps).length=ps.length
 |[],_=>rfl
 |(_,_)::r,_=>congrArg (·+1) (jn r _)
noncomputable abbrev ZD (ps:List (List Nat)):List (Int×List Nat):=ps.map λp=>((1:Int),p)
noncomputable abbrev lb (ps:List (List Nat)):List AV:=fy [] (ZD ps)
theorem Kc (ps:List (List Nat)):(ZD ps).map Prod.snd=ps:=by
 rw [List.map_map]
 exact List.map_id _
theorem wg (ps:List (List Nat)) (p:List Nat):lb (ps++[p])=lb ps++[.tup [bE (ps.flatten++p).reverse,aT 1 p]]:=by
 show fy [] ((ps++[p]).map _)=_
 rw [List.map_append,rK,Kc,List.append_nil,List.reverse_append]
 rfl
theorem lG :∀{ps:List (List Nat)},(∀p∈ps,p≠[])->ps.length<=ps.flatten.length
 |[],_=>Nat.le_refl _
 |p::ps,h=>by
  have a:=lG (ps:=ps) λq m=>h q (.tail _ m)
  have b:=List.length_pos_iff.mpr (h p (.head _))
  rw [List.flatten_cons,List.length_append,List.length_cons]
  lia
noncomputable def Go (σ σ':St):Prop:=∃c,∀k,uQ (k+c) true σ=uQ k true σ'
theorem Go.refl (σ:St):Go σ σ:=⟨0,λ_=>rfl⟩
theorem Go.trans {a b c:St} (h:Go a b) (k:Go b c):Go a c:=Exists.elim h λx h=>Exists.elim k λy k=>⟨y+x,λn=>by rw [<-Nat.add_assoc,h,k]⟩
theorem g6.go {P Q:St->Prop} (h:g6 P Q) {σ:St} (p:P σ) :∃σ',Q σ'/\Go σ σ':=Exists.elim (h σ p) λc z=>Exists.elim z λσ' z=>⟨σ',z.1,c,z.2⟩
section
variable (R M:AO) (o:Option (List Nat)) (t:List Nat) (V0:List (Nm×AV))
structure MI (f:Fn) (b:Option (List Nat)) (rb l:List Nat) (ps:List (List Nat)) (σ:St):Prop where
 at_ :∃en,(l≠[]->en=false)/\wq R M o t V0 f rb l en (cb b) (lb ps) σ
 wf:WF f b
 ne:NE f b
 lt:LT b
 bl:(b.getD []).length<=rb.length
 al:Al l
 fl:ps.flatten++pend f b=rb.reverse
 nz :∀p∈ps,p≠[]
noncomputable def B8 (z:List Nat×Bool) (x:List Nat) (σ:St):Prop:=∃(ap:Bool) (b:List Nat) (c:Nat) (w rb:List Nat) (ps:List (List Nat)) (σ':St),Go σ σ'/\wq R M o t V0 (ql ap) rb (c::w) false (cH b) (lb ps) σ'/\gG c=true/\wC o (sm b)=true/\
 (∀a∈b,dP a=true/\a∈alpha)/\rb.reverse=ps.flatten++60::47::b/\x=rb.reverse++c::w/\(∀p∈ps,p≠[])/\z=(sm (60::47::(b++c::w)),false)
noncomputable def rM (d:Bool) (x:List Nat) (σ:St):Prop:=∃(f:Fn) (tb:List (Nm×AV)) (ps:List (List Nat)) (σ':St) (fu:Nat),uQ fu true σ=some σ'/\wq R M o t V0 f x.reverse [] true tb (lb ps++cond d [.tup [bE x.reverse,aT 7 Bd]] []) σ'/\ps.flatten=x/\(∀p∈ps,p≠[])
noncomputable def QQ (f:Fn) (b:Option (List Nat)) (rb:List Nat) (σ:St):Prop:=∃ps en,wq R M o t V0 f rb [] en (cb b) (lb ps) σ/\ps.flatten=rb.reverse/\(∀p∈ps,p≠[])
end
section
variable {R M:AO} {o:Option (List Nat)} {t:List Nat} {V0:List (Nm×AV)} {f:Fn} {b:Option (List Nat)} {rb l:List Nat} {ps:List (List Nat)} {σ σ':St} {c:Nat} {r:List Nat} {d:Bool} {x:List Nat}
theorem rM.of (g:Go σ σ') (h:rM R M o t V0 d x σ'):rM R M o t V0 d x σ:=by
 obtain⟨n,g⟩:=g
 obtain⟨f,tb,ps,σ2,fu,e,z⟩:=h
 exact⟨f,tb,ps,σ2,fu+n,(g fu).trans e,z⟩
theorem B8.of {z:List Nat×Bool} (g:Go σ σ') (h:B8 R M o t V0 z x σ'):B8 R M o t V0 z x σ:=by
 obtain⟨ap,b,c,w,rb,ps,σ2,g2,q⟩:=h
 exact⟨ap,b,c,w,rb,ps,σ2,g.trans g2,q⟩
theorem MI.len (h:MI R M o t V0 f b rb l ps σ):(lb ps).length<=rb.length:=by
 have a:=lG h.nz
 have e:=congrArg List.length h.fl
 rw [List.length_append,List.length_reverse]at e
 rw [jn,List.length_map]
 lia
theorem MI.hb (h:MI R M o t V0 f b rb l ps σ) (hl:rb.length<=300000) :∀x,b=some x->Al x/\x.length<=400000:=λx e=>by
 have lt:=h.lt
 have bl:=h.bl
 rw [e]at lt bl
 exact⟨λa m=>(lt a m).2,Nat.le_trans bl (Nat.le_trans hl (by decide))⟩
theorem SV (hn:dQ o) (hn2:mu o) (h:MI R M o t V0 f b rb (c::r) ps σ) (hl:rb.length+(r.length+1)<=300000) (hf:(f=.tSEN\/f=.tSEEN)->(wC o (sm (b.getD []))&&gG (eD c))=false) :
  ∃ps' σ',MI R M o t V0 (iC f b c r).f (iC f b c r).b ((iC f b c r).k.reverse++rb) (iC f b c r).r ps' σ'/\Go σ σ':=by
 have P:=KZ hn2 h.wf h.al h.lt h.ne hf
 obtain⟨os,en',hos,hen,e⟩:=QC (R:=R) (M:=M) (t:=t) (rb:=rb) hn h.wf h.al (h.hb (by lia)) (by lia) hf
 obtain⟨en,he,hat⟩:=h.at_
 obtain rfl:=he λz=>nomatch z
 have ml:=h.len
 generalize iC f b c r=s at *
 have bl:(s.b.getD []).length<=(s.k.reverse++rb).length:=by rw [List.length_append,List.length_reverse];have:=P.bl;have:=h.bl;lia
 have al:Al s.r:=λx m=>h.al x (P.kr▸List.mem_append_right _ m)
 have key:ps.flatten++(s.p++pend s.f s.b)=(s.k.reverse++rb).reverse:=by
  rw [<-P.pe,<-List.append_assoc,h.fl,List.reverse_append,List.reverse_reverse]
 cases hp:s.p with
 |nil=>
  rw [hp]at e key
  obtain⟨σ',q,g⟩:=(GG (V0:=V0) (got:=lb ps) e hos).go hat
  exact⟨ps,σ',⟨⟨en',hen,q⟩,P.wf,P.ne,P.lt,bl,al,key,h.nz⟩,g⟩
 |cons a p=>
  have pz:=P.pz (by rw [hp];exact λz=>nomatch z)
  rw [hp]at e key
  rw [pz,List.append_nil]at key
  obtain⟨σ',q,g⟩:=(GH (V0:=V0) (got:=lb ps) rfl (by lia) e hos).go hat
  rw [<-List.reverse_reverse (as:=s.k.reverse++rb),<-key]at q
  rw [<-wg]at q
  rw [key,List.reverse_reverse]at q
  refine⟨ps++[a::p],σ',⟨⟨en',hen,q⟩,P.wf,P.ne,P.lt,bl,al,?_,?_⟩,g⟩
  ·rw [pz,List.append_nil,List.flatten_append,List.flatten_singleton];exact key
  ·exact λy m=>(List.mem_append.mp m).elim (h.nz y) λm=>by cases List.mem_singleton.mp m;exact λz=>nomatch z
theorem mM (h:QQ R M o t V0 .tS b rb σ):rM R M o t V0 false rb.reverse σ:=by
 obtain⟨ps,en,p,fl,nz⟩:=h
 obtain⟨σ',e,q⟩:=fin xU p
 exact⟨.tS,cb b,ps,σ',1,e,by rw [List.reverse_reverse];exact(List.append_nil (lb ps)).symm▸q,fl,nz⟩
theorem kg (h:QQ R M o t V0 .bw b rb σ):rM R M o t V0 false rb.reverse σ:=by
 obtain⟨ps,en,p,fl,nz⟩:=h
 obtain⟨σ',e,q⟩:=fin (l8 _) p
 exact⟨.bw,cb b,ps,σ',1,e,by rw [List.reverse_reverse];exact(List.append_nil (lb ps)).symm▸q,fl,nz⟩
theorem QQ.len (h:QQ R M o t V0 f b rb σ) (hl:rb.length<=300000) :∃ps en,wq R M o t V0 f rb [] en (cb b) (lb ps) σ/\ps.flatten=rb.reverse/\(∀p∈ps,p≠[])/\(lb ps).length<=300000:=by
 obtain⟨ps,en,p,fl,nz⟩:=h
 have a:=lG nz
 have e:=congrArg List.length fl
 rw [List.length_reverse]at e
 exact⟨ps,en,p,fl,nz,by rw [jn,List.length_map];lia⟩
theorem dE {q:List Nat} (hl:rb.length<=300000) (h:MI R M o t V0 f b rb [] ps σ) (hE :∀en,dZ R M o t f b rb en (tq q)) (hq:pend f b=q) :∃σ',Go σ σ'/\QQ R M o t V0 (ef f) b rb σ':=by
 obtain⟨en,_,hat⟩:=h.at_
 obtain⟨os,hos,e⟩:=hE en
 have fl:=h.fl
 have ml:=h.len
 rw [hq]at fl
 cases q with
 |nil=>
  obtain⟨σ',q,g⟩:=(GG (V0:=V0) (got:=lb ps) e hos).go hat
  exact⟨σ',g,ps,true,q,(List.append_nil _).symm.trans fl,h.nz⟩
 |cons a p=>
  obtain⟨σ',q,g⟩:=(GH (V0:=V0) (got:=lb ps) rfl (by lia) e hos).go hat
  refine⟨σ',g,ps++[a::p],true,?_,?_,?_⟩
  ·rw [wg,fl,List.reverse_reverse];exact q
  ·rw [List.flatten_append,List.flatten_singleton];exact fl
  ·exact λy m=>(List.mem_append.mp m).elim (h.nz y) λm=>by cases List.mem_singleton.mp m;exact λz=>nomatch z
theorem nV (hl:rb.length<=300000) (h:QQ R M o t V0 .tSE b rb σ):rM R M o t V0 false rb.reverse σ:=by
 obtain⟨ps,en,p,fl,nz⟩:=h
 obtain⟨σ',q,g⟩:=(GG (V0:=V0) (got:=lb ps) (pY R M o t rb b en) (.cons (df b) .nil)).go p
 exact .of g (kg (b:=b) ⟨ps,true,q,fl,nz⟩)
theorem oR (hl:rb.length<=300000) (h:QQ R M o t V0 f b rb σ) (he:ef f=.bw) (hE :∀en,dZ R M o t f b rb en [aT 7 Bd]):rM R M o t V0 true rb.reverse σ:=by
 obtain⟨ps,en,p,fl,nz,le⟩:=h.len hl
 obtain⟨os,hos,e⟩:=hE en
 rw [he]at e
 obtain⟨σ1,q,g⟩:=(GH (V0:=V0) (got:=lb ps) rfl (by lia) e hos).go p
 obtain⟨σ',e',q'⟩:=fin (l8 _) q
 exact .of g ⟨.bw,cb b,ps,σ',1,e',by rw [List.reverse_reverse];exact q',fl,nz⟩
theorem MI.qq (h:MI R M o t V0 f b rb [] ps σ) (hp:pend f b=[]):QQ R M o t V0 f b rb σ:=by
 obtain⟨en,_,hat⟩:=h.at_
 have fl:=h.fl
 rw [hp,List.append_nil]at fl
 exact⟨ps,en,hat,fl,h.nz⟩
theorem IM (hn:dQ o) (hl:rb.length<=300000) (h:MI R M o t V0 f b rb [] ps σ):rM R M o t V0 (kJ (md f)) rb.reverse σ:=by
 have hb:=h.hb hl
 have w:=h.wf
 cases f with
 |tS=>exact mM (h.qq rfl)
 |tSLt=>exact(dE (q:=pend .tSLt b) hl h (λen=>Mt hn w hb) rfl).elim λσ' z=>.of z.1 (mM z.2)
 |tSEO=>exact(dE (q:=pend .tSEO b) hl h (λen=>Mr hn w hb) rfl).elim λσ' z=>.of z.1 (mM z.2)
 |tSEN=>exact(dE (q:=pend .tSEN b) hl h (λen=>Mq hn w hb) rfl).elim λσ' z=>.of z.1 (mM z.2)
 |tSES=>exact(dE (q:=pend .tSES b) hl h (λen=>Ms hn w hb) rfl).elim λσ' z=>.of z.1 (mM z.2)
 |tSESD=>exact(dE (q:=pend .tSESD b) hl h (λen=>Hx hn w hb) rfl).elim λσ' z=>.of z.1 (mM z.2)
 |tSE=>exact(dE (q:=pend .tSE b) hl h (λen=>QF hn w hb) rfl).elim λσ' z=>.of z.1 (kg z.2)
 |tSED=>exact(dE (q:=pend .tSED b) hl h (λen=>Mp hn w hb) rfl).elim λσ' z=>.of z.1 (kg z.2)
 |tSEDD=>exact(dE (q:=pend .tSEDD b) hl h (λen=>Ht hn w hb) rfl).elim λσ' z=>.of z.1 (kg z.2)
 |tSELt=>exact(dE (q:=pend .tSELt b) hl h (λen=>Hw hn w hb) rfl).elim λσ' z=>.of z.1 (nV hl z.2)
 |tSEEO=>exact(dE (q:=pend .tSEEO b) hl h (λen=>Hv hn w hb) rfl).elim λσ' z=>.of z.1 (nV hl z.2)
 |tSEEN=>exact(dE (q:=pend .tSEEN b) hl h (λen=>Hu hn w hb) rfl).elim λσ' z=>.of z.1 (nV hl z.2)
 |tSDES=>exact(dE (q:=pend .tSDES b) hl h (λen=>Hs hn w hb) rfl).elim λσ' z=>.of z.1 (nV hl z.2)
 |tSDEE=>exact(dE (q:=pend .tSDEE b) hl h (λen=>Hr hn w hb) rfl).elim λσ' z=>.of z.1 (oR hl z.2 rfl λen=>wu hn trivial hb)
 |tSDE=>exact oR hl (h.qq rfl) rfl λen=>wu hn w hb
 |tSDED=>exact oR hl (h.qq rfl) rfl λen=>Hq hn w hb
 |bG=>exact oR hl (h.qq rfl) rfl λen=>B0 hn w hb
 |bB=>exact(dE (q:=pend .bB b) hl h (λen=>B1 hn w hb) rfl).elim λσ' z=>.of z.1 (oR hl z.2 rfl λen=>wu hn trivial hb)
 |_=>exact w.elim
theorem OD (hn:dQ o) (hn2:mu o) :∀(N:Nat) (f:Fn) (b:Option (List Nat)) (rb l:List Nat) (ps:List (List Nat)) (σ:St),2 * l.length+wt f<N->MI R M o t V0 f b rb l ps σ->rb.length+l.length<=300000->
  B8 R M o t V0 (SC o (md f) (sm (ov f b++l))) (rb.reverse++l) σ\/((SC o (md f) (sm (ov f b++l))).1=[]/\rM R M o t V0 (SC o (md f) (sm (ov f b++l))).2 (rb.reverse++l) σ)
 |0,_,_,_,_,_,_,h,_,_=>absurd h (Nat.not_lt_zero _)
 |N+1,f,b,rb,[],ps,σ,_,h,hl=>by
  have e:SC o (md f) (sm (ov f b++[]))=([],kJ (md f)):=by rw [List.append_nil];exact Mn h.wf h.lt h.ne
  rw [e,List.append_nil]
  exact .inr ⟨rfl,IM hn hl h⟩
 |N+1,f,b,rb,c::r,ps,σ,hN,h,hl=>by
  rw [List.length_cons]at hN hl
  by_cases hq:(f=.tSEN\/f=.tSEEN)/\(wC o (sm (b.getD []))&&gG (eD c))=true
  ·obtain⟨hf,hq⟩:=hq
   left
   have hc:gG c=true:=(JJ c h.al.hd)▸(Bool.and_eq_true_iff.mp hq).2
   have hlt:=h.lt
   obtain⟨en,he,hat⟩:=h.at_
   obtain rfl:=he λz=>nomatch z
   have w:=h.wf
   have fl:=h.fl
   have go (ap:Bool) (x:List Nat) (hb:b=some x) (ef:f=ql ap) (eo:ov f b=60::47::x) (ep:pend f b=60::47::x) (em:kJ (md f)=false):B8 R M o t V0 (SC o (md f) (sm (ov f b++c::r))) (rb.reverse++c::r) σ:=by
    subst hb
    refine⟨ap,x,c,r,rb,ps,σ,.refl σ,ef▸hat,hc,(Bool.and_eq_true_iff.mp hq).1,hlt,?_,rfl,h.nz,?_⟩
    ·rw [<-fl,ep]
    ·rw [eo]
     have e:=PZ (w:=[60,47]) (x:=x) (c:=c) (r:=r)
     have cl:g7 o (60::47::(sm x++eD c::sm r))=true:=(uk (r:=sm r) hn2 (om hlt) ((EF c h.al.hd).trans (AP c hc))).trans hq
     refine(congrArg (SC o (md f)) e).trans ((zU ?_).trans (congrArg (·,false) e.symm))
     unfold tA
     rw [em]
     exact cl
   rcases hf with rfl|rfl
   ·obtain⟨x,hx⟩ :∃x,b=some x:=w
    subst hx
    exact go true x rfl rfl rfl rfl rfl
   ·obtain⟨x,hx⟩ :∃x,b=some x:=w
    subst hx
    exact go false x rfl rfl rfl rfl rfl
  ·have hf:(f=.tSEN\/f=.tSEEN)->(wC o (sm (b.getD []))&&gG (eD c))=false:=λz=>by
    cases y:(wC o (sm (b.getD []))&&gG (eD c))with
    |false=>rfl
    |true=>exact absurd ⟨z,y⟩ hq
   have P:=KZ hn2 h.wf h.al h.lt h.ne hf
   obtain⟨ps',σ',h',g⟩:=SV hn hn2 h hl hf
   have kr:=congrArg List.length P.kr
   rw [List.length_cons,List.length_append]at kr
   have ih:=OD hn hn2 N _ _ _ _ ps' σ' (by have:=P.me;lia) h' (by rw [List.length_append,List.length_reverse];lia)
   have ex:((iC f b c r).k.reverse++rb).reverse++(iC f b c r).r=rb.reverse++c::r:=by rw [List.reverse_append,List.reverse_reverse,List.append_assoc,<-P.kr]
   rw [<-P.sc,ex]at ih
   exact ih.imp (.of g) λz=>⟨z.1,.of g z.2⟩
end
section
variable {R M:AO} {nm:List Nat} {t:List Nat} {V0:List (Nm×AV)} {ap:Bool} {rb au b:List Nat} {got:List AV} {bI:Option (List Nat)}
theorem toX {f:Fn} {en:Bool} {σ:St} (p:wq R M (some nm) t V0 f rb au en (cH b) got σ):dX R M t V0 (gg nm) [] f (.a5 5) rb au en b got σ:=
 ⟨p.h,⟨p.v.same,p.v.tok,p.v.got⟩,p.lm⟩
noncomputable abbrev KL (b:List Nat) (sc:Bool):List AO:=[.list [],ja (b.map gY) sc 8]
noncomputable abbrev KA (b:List Nat):List AO:=[.list [.a5 10],ja (b.map gY) false 8,.list [.str [107],.str [49]]]
structure nq (nm b:List Nat):Prop where
 hx:bQ (aX nm) (aX b)=true
 hb:b.length<=300000
 hm:(aX nm).length<=300000
 hl:(aX b).length<=300000
theorem fe0 (F:nq nm b) (hg:got.length<=300000) (ha:au.length<=300000) :
  g6 (dX R M t V0 (gg nm) [] (ql ap) (.a5 5) rb (62::au) false b got) (dX R M t V0 (gg nm) (KL b false) .bw (.a5 9) (62::rb) au false b (got++[.tup [bE (62::rb),.a5 9]])):=by
 obtain⟨hx,hb,hm,hl⟩:=F
 have s0:g6 (dX R M t V0 (gg nm) [] (ql ap) (.a5 5) rb (62::au) false b got) (dX R M t V0 (gg nm) (KL b false) .bw (.a5 9) (62::rb) (au) false b (got++toks (62::rb) [.a5 9])):=by
  cases ap
  ·exact C4 (V0:=V0) hx (by lia) (by lia) (by lia) (by lia)
  ·exact IE (V0:=V0) hx (by lia) (by lia) (by lia) (by lia)
 simpa [toks]using s0
theorem fe1 (F:nq nm b) (hg:got.length<=300000) (ha:au.length<=300000) :
  g6 (dX R M t V0 (gg nm) [] (ql ap) (.a5 5) rb (32::62::au) false b got) (dX R M t V0 (gg nm) (KL b false) .bw (.a5 9) (62::32::rb) au false b (got++[.tup [bE (62::32::rb),.a5 9]])):=by
 obtain⟨hx,hb,hm,hl⟩:=F
 have s0:g6 (dX R M t V0 (gg nm) [] (ql ap) (.a5 5) rb (32::62::au) false b got) (dX R M t V0 (gg nm) [.list [],ja b false 8] .jC (.a5 9) (32::rb) (62::au) false b (got++toks (32::rb) [])):=by
  cases ap
  ·exact uH (V0:=V0) hx (by lia) (by lia) (by lia) (by lia)
  ·exact yL (V0:=V0) hx (by lia) (by lia) (by lia) (by lia)
 have s1:=s0.trans (uF (V0:=V0) (by simp;lia) (by lia))
 simpa [toks]using s1
theorem fe2 (F:nq nm b) (hg:got.length<=300000) (ha:au.length<=300000) :
  g6 (dX R M t V0 (gg nm) [] (ql ap) (.a5 5) rb (47::62::au) false b got) (dX R M t V0 (gg nm) (KL b true) .bw (.a5 9) (62::47::rb) au false b (got++[.tup [bE (62::47::rb),aT 7 [115,101,108,102,45,99,108,111,115,105,110,103,45,102,108,97,103,45,111,110,45,101,110,100,45,116,97,103]],.tup [bE (62::47::rb),.a5 9]])):=by
 obtain⟨hx,hb,hm,hl⟩:=F
 have s0:g6 (dX R M t V0 (gg nm) [] (ql ap) (.a5 5) rb (47::62::au) false b got) (dX R M t V0 (gg nm) [.list [],ja b false 8] .BN (.a5 9) (47::rb) (62::au) false b (got++toks (47::rb) [])):=by
  cases ap
  ·exact uI (V0:=V0) hx (by lia) (by lia) (by lia) (by lia)
  ·exact yM (V0:=V0) hx (by lia) (by lia) (by lia) (by lia)
 have s1:=s0.trans (IC (V0:=V0) (by simp;lia) (by lia))
 simpa [toks]using s1
theorem fe3 (F:nq nm b) (hg:got.length<=300000) (ha:au.length<=300000) :
  g6 (dX R M t V0 (gg nm) [] (ql ap) (.a5 5) rb (10::107::61::49::62::au) false b got) (dX R M t V0 (gg nm) (KA b) .bw (.a5 9) (62::49::61::107::10::rb) au false b (got++[.tup [bE (62::49::61::107::10::rb),aT 7 [97,116,116,114,105,98,117,116,101,115,45,105,110,45,101,110,100,45,116,97,103]],.tup [bE (62::49::61::107::10::rb),.a5 9]])):=by
 obtain⟨hx,hb,hm,hl⟩:=F
 have s0:g6 (dX R M t V0 (gg nm) [] (ql ap) (.a5 5) rb (10::107::61::49::62::au) false b got) (dX R M t V0 (gg nm) [.list [],ja b false 8] .jC (.a5 9) (10::rb) (107::61::49::62::au) false b (got++toks (10::rb) [])):=by
  cases ap
  ·exact C3 (V0:=V0) hx (by lia) (by lia) (by lia) (by lia)
  ·exact ID (V0:=V0) hx (by lia) (by lia) (by lia) (by lia)
 have s1:=s0.trans (Ad (V0:=V0) (by simp;lia) (by lia))
 have s2:=s1.trans (YK (V0:=V0) (by simp;lia) (by lia))
 have s3:=s2.trans (RV (V0:=V0) (by simp;lia) (by lia))
 have s4:=s3.trans (RU (V0:=V0) (by simp;lia) (by lia))
 simpa [toks]using s4
theorem fe4 (F:nq nm b) (hg:got.length<=300000) (ha:au.length<=300000) :
  g6 (dX R M t V0 (gg nm) [] (ql ap) (.a5 5) rb (47::32::62::au) false b got) (dX R M t V0 (gg nm) (KL b false) .bw (.a5 9) (62::32::47::rb) au false b (got++[.tup [bE (47::rb),aT 7 [117,110,101,120,112,101,99,116,101,100,45,99,104,97,114,97,99,116,101,114,45,97,102,116,101,114,45,115,111,108,105,100,117,115,45,105,110,45,116,97,103]],.tup [bE (62::32::47::rb),.a5 9]])):=by
 obtain⟨hx,hb,hm,hl⟩:=F
 have s0:g6 (dX R M t V0 (gg nm) [] (ql ap) (.a5 5) rb (47::32::62::au) false b got) (dX R M t V0 (gg nm) [.list [],ja b false 8] .BN (.a5 9) (47::rb) (32::62::au) false b (got++toks (47::rb) [])):=by
  cases ap
  ·exact uI (V0:=V0) hx (by lia) (by lia) (by lia) (by lia)
  ·exact yM (V0:=V0) hx (by lia) (by lia) (by lia) (by lia)
 have s1:=s0.trans (IB (V0:=V0) (by simp;lia) (by lia))
 have s2:=s1.trans (C1 (V0:=V0) (by simp;lia) (by lia) (by lia))
 have s3:=s2.trans (uF (V0:=V0) (by simp;lia) (by lia))
 simpa [toks]using s3
theorem fe5 (F:nq nm b) (hg:got.length<=300000) (ha:au.length<=300000) :
  g6 (dX R M t V0 (gg nm) [] (ql ap) (.a5 5) rb (32::[]) false b got) (dX R M t V0 (gg nm) [.list [],ja b false 8] .bw (.a5 9) (32::rb) [] true b (got++[.tup [bE (32::rb),aT 7 [101,120,112,101,99,116,101,100,45,97,116,116,114,105,98,117,116,101,45,110,97,109,101,45,98,117,116,45,103,111,116,45,101,111,102]]])):=by
 obtain⟨hx,hb,hm,hl⟩:=F
 have s0:g6 (dX R M t V0 (gg nm) [] (ql ap) (.a5 5) rb (32::[]) false b got) (dX R M t V0 (gg nm) [.list [],ja b false 8] .jC (.a5 9) (32::rb) ([]) false b (got++toks (32::rb) [])):=by
  cases ap
  ·exact uH (V0:=V0) hx (by lia) (by lia) (by lia) (by lia)
  ·exact yL (V0:=V0) hx (by lia) (by lia) (by lia) (by lia)
 have s1:=s0.trans (Ae (V0:=V0) (by simp;lia) (by lia))
 simpa [toks]using s1
noncomputable def rJ (l:List Nat):List (Int×List Nat):=(match l.takeWhile jq with|[]=>[]|q=>[(2,q)])++(match l.dropWhile jq with|[]=>[]|q=>[(1,q)])
theorem NH {K:List AO} {CD:AO} {ct:AV} (hg:got.length<=300000) (hb:b.length<=300000) {tl:List Nat} (h:tl∈([[],[117,32,118],[10,32,119,62],[32]]:List (List Nat))) {σ:St} (p:dX R M t V0 CD K .bw ct rb tl false b got σ) :
  ∃fu σ',uQ fu true σ=some σ'/\dX R M t V0 CD K .bw ct (tl.reverse++rb) [] true b (got++fy rb (rJ tl)) σ':=by
 have z :∀{rb en got σ},dX R M t V0 CD K .bw ct rb [] en b got σ->∃σ',uQ 1 true σ=some σ'/\dX R M t V0 CD K .bw ct rb [] true b got σ':=λq=>R4 q
 simp only [List.mem_cons,List.not_mem_nil,or_false]at h
 rcases h with rfl|rfl|rfl|rfl
 ·have:=(g6.refl _).end (λσ q=>z q) p
  have e:rJ []=[]:=rfl
  rw [e];simpa [fy]using this
 ·have:=(YJ (R:=R) (M:=M) (t:=t) (V0:=V0) (CD:=CD) (K:=K) (ct:=ct) (rb:=rb) (b:=b) (got:=got) (by lia) (by lia)).end (λσ q=>z q) p
  have e:rJ [117,32,118]=[(1,[117,32,118])]:=rfl
  rw [e];simpa [fy,toks]using this
 ·have:=((YH (R:=R) (M:=M) (t:=t) (V0:=V0) (CD:=CD) (K:=K) (ct:=ct) (rb:=rb) (b:=b) (got:=got) (by lia) (by lia)).trans (d_w (V0:=V0) (by simp;lia) (by lia))).end (λσ q=>z q) p
  have e:rJ [10,32,119,62]=[(2,[10,32]),(1,[119,62])]:=rfl
  rw [e];simpa [fy,toks]using this
 ·have:=(YI (R:=R) (M:=M) (t:=t) (V0:=V0) (CD:=CD) (K:=K) (ct:=ct) (rb:=rb) (b:=b) (got:=got) (by lia) (by lia)).end (λσ q=>z q) p
  have e:rJ [32]=[(2,[32])]:=rfl
  rw [e];simpa [fy,toks]using this
end
theorem GS {T:St->Option (Bool×St)} {B:St->Option (Fl×St)} {ρ:St} :∀(k n:Nat) (σ τ:Nat->St),(∀j,j<k->T (σ j)=some (true,τ j)/\B (τ j)=some (.nx,σ (j+1)))->T (σ k)=some (false,ρ)->k<n->fc n T B (σ 0)=some (.nx,ρ)
 |_,0,_,_,_,_,h=>absurd h (Nat.not_lt_zero _)
 |0,n+1,σ,τ,_,h,_=>tV h
 |k+1,n+1,σ,τ,hs,h,hn=>wj (hs 0 (Nat.succ_pos _)).1 (hs 0 (Nat.succ_pos _)).2 (GS k n (λj=>σ (j+1)) (λj=>τ (j+1)) (λj hj=>hs (j+1) (Nat.succ_lt_succ hj)) h (Nat.lt_of_succ_lt_succ hn))
theorem GJ {q:Nat->Bool} :∀{l:List Nat} {j:Nat},j<(l.takeWhile q).length->∃c,l[j]?=some c/\q c=true
 |[],_,h=>by simp at h
 |c::r,j,h=>by
  rw [List.takeWhile_cons]at h
  split at h
  ·rename_i hc
   cases j with
   |zero=>exact⟨c,rfl,hc⟩
   |succ j=>simpa using GJ (l:=r) (j:=j) (by simpa using h)
  ·simp at h
theorem Ma {q:Nat->Bool} :∀{l:List Nat},l[(l.takeWhile q).length]?=none\/∃c,l[(l.takeWhile q).length]?=some c/\q c=false
 |[]=>.inl rfl
 |c::r=>by
  rw [List.takeWhile_cons]
  split
  ·simpa using Ma (l:=r)
  ·rename_i hc;exact .inr ⟨c,rfl,by simpa using hc⟩
theorem dR {H:List AO} {o:nR} {a b:AV} {x:Bool} (h:uq o a b=some x):jU H o a b=some x:=by
 unfold jU
 rw [h]
 rfl
theorem sC {m n:Nat} (h:m<n):idx (m:Int) n=some m:=by
 have h0:decide ((0:Int)<=(m:Int))=true:=decide_eq_true (Int.natCast_nonneg m)
 have h1:decide ((m:Int).toNat<n)=true:=decide_eq_true h
 unfold idx
 rw [h0,h1]
 rfl
theorem N3 (H:List AO) {t:List Nat} {m:Nat} {c:Nat} (h:t[m]?=some c):nM H (.str t) (.int (m:Int))=some (.str [c]):=by
 obtain⟨hm,e⟩:=List.getElem?_eq_some_iff.mp h
 show((idx (m:Int) t.length).map λj=>AV.str [t.getD j 0])=_
 rw [sC hm]
 show some (AV.str [t.getD m 0])=_
 rw [List.getD_eq_getElem?_getD,h]
 rfl
theorem Og {t:List Nat} {m:Nat} {c:Nat} (h:t[m]?=some c):m<t.length:=(List.getElem?_eq_some_iff.mp h).1
theorem gh (a n:Nat):dh (a:Int) n=min a n:=by
 unfold dh clipAt
 rw [if_neg (by lia)]
 omega
theorem yq (t:List Nat) (a b:Nat) (h:a<=b):eM t (min a t.length) (min b t.length)=(t.drop a).take (b-a):=by
 unfold eM
 by_cases ha:a<=t.length
 ·rw [Nat.min_eq_left ha]
  have:t.take (min b t.length)=t.take b:=by
   by_cases hb:b<=t.length
   ·rw [Nat.min_eq_left hb]
   ·rw [Nat.min_eq_right (by lia),List.take_length,List.take_of_length_le (by lia)]
  rw [this,List.drop_take]
 ·rw [Nat.min_eq_right (by lia:t.length<=a),Nat.min_eq_right (by lia:t.length<=b),List.take_length,List.drop_length,List.drop_of_length_le (by lia)]
  simp
theorem x3 (H:List AO) (t:List Nat) (a b:Nat) (h:a<=b):vx H (.str t) (.int (a:Int)) (.int (b:Int))=some (.str ((t.drop a).take (b-a))):=by
 show some (AV.str (eM t (dh (a:Int) t.length) (dh (b:Int) t.length)))=_
 rw [gh,gh,yq t a b h]
theorem GW (H:List AO) (t:List Nat) (b:Nat):vx H (.str t) .none (.int (b:Int))=some (.str (t.take b)):=by
 show some (AV.str (eM t 0 (dh (b:Int) t.length)))=_
 have:=yq t 0 b (Nat.zero_le _)
 rw [Nat.zero_min]at this
 rw [gh,this]
 rfl
theorem GV (H:List AO) (t:List Nat) (a:Nat):vx H (.str t) (.int (a:Int)) .none=some (.str (t.drop a)):=by
 show some (AV.str (eM t (dh (a:Int) t.length) t.length))=_
 rw [gh]
 unfold eM
 rw [List.take_length]
 by_cases ha:a<=t.length
 ·rw [Nat.min_eq_left ha]
 ·rw [Nat.min_eq_right (by lia),List.drop_length,List.drop_of_length_le (by lia)]
theorem IT (l:List Nat):o3 (.str (l.take 1)) [.str [32],.str [10],.str [47],.str [62]]=some (FF l):=by
 cases l with
 |nil=>rfl
 |cons e r=>
  show some (Nat.beq 32 e&&true||(Nat.beq 10 e&&true||(Nat.beq 47 e&&true||(Nat.beq 62 e&&true||false))))=some (gG e)
  simp only [BT.beq_eq,gG,Bool.and_true,Bool.or_false]
  have h :∀a:Nat,decide (a=e)=(e==a):=λa=>by
   by_cases z:a=e
   ·subst z;simp
   ·rw [decide_eq_false z];symm;simpa using λh=>z h.symm
  rw [h,h,h,h,Bool.or_assoc,Bool.or_assoc]
section
variable {G:cy} {σ σ1:St} {e e':Ex} {es:fe} {v:AV} {H1:List AO} {V1:List (Nm×AV)} {O1:List Nat} {b:Bool} {z:Option (AV×St)}
theorem RX (h:rO G es σ=z):ev G (.and es) σ=z:=h
theorem ZT (h:ev G e σ=some (v,σ1)):rO G (.cons e .nil) σ=some (v,σ1):=aA h rfl
theorem Xk (h:ev G e σ=some (.bool true,σ1)) (k:rO G (.cons e' es) σ1=z):rO G (.cons e (.cons e' es)) σ=z:=aA h (aA (x:=true) rfl k)
end
theorem wk {N:Nat} {t:St->Option (Bool×St)} {g:St->Option (Fl×St)} {σ σ1 σ2:St} {v:AV} (h:t σ=some (true,σ1)) (j:g σ1=some (.rt v,σ2)):fc (N+1) t g σ=some (.rt v,σ2):=aA h (aA j rfl)
noncomputable def cY (P:List Nat->Bool):List Nat->Nat
 |[]=>0
 |c::r=>cond (P (c::r)) 0 (cY P r+1)
theorem m8 (P:List Nat->Bool) :∀l:List Nat,cY P l<=l.length
 |[]=>Nat.le_refl _
 |c::r=>by
  show cond (P (c::r)) 0 (cY P r+1)<=r.length+1
  have:=m8 P r
  cases P (c::r)<;>(first|exact Nat.zero_le _|exact Nat.succ_le_succ this)
noncomputable def mt (w:List Nat) (wh:Bool) (s:List Nat):Bool:=aM w s&&(!wh||FF (s.drop w.length))
theorem rz :∀(w s:List Nat),bQ (s.take w.length) w=aM w s
 |[],s=>rfl
 |_::_,[]=>rfl
 |a::w,b::s=>by
  show(Nat.beq b a&&bQ (s.take w.length) w)=(Nat.beq a b&&aM w s)
  rw [rz w s,BT.beq_eq,BT.beq_eq,show decide (b=a)=decide (a=b)from decide_eq_decide.mpr ⟨Eq.symm,Eq.symm⟩]
noncomputable def VS (sm w:List Nat) (wh:Bool) (p:Nat):List (Nm×AV):=[(.bc,.str sm),(.ah,.int (p:Int)),(.cJ,.str w),(.iH,.bool wh),(.b8,.int (sm.length:Int)),(.fE,.int (w.length:Int))]
noncomputable def Yj:Ex:=(.cmp (.v .ah) (.cons .lt (.v .b8) .nil))
noncomputable def skC:Ex:=(.and (.cons (.cmp (.sl (.v .bc) (.v .ah) (.bin .add (.v .ah) (.v .fE))) (.cons .eq (.v .cJ) .nil)) (.cons (.or (.cons (.not (.v .iH)) (.cons (.cmp (.sl (.v .bc) (.bin .add (.v .ah) (.v .fE)) (.bin .add (.bin .add (.v .ah) (.v .fE)) (.c (.int 1)))) (.cons .isin (.g .dK) .nil)) .nil))) .nil)))
noncomputable def ZJ:c5:=(.cons (.ite skC (.cons (.ret (.v .ah)) .nil) .nil) (.cons (.aug (.v .ah) .add (.c (.int 1))) .nil))
section
variable {H:List AO} {s w:List Nat} {wh:Bool} {O:List Nat}
theorem WX (p:Nat):cZ G4 skC ⟨H,VS s w wh p,O⟩=some (mt w wh (s.drop p),⟨H,VS s w wh p,O⟩):=by
 have g:G4.glob .dK=some (.tup [.str [32],.str [10],.str [47],.str [62]]):=by kernel_rfl
 have s1:=x3 H s p (p+w.length) (Nat.le_add_right _ _)
 rw [Nat.add_sub_cancel_left]at s1
 have s2:=x3 H s (p+w.length) (p+w.length+1) (Nat.le_add_right _ _)
 rw [Nat.add_sub_cancel_left,<-List.drop_drop]at s2
 have a1:cZ G4 (.cmp (.sl (.v .bc) (.v .ah) (.bin .add (.v .ah) (.v .fE))) (.cons .eq (.v .cJ) .nil)) ⟨H,VS s w wh p,O⟩=some (aM w (s.drop p),⟨H,VS s w wh p,O⟩):=
  cN (mG (bZ rfl) (bZ rfl) (eF (os:=[]) (y:=.int ((p+w.length:Nat):Int)) (bZ rfl) (bZ rfl) rfl) s1) (fM (bZ (v:=.str w) rfl) (dR (congrArg some (rz w (s.drop p)))))
 have a2:cZ G4 (.cmp (.sl (.v .bc) (.bin .add (.v .ah) (.v .fE)) (.bin .add (.bin .add (.v .ah) (.v .fE)) (.c (.int 1)))) (.cons .isin (.g .dK) .nil)) ⟨H,VS s w wh p,O⟩=some (FF ((s.drop p).drop w.length),⟨H,VS s w wh p,O⟩):=
  cN (mG (bZ rfl) (eF (os:=[]) (y:=.int ((p+w.length:Nat):Int)) (bZ rfl) (bZ rfl) rfl) (eF (os:=[]) (y:=.int ((p+w.length+1:Nat):Int)) (eF (os:=[]) (y:=.int ((p+w.length:Nat):Int)) (bZ rfl) (bZ rfl) rfl) rfl rfl) s2) (fM (ll g) (dR (IT _)))
 unfold mt
 have a3:cZ G4 (.or (.cons (.not (.v .iH)) (.cons (.cmp (.sl (.v .bc) (.bin .add (.v .ah) (.v .fE)) (.bin .add (.bin .add (.v .ah) (.v .fE)) (.c (.int 1)))) (.cons .isin (.g .dK) .nil)) .nil))) ⟨H,VS s w wh p,O⟩=some (!wh||FF ((s.drop p).drop w.length),⟨H,VS s w wh p,O⟩):=by
  refine rE (or_cons (ni (l9 (b:=wh) rfl rfl)) ?_)
  cases wh with
  |false=>rfl
  |true=>
   refine or_cons a2 ?_
   show cond _ (some (true,_)) (some (false,_))=some (FF ((s.drop p).drop w.length),_)
   cases FF ((s.drop p).drop w.length)<;>rfl
 refine iU (eE a1 ?_)
 cases aM w (s.drop p)with
 |false=>rfl
 |true=>
  refine eE a3 ?_
  show cond (!wh||FF ((s.drop p).drop w.length)) (some (true,_)) (some (false,_))=some (!wh||FF ((s.drop p).drop w.length),_)
  cases (!wh||FF ((s.drop p).drop w.length))<;>rfl
theorem zA :∀(l:List Nat) (p N:Nat),s.drop p=l->p<=s.length->l.length<N->
  ∃fl,fc N (cZ G4 Yj) (cG G4 ZJ) ⟨H,VS s w wh p,O⟩=some (fl,⟨H,VS s w wh (p+cY (mt w wh) l),O⟩)/\(fl=.nx\/fl=.rt (.int ((p+cY (mt w wh) l:Nat):Int)))
 |_,_,0,_,_,h=>absurd h (Nat.not_lt_zero _)
 |[],p,N+1,e,hp,_=>by
  have:s.length<=p:=by have:=congrArg List.length e;rw [List.length_drop,List.length_nil]at this;lia
  exact⟨.nx,tV (cN (bZ rfl) (fM (bZ rfl) (dR (congrArg some (decide_eq_false (by lia)))))),.inl rfl⟩
 |c::r,p,N+1,e,hp,h=>by
  have hlt:p<s.length:=by have:=congrArg List.length e;rw [List.length_drop,List.length_cons]at this;lia
  have t:cZ G4 Yj ⟨H,VS s w wh p,O⟩=some (true,⟨H,VS s w wh p,O⟩):=cN (bZ rfl) (fM (bZ rfl) (dR (congrArg some (decide_eq_true (by lia)))))
  have c0:=WX (H:=H) (s:=s) (w:=w) (wh:=wh) (O:=O) p
  rw [e]at c0
  have e':s.drop (p+1)=r:=by rw [<-List.drop_drop,e];rfl
  show∃fl,fc (N+1) _ _ _=some (fl,⟨H,VS s w wh (p+cond (mt w wh (c::r)) 0 (cY (mt w wh) r+1)),O⟩)/\(fl=.nx\/fl=.rt (.int ((p+cond (mt w wh (c::r)) 0 (cY (mt w wh) r+1):Nat):Int)))
  cases hm:mt w wh (c::r)with
  |true=>
   rw [hm]at c0
   exact⟨.rt (.int (p:Int)),wk t (dW c0 (ik (bZ rfl))),.inr rfl⟩
  |false=>
   rw [hm]at c0
   obtain⟨fl,h1,h2⟩:=zA r (p+1) N e' hlt (Nat.lt_of_succ_lt_succ h)
   have ea:p+1+cY (mt w wh) r=p+cond false 0 (cY (mt w wh) r+1):=by show _=p+(_+1);lia
   rw [ea]at h1 h2
   exact⟨fl,wj t (dW c0 (aK (pN rfl rfl rfl) rfl)) h1,h2⟩
theorem Ga (p:Nat) (hp:p<=s.length) (hl:s.length<=1000000):kE G4 rX [.str s,.int (p:Int),.str w,.bool wh] H=some (.int ((p+cY (mt w wh) (s.drop p):Nat):Int),H,[]):=by
 have g1:G4.glob .ba=some (.bi .len):=by kernel_rfl
 obtain⟨fl,h1,h2⟩:=zA (H:=H) (s:=s) (w:=w) (wh:=wh) (O:=[]) (s.drop p) p 2000001 rfl hp (by rw [List.length_drop];omega)
 have body:cG G4 (.cons (.nN Yj ZJ) (.cons (.ret (.v .ah)) .nil)) ⟨H,VS s w wh p,[]⟩=some (.rt (.int ((p+cY (mt w wh) (s.drop p):Nat):Int)),⟨H,VS s w wh (p+cY (mt w wh) (s.drop p)),[]⟩):=by
  rcases h2 with rfl|rfl
  ·exact pS h1 (ik (bZ rfl))
  ·exact aA h1 rfl
 refine k9 (V:=[(.bc,.str s),(.ah,.int (p:Int)),(.cJ,.str w),(.iH,.bool wh)]) rfl (show cG G4 (.cons (.asg (.v .b8) (.call (.g .ba) (.cons (.v .bc) .nil))) (.cons (.asg (.v .fE) (.call (.g .ba) (.cons (.v .cJ) .nil))) (.cons (.nN Yj ZJ) (.cons (.ret (.v .ah)) .nil)))) _=_ from
  aK (b9 (V1:=[(.bc,.str s),(.ah,.int (p:Int)),(.cJ,.str w),(.iH,.bool wh)]) (dC (ll g1) (aU (bZ (v:=.str s) rfl) rfl) (kD (y:=.int (s.length:Int)) (os:=[]) rfl)))
   (aK (b9 (dC (ll g1) (aU (bZ (v:=.str w) rfl) rfl) (kD (y:=.int (w.length:Int)) (os:=[]) rfl))) body)) rfl
end
noncomputable def mn:List Nat->List Nat->List AV
 |rb,[]=>[bE rb]
 |rb,c::r=>bE rb::mn (c::rb) r
theorem zh :∀(l rb:List Nat) (i:Nat),i<=l.length->(mn rb l)[i]?=some (bE ((l.take i).reverse++rb))
 |[],rb,i,h=>by
  have:i=0:=by simpa using h
  subst this;rfl
 |c::r,rb,0,_=>rfl
 |c::r,rb,i+1,h=>by
  rw [mn]
  simp only [List.getElem?_cons_succ]
  rw [zh r (c::rb) i (by simpa using h)]
  simp
theorem JT :∀(l rb:List Nat),(mn rb l).length=l.length+1
 |[],_=>rfl
 |c::r,rb=>by rw [mn,List.length_cons,JT r];rfl
theorem Ke (rb:List Nat):bE (10::rb)=.tup [.int ((kM rb:Int)+1+1),.int 0]:=by
 unfold bE
 rw [yn]
 simp [kM]
theorem Kf {c:Nat} (rb:List Nat) (h:c≠10):bE (c::rb)=.tup [.int ((kM rb:Int)+1),.int ((f9 rb:Int)+1)]:=by
 unfold bE
 rw [qU _ _ h]
 have:kM (c::rb)=kM rb:=by simp [kM,h]
 rw [this];simp
noncomputable def Za:c5:=(.cons (.iN [(.v .dD),(.v .di)] (.ix (.v .a6) (.neg (.c (.int 1))))) (.cons (.exp (.aq (.v .a6) .ak (.cons (.ite (.cmp (.v .f6) (.cons .eq (.c (.str [10])) .nil)) (.tup (.cons (.bin .add (.v .dD) (.c (.int 1))) (.cons (.c (.int 0)) .nil))) (.tup (.cons (.v .dD) (.cons (.bin .add (.v .di) (.c (.int 1))) .nil)))) .nil))) .nil))
theorem JS (R:AO) (acc:List AV) (rb:List Nat) (c:Nat) (V:List (Nm×AV)) (O:List Nat) (h:lk V .a6=some (.a5 1)) :
  ∃V',cG G4 Za ⟨[R,.list (acc++[bE rb])],pt V .f6 (.str [c]),O⟩=some (.nx,⟨[R,.list ((acc++[bE rb])++[bE (c::rb)])],V',((acc++[bE rb]).length+1)::2::O⟩)/\lk V' .a6=some (.a5 1):=by
 have hi:nM [R,.list (acc++[bE rb])] (.a5 1) (.int (-1))=some (bE rb):=by
  show(idx (-1) (acc++[bE rb]).length).map _=_
  have e:(acc++[bE rb]).length=acc.length+1:=List.length_append
  have:idx (-1) (acc.length+1)=some acc.length:=by
   unfold idx
   rw [show decide ((0:Int)<=-1)=false from rfl,show decide ((0:Int)<=-1+((acc.length+1:Nat):Int))=true from decide_eq_true (by lia)]
   show some (-1+((acc.length+1:Nat):Int)).toNat=_
   congr 1
   lia
  rw [e,this]
  show some ((acc++[bE rb]).getD acc.length AV.none)=_
  rw [List.getD_eq_getElem?_getD,List.getElem?_append_right (Nat.le_refl _),Nat.sub_self]
  rfl
 have k1:lk (pt V .f6 (.str [c])) .a6=some (.a5 1):=(bt (by decide)).trans h
 have k2:lk (pt V .f6 (.str [c])) .f6=some (.str [c]):=bp
 generalize pt V .f6 (.str [c])=V1 at k1 k2
 have k3:lk (pt (pt V1 .dD (.int (kM rb+1))) .di (.int (f9 rb))) .a6=some (.a5 1):=(bt (by decide)).trans ((bt (by decide)).trans k1)
 have k4:lk (pt (pt V1 .dD (.int (kM rb+1))) .di (.int (f9 rb))) .f6=some (.str [c]):=(bt (by decide)).trans ((bt (by decide)).trans k2)
 have k5:lk (pt (pt V1 .dD (.int (kM rb+1))) .di (.int (f9 rb))) .dD=some (.int (kM rb+1)):=(bt (by decide)).trans bp
 have k6:lk (pt (pt V1 .dD (.int (kM rb+1))) .di (.int (f9 rb))) .di=some (.int (f9 rb)):=bp
 have st1:ex G4 (.iN [(.v .dD),(.v .di)] (.ix (.v .a6) (.neg (.c (.int 1))))) ⟨[R,.list (acc++[bE rb])],V1,O⟩=some (.nx,⟨[R,.list (acc++[bE rb])],pt (pt V1 .dD (.int (kM rb+1))) .di (.int (f9 rb)),O⟩):=
  mZ (vs:=[.int (kM rb+1),.int (f9 rb)]) (jO (bZ k1) (yJ (j:=1) rfl) hi) (Ce (Ce qQ))
 refine⟨pt (pt V1 .dD (.int (kM rb+1))) .di (.int (f9 rb)),aK st1 ?_,k3⟩
 generalize pt (pt V1 .dD (.int (kM rb+1))) .di (.int (f9 rb))=V2 at k3 k4 k5 k6
 have hv:ev G4 (.ite (.cmp (.v .f6) (.cons .eq (.c (.str [10])) .nil)) (.tup (.cons (.bin .add (.v .dD) (.c (.int 1))) (.cons (.c (.int 0)) .nil))) (.tup (.cons (.v .dD) (.cons (.bin .add (.v .di) (.c (.int 1))) .nil)))) ⟨[R,.list (acc++[bE rb])],V2,O⟩=some (bE (c::rb),⟨[R,.list (acc++[bE rb])],V2,2::O⟩):=by
  by_cases hc:c=10
  ·subst hc
   rw [Ke]
   exact kH (b:=true) (cN (bZ k4) (fM rfl rfl)) (i8 (vs:=[.int (kM rb+1+1),.int 0]) (aU (eF (os:=[]) (bZ k5) rfl rfl) (aU rfl rfl)))
  ·rw [Kf rb hc]
   have hb:bQ [c] [10]=false:=by
    show(Nat.beq c 10&&true)=false
    rw [BT.beq_eq,decide_eq_false hc];rfl
   exact kH (b:=false) (cN (bZ k4) (fM rfl (dR (congrArg some hb)))) (i8 (vs:=[.int (kM rb+1),.int (f9 rb+1)]) (aU (bZ k5) (aU (eF (os:=[]) (bZ k6) rfl rfl) rfl)))
 exact aK (pO (v:=.none) (d0 (bZ k3) (pF g0 rfl) (aU hv rfl) (oQ (os:=[(acc++[bE rb]).length+1]) rfl rfl)) rfl) rfl
theorem zg (R:AO) :∀(l rb:List Nat) (acc:List AV) (V:List (Nm×AV)) (O:List Nat),lk V .a6=some (.a5 1)->acc.length+l.length<=500000->Lm O->
  ∃V' O',jY (hK [.f6] false) (cG G4 Za) (l.map λc=>.str [c]) ⟨[R,.list (acc++[bE rb])],V,O⟩=some (.nx,⟨[R,.list (acc++mn rb l)],V',O'⟩)/\lk V' .a6=some (.a5 1)/\Lm O'
 |[],rb,acc,V,O,h,_,hO=>⟨V,O,rfl,h,hO⟩
 |c::r,rb,acc,V,O,h,hl,hO=>by
  obtain⟨V1,e,h1⟩:=JS R acc rb c V O h
  have el:(acc++[bE rb]).length=acc.length+1:=List.length_append
  rw [List.length_cons]at hl
  obtain⟨V',O',e',h',hO'⟩:=zg R r (c::rb) (acc++[bE rb]) V1 (((acc++[bE rb]).length+1)::2::O) h1 (by lia) (.cons (by show _<=1000000;lia) (.cons (by decide) hO))
  refine⟨V',O',nW (σ1:=⟨_,pt V .f6 (.str [c]),O⟩) rfl e (e'.trans ?_),h',hO'⟩
  rw [List.append_assoc]
  rfl
theorem A7 (R:AO) (t:List Nat) (hl:t.length<=400000) :∃os,kE G4 oI [.str t] [R]=some (.a5 1,[R,.list (mn [] t)],os)/\Lm os:=by
 obtain⟨V',O',e,h,hO⟩:=zg R t [] [] [(.aj,.str t),(.a6,.a5 1)] [1,2] rfl (by rw [List.length_nil];lia) (.cons (by decide) (.cons (by decide) .nil))
 have e1:cG G4 rj ⟨[R],[(.aj,.str t)],[]⟩=cG G4 (.cons (.fr [.f6] false (.v .aj) Za) (.cons (.ret (.v .a6)) .nil)) ⟨[R,.list [bE []]],[(.aj,.str t),(.a6,.a5 1)],[1,2]⟩:=by kernel_rfl
 exact⟨O',k9 rfl (e1.trans (aK (vm (bZ rfl) rfl e) (ik (bZ h)))) rfl,hO⟩
noncomputable def sX:List Nat:=[60,33,45,45]
noncomputable def l7:List Nat:=[45,45,62]
theorem LF (nm s:List Nat):mt (60::47::nm) true s=g7 (some nm) s:=by
 show(aM _ s&&FF (s.drop (nm.length+2)))=(aM _ s&&FF (s.drop (2+nm.length)))
 rw [Nat.add_comm]
theorem LG (w s:List Nat):mt w false s=aM w s:=Bool.and_true _
theorem hJ {P Q:List Nat->Bool} (h :∀s,P s=Q s) :∀l,cY P l=cY Q l
 |[]=>rfl
 |c::r=>by
  show cond (P (c::r)) 0 (cY P r+1)=cond (Q (c::r)) 0 (cY Q r+1)
  rw [h,hJ h r]
theorem pW {P:List Nat->Bool} {c:Nat} {r:List Nat} (h:P (c::r)=true):cY P (c::r)=0:=by
 show cond (P (c::r)) 0 (cY P r+1)=0
 rw [h];rfl
theorem iq {P:List Nat->Bool} {c:Nat} {r:List Nat} (h:P (c::r)=false):cY P (c::r)=cY P r+1:=by
 show cond (P (c::r)) 0 (cY P r+1)=_
 rw [h];rfl
theorem ng {P:List Nat->Bool} :∀(l:List Nat) (k:Nat),k<=cY P l->cY P l=k+cY P (l.drop k)
 |l,0,_=>(Nat.zero_add _).symm
 |[],k+1,h=>absurd h (by show¬k+1<=0;lia)
 |c::r,k+1,h=>by
  cases e:P (c::r)with
  |true=>rw [pW e]at h;exact absurd h (Nat.not_succ_le_zero k)
  |false=>
   rw [iq e]at h ⊢
   rw [ng r k (Nat.le_of_succ_le_succ h)]
   show k+cY P (r.drop k)+1=k+1+cY P (r.drop k)
   lia
theorem tm {P:List Nat->Bool} :∀(l:List Nat),cY P l<l.length->P (l.drop (cY P l))=true
 |[],h=>absurd h (Nat.lt_irrefl _)
 |c::r,h=>by
  cases e:P (c::r)with
  |true=>rw [pW e];exact e
  |false=>
   rw [iq e]at h ⊢
   exact tm r (Nat.lt_of_succ_lt_succ h)
theorem pV :∀(l:List Nat),cY (g7 none) l=l.length
 |[]=>rfl
 |c::r=>congrArg (·+1) (pV r)
noncomputable def cc (o:Option (List Nat)) (m:Md) (l:List Nat):Nat:=cond (kJ m) l.length (cY (g7 o) l)
section
variable {o:Option (List Nat)}
theorem QT :∀l:List Nat,(cY (g7 o) l<=cY (aM sX) l->SC o .S l=(l.drop (cY (g7 o) l),false))/\(cY (aM sX) l<cY (g7 o) l->SC o .S l=SC o .E (l.drop (cY (aM sX) l+2)))
 |[]=>⟨λ_=>rfl,λh=>absurd h (Nat.lt_irrefl _)⟩
 |d::s=>by
  have ih:=QT s
  cases a:g7 o (d::s)with
  |true=>
   rw [pW a]
   exact⟨λ_=>zU (m:=.S) a,λh=>absurd h (Nat.not_lt_zero _)⟩
  |false=>
   rw [iq a]
   cases b:aM sX (d::s)with
   |true=>
    rw [pW b]
    exact⟨λh=>absurd h (Nat.not_succ_le_zero _),λ_=>rN (m:=.S) a b⟩
   |false=>
    rw [iq b]
    have e:SC o .S (d::s)=SC o .S s:=bN (m:=.S) a b rfl
    exact⟨λh=>e.trans (ih.1 (Nat.le_of_succ_le_succ h)),λh=>e.trans (ih.2 (Nat.lt_of_succ_lt_succ h))⟩
theorem Lc {d:Nat} {s:List Nat} (h:g7 o (d::s)=true):aM l7 (d::s)=false/\tC .E (d::s)=false:=by
 by_cases hd:d=60
 ·subst hd
  refine⟨bO (by decide),?_⟩
  cases s with
  |nil=>rfl
  |cons c s=>
   by_cases hc:c=47
   ·subst hc;exact zC
   ·rw [gp hc]at h;cases h
 ·rw [mA hd]at h;cases h
theorem K0 {m:Md} (hm:m≠.S) :∀l:List Nat,(cc o m l<min (cY (aM l7) l) (cY (tC m) l)->SC o m l=(l.drop (cc o m l),false))/\
  (¬cc o m l<min (cY (aM l7) l) (cY (tC m) l)->cY (aM l7) l<=cY (tC m) l->(cY (aM l7) l=l.length->SC o m l=([],kJ m))/\(cY (aM l7) l<l.length->SC o m l=SC o .S (l.drop (cY (aM l7) l+3))))/\
  (¬cc o m l<min (cY (aM l7) l) (cY (tC m) l)->cY (tC m) l<cY (aM l7) l->SC o m l=SC o (OB m) (l.drop (cY (tC m) l+(kC m+1))))
 |[]=>⟨λh=>absurd h (by show¬cc o m []<min 0 0;lia),λ_ _=>⟨λ_=>rfl,λh=>absurd h (Nat.lt_irrefl _)⟩,λ_ h=>absurd h (Nat.lt_irrefl _)⟩
 |d::s=>by
  have ih:=K0 hm s
  have tb:tB m (d::s)=aM l7 (d::s):=by cases m<;>first|rfl|exact absurd rfl hm
  cases a:tA o m (d::s)with
  |true=>
   have hD:kJ m=false:=by unfold tA at a;cases h:kJ m<;>rw [h]at a<;>first|rfl|cases a
   have ac:g7 o (d::s)=true:=by unfold tA at a;rw [hD]at a;exact a
   have hE:m=.E:=by cases m<;>first|rfl|exact absurd rfl hm|cases hD
   subst hE
   have c0:cc o .E (d::s)=0:=pW ac
   rw [c0,iq (Lc ac).1,iq (Lc ac).2]
   exact⟨λ_=>zU a,λh=>absurd (Nat.zero_lt_of_ne_zero (by lia)) h,λh=>absurd (Nat.zero_lt_of_ne_zero (by lia)) h⟩
  |false=>
   have c1:cc o m (d::s)=cc o m s+1:=by
    unfold cc
    cases hD:kJ m with
    |true=>rfl
    |false=>unfold tA at a;rw [hD]at a;exact iq a
   rw [c1]
   cases b:aM l7 (d::s)with
   |true=>
    rw [pW b]
    refine⟨λh=>absurd h (by lia),λ_ _=>⟨λh=>(nomatch h),λ_=>?_⟩,λ_ h=>absurd h (Nat.not_lt_zero _)⟩
    refine(rN a (tb.trans b)).trans ?_
    cases m<;>first|rfl|exact absurd rfl hm
   |false=>
    rw [iq b]
    cases c:tC m (d::s)with
    |true=>
     rw [pW c]
     exact⟨λh=>absurd h (by lia),λ_ h=>absurd h (Nat.not_succ_le_zero _),λ_ _=>(wx a (tb.trans b) c).trans (by rw [Nat.zero_add];rfl)⟩
    |false=>
     rw [iq c]
     have e:SC o m (d::s)=SC o m s:=bN a (tb.trans b) c
     rw [e,Nat.add_min_add_right]
     refine⟨λh=>ih.1 (Nat.lt_of_add_lt_add_right h),λh h'=>?_,λh h'=>?_⟩
     ·have:=ih.2.1 (λz=>h (Nat.add_lt_add_right z 1)) (Nat.le_of_succ_le_succ h')
      exact⟨λz=>this.1 (Nat.succ.inj z),λz=>this.2 (Nat.lt_of_succ_lt_succ z)⟩
     ·have:=ih.2.2 (λz=>h (Nat.add_lt_add_right z 1)) (Nat.lt_of_succ_lt_succ h')
      rw [Nat.add_right_comm]
      exact this
theorem gn :∀{w x:List Nat},aM w x=true->∃r,x=w++r
 |[],x,_=>⟨x,rfl⟩
 |_::_,[],h=>nomatch h
 |a::w,b::x,h=>by
  have h:=Bool.and_eq_true_iff.mp h
  obtain⟨r,e⟩:=gn h.2
  exact⟨r,by rw [Nat.eq_of_beq_eq_true h.1,e];rfl⟩
theorem BF {m:Md} {x:List Nat} (h:tC m x=true):kC m+1<=cY (aM l7) x:=by
 have key (w:List Nat) (hw :∀a∈w,a≠45) (r:List Nat) (hr:FF r=true):w.length+1<=cY (aM l7) (w++r):=by
  induction w with
  |nil=>
   cases r with
   |nil=>cases hr
   |cons e r=>
    have:e≠45:=λz=>by subst z;cases hr
    rw [List.nil_append,iq (P:=aM l7) (bO this)]
    exact Nat.succ_le_succ (Nat.zero_le _)
  |cons a w ih=>
   rw [List.cons_append,iq (P:=aM l7) (bO (hw a (.head _)))]
   exact Nat.succ_le_succ (ih λb m=>hw b (.tail _ m))
 cases m with
 |S=>cases h
 |E=>
  have h:=Bool.and_eq_true_iff.mp h
  obtain⟨r,rfl⟩:=gn h.1
  exact key (60::eY) (by decide) r h.2
 |D=>
  have h:=Bool.and_eq_true_iff.mp h
  obtain⟨r,rfl⟩:=gn h.1
  exact key (60::47::eY) (by decide) r h.2
theorem LQ {s:List Nat}:tC .E (45::s)=false:=by
 show(aM (60::eY) (45::s)&&FF (s.drop 6))=false
 rw [bO (by decide)]
 rfl
end
noncomputable def gA:List Nat->Option (List Nat)
 |[]=>none
 |c::r=>some (c::r)
noncomputable def X5:c5:=(.cons (.asg (.v .cJ) (.ite (.v .bL) (.c (.str [60,47,115,99,114,105,112,116])) (.c (.str [60,115,99,114,105,112,116])))) (.cons (.asg (.v .dc) (.call (.g .bz) (.cons (.v .bc) (.cons (.v .ah) (.cons (.v .cJ) (.cons (.c (.bool true)) .nil)))))) (.cons (.asg (.v .aP) (.ite (.and (.cons (.v .aO) (.cons (.not (.v .bL)) .nil))) (.call (.g .bz) (.cons (.v .bc) (.cons (.v .ah) (.cons (.bin .add (.c (.str [60,47])) (.v .aO)) (.cons (.c (.bool true)) .nil))))) (.v .b8))) (.cons (.ite (.cmp (.v .aP) (.cons .lt (.call (.g .pg) (.cons (.v .cL) (.cons (.v .dc) .nil))) .nil)) (.cons (.ret (.tup (.cons (.v .aP) (.cons (.c (.bool false)) .nil)))) .nil) .nil) (.cons (.ite (.cmp (.v .dc) (.cons .ge (.v .cL) .nil)) (.cons .brk .nil) .nil) (.cons (.asg (.v .ah) (.bin .add (.bin .add (.v .dc) (.call (.g .ba) (.cons (.v .cJ) .nil))) (.c (.int 1)))) (.cons (.asg (.v .bL) (.not (.v .bL))) .nil)))))))
noncomputable def ZC:c5:=(.cons (.asg (.v .dM) (.call (.g .bz) (.cons (.v .bc) (.cons (.v .ah) (.cons (.c (.str [60,33,45,45])) (.cons (.c (.bool false)) .nil)))))) (.cons (.asg (.v .aP) (.ite (.v .aO) (.call (.g .bz) (.cons (.v .bc) (.cons (.v .ah) (.cons (.bin .add (.c (.str [60,47])) (.v .aO)) (.cons (.c (.bool true)) .nil))))) (.v .b8))) (.cons (.ite (.cmp (.v .aP) (.cons .le (.v .dM) .nil)) (.cons (.ret (.tup (.cons (.v .aP) (.cons (.c (.bool false)) .nil)))) .nil) .nil) (.cons (.asg (.v .cL) (.call (.g .bz) (.cons (.v .bc) (.cons (.bin .add (.v .dM) (.c (.int 2))) (.cons (.c (.str [45,45,62])) (.cons (.c (.bool false)) .nil)))))) (.cons (.asg (.v .ah) (.bin .add (.v .dM) (.c (.int 4)))) (.cons (.asg (.v .bL) (.c (.bool false))) (.cons (.nN (.c (.bool true)) X5) (.cons (.ite (.cmp (.v .cL) (.cons .eq (.v .b8) .nil)) (.cons (.ret (.tup (.cons (.v .b8) (.cons (.v .bL) .nil)))) .nil) .nil) (.cons (.asg (.v .ah) (.bin .add (.v .cL) (.c (.int 3)))) .nil)))))))))
theorem uW:mN=(.cons (.asg (.v .bc) (.aq (.v .aj) .eW .nil)) (.cons (.asg (.v .b8) (.call (.g .ba) (.cons (.v .aj) .nil))) (.cons (.asg (.v .ah) (.c (.int 0))) (.cons (.nN (.c (.bool true)) ZC) .nil)))):=by kernel_rfl
structure VO (s nm:List Nat) (V:List (Nm×AV)):Prop where
 sm:lk V .bc=some (.str s)
 sz:lk V .b8=some (.int (s.length:Int))
 nm:lk V .aO=some (.str nm)
theorem VO.pt {s nm:List Nat} {V:List (Nm×AV)} (h:VO s nm V) {x:Nm} (h1:x≠.bc) (h2:x≠.b8) (h3:x≠.aO) (v:AV):VO s nm (pt V x v):=⟨(bt h1).trans h.sm,(bt h2).trans h.sz,(bt h3).trans h.nm⟩
noncomputable def hw:Md->List Nat|.S=>[]|.E=>60::eY|.D=>60::47::eY
theorem Di:G5.glob .ba=some (.bi .len):=by kernel_rfl
theorem NO:G5.glob .pg=some (.bi .min):=by kernel_rfl
theorem IX:G5.glob .bz=some (.fn .lSeek):=by kernel_rfl
section
variable {H:List AO} {s nm:List Nat} {V:List (Nm×AV)} {O:List Nat} {p:Nat}
theorem vw {pe we:Ex} {w:List Nat} {wh:Bool} {O1 O2:List Nat} (h:VO s nm V) (hp:ev G5 pe ⟨H,V,O⟩=some (.int (p:Int),⟨H,V,O1⟩)) (hw:ev G5 we ⟨H,V,O1⟩=some (.str w,⟨H,V,O2⟩)) (hl:p<=s.length) (hz:s.length<=1000000) :
  ev G5 (.call (.g .bz) (.cons (.v .bc) (.cons pe (.cons we (.cons (.c (.bool wh)) .nil))))) ⟨H,V,O⟩=some (.int ((p+cY (mt w wh) (s.drop p):Nat):Int),⟨H,V,O2⟩):=
 dC (ll IX) (aU (bZ h.sm) (aU hp (aU hw (aU rfl rfl)))) (su (O':=[]) (Ga p hl hz))
theorem skn {P:List Nat->Bool}:p+cY P (s.drop p)<=max p s.length:=by
 have:=m8 P (s.drop p)
 rw [List.length_drop]at this
 omega
theorem LI (h:VO s nm V):ev G5 (.bin .add (.c (.str [60,47])) (.v .aO)) ⟨H,V,O⟩=some (.str (60::47::nm),⟨H,V,(2+nm.length)::O⟩):=eF (os:=[2+nm.length]) rfl (bZ h.nm) rfl
theorem lC (hl:p<=s.length):p+(s.drop p).length=s.length:=by rw [List.length_drop];lia
theorem RL (h:VO s nm V) (hpl:lk V .ah=some (.int (p:Int))) (hl:p<=s.length) (hz:s.length<=1000000) (hn:nm.length<=10) :
  ∃os,Lm os/\ev G5 (.ite (.v .aO) (.call (.g .bz) (.cons (.v .bc) (.cons (.v .ah) (.cons (.bin .add (.c (.str [60,47])) (.v .aO)) (.cons (.c (.bool true)) .nil))))) (.v .b8)) ⟨H,V,O⟩=some (.int ((p+cY (g7 (gA nm)) (s.drop p):Nat):Int),⟨H,V,os++O⟩):=by
 cases nm with
 |nil=>
  refine⟨[],.nil,kH (b:=false) (l9 h.nm rfl) ?_⟩
  rw [show cY (g7 (gA [])) (s.drop p)=(s.drop p).length from pV _,lC hl]
  exact bZ (G:=G5) (x:=.b8) h.sz
 |cons c r=>
  refine⟨[2+(c::r).length],.cons (by show _<=1000000;lia) .nil,kH (b:=true) (l9 h.nm rfl) ?_⟩
  rw [show cY (g7 (gA (c::r))) (s.drop p)=cY (mt (60::47::c::r) true) (s.drop p)from hJ (λx=>(LF _ x).symm) _]
  exact vw h (bZ hpl) (LI h) hl hz
theorem Nl {m:Md} {q:Nat} (h:VO s nm V) (hpl:lk V .ah=some (.int (p:Int))) (hd:lk V .bL=some (.bool (kJ m))) (hl:p<=s.length) (hq:q<=s.length) (hz:s.length<=1000000) (hn:nm.length<=10) (hc:kJ m=false->p+cY (g7 (gA nm)) (s.drop p)=q+cY (g7 (gA nm)) (s.drop q)) :
  ∃os,Lm os/\ev G5 (.ite (.and (.cons (.v .aO) (.cons (.not (.v .bL)) .nil))) (.call (.g .bz) (.cons (.v .bc) (.cons (.v .ah) (.cons (.bin .add (.c (.str [60,47])) (.v .aO)) (.cons (.c (.bool true)) .nil))))) (.v .b8)) ⟨H,V,O⟩=some (.int ((q+cc (gA nm) m (s.drop q):Nat):Int),⟨H,V,os++O⟩):=by
 have size (b:Bool) (hb:b=false) (ht:cZ G5 (.and (.cons (.v .aO) (.cons (.not (.v .bL)) .nil))) ⟨H,V,O⟩=some (b,⟨H,V,O⟩)) (e:cc (gA nm) m (s.drop q)=(s.drop q).length) :∃os,Lm os/\ev G5 (.ite (.and (.cons (.v .aO) (.cons (.not (.v .bL)) .nil))) (.call (.g .bz) (.cons (.v .bc) (.cons (.v .ah) (.cons (.bin .add (.c (.str [60,47])) (.v .aO)) (.cons (.c (.bool true)) .nil))))) (.v .b8)) ⟨H,V,O⟩=some (.int ((q+cc (gA nm) m (s.drop q):Nat):Int),⟨H,V,os++O⟩):=by
  subst hb
  rw [e,lC hq]
  exact⟨[],.nil,kH ht (bZ (G:=G5) (x:=.b8) h.sz)⟩
 cases nm with
 |nil=>exact size false rfl (iU (eE (l9 h.nm rfl) rfl)) (by unfold cc;cases kJ m<;>first|rfl|exact pV _)
 |cons c r=>
  have t2:cZ G5 (.and (.cons (.v .aO) (.cons (.not (.v .bL)) .nil))) ⟨H,V,O⟩=some (!kJ m,⟨H,V,O⟩):=by
   refine iU (eE (b:=true) (l9 h.nm rfl) (eE (ni (l9 hd rfl)) ?_))
   show cond (!kJ m) (some (true,_)) (some (false,_))=some (!kJ m,_)
   cases kJ m<;>rfl
  cases hm:kJ m with
  |true=>
   rw [hm]at t2
   exact size false rfl t2 (by unfold cc;rw [hm];rfl)
  |false=>
   rw [hm]at t2
   refine⟨[2+(c::r).length],.cons (by show _<=1000000;lia) .nil,kH (b:=true) t2 ?_⟩
   rw [show q+cc (gA (c::r)) m (s.drop q)=p+cY (mt (60::47::c::r) true) (s.drop p)by
    unfold cc
    rw [hm]
    exact(hc hm).symm.trans (congrArg (p+·) (hJ (λx=>(LF _ x).symm) _))]
   exact vw h (bZ hpl) (LI h) hl hz
noncomputable def InR (s nm:List Nat) (S:Nat) (z:List Nat×Bool) (fl:Fl) (V:List (Nm×AV)):Prop:=
 (∃cl:Nat,fl=.rt (.tup [.int (cl:Int),.bool false])/\cl<=s.length/\z=(s.drop cl,false))\/(fl=.nx/\VO s nm V/\lk V .cL=some (.int (S:Int))/\∃d,lk V .bL=some (.bool d)/\(S=s.length->z=([],d))/\(S<s.length->z=SC (gA nm) .S (s.drop (S+3))))
theorem aaa {l p q N:Nat} (h:l-p<N+1) (h1:p<q) (h2:q<=l):l-q<N:=Nat.lt_of_lt_of_le (Nat.sub_lt_sub_left (Nat.lt_of_lt_of_le h1 h2) h1) (Nat.le_of_lt_succ h)
theorem inner (hz:s.length<=1000000) (hn:nm.length<=10) (S:Nat) :∀(N:Nat) (m:Md) (q p:Nat) (V:List (Nm×AV)) (O:List Nat) (fu:Nat),m≠.S->s.length-q<N->N<=fu->VO s nm V->lk V .ah=some (.int (p:Int))->lk V .cL=some (.int (S:Int))->lk V .bL=some (.bool (kJ m))->
  p<=s.length->q<=s.length->S=q+cY (aM l7) (s.drop q)->p+cY (tC m) (s.drop p)=q+cY (tC m) (s.drop q)->(kJ m=false->p+cY (g7 (gA nm)) (s.drop p)=q+cY (g7 (gA nm)) (s.drop q))->Lm O->
  ∃fl V' O',fc fu (cZ G5 (.c (.bool true))) (cG G5 X5) ⟨H,V,O⟩=some (fl,⟨H,V',O'⟩)/\Lm O'/\InR s nm S (SC (gA nm) m (s.drop q)) fl V'
 |0,_,_,_,_,_,_,_,h,_,_,_,_,_,_,_,_,_,_,_=>absurd h (Nat.not_lt_zero _)
 |_+1,_,_,_,_,_,0,_,_,h,_,_,_,_,_,_,_,_,_,_=>absurd h (Nat.not_succ_le_zero _)
 |N+1,m,q,p,V,O,fu+1,hm,hN,hf,hv,hpl,hsh,hd,hp,hq,eS,eu,ec,hO=>by
  have tt:cZ G5 (.c (.bool true)) ⟨H,V,O⟩=some (true,⟨H,V,O⟩):=rfl
  obtain⟨F1,F2,F3⟩:=K0 (o:=gA nm) hm (s.drop q)
  have hu:=m8 (tC m) (s.drop q)
  have hh:=m8 (aM l7) (s.drop q)
  have hdl:=lC hq
  have i1:ex G5 (.asg (.v .cJ) (.ite (.v .bL) (.c (.str [60,47,115,99,114,105,112,116])) (.c (.str [60,115,99,114,105,112,116])))) ⟨H,V,O⟩=some (.nx,⟨H,pt V .cJ (.str (hw m)),O⟩):=by
   refine b9 (kH (l9 hd rfl) ?_)
   cases m<;>first|rfl|exact absurd rfl hm
  have v1:=hv.pt (x:=.cJ) (by decide) (by decide) (by decide) (.str (hw m))
  have a1:lk (pt V .cJ (.str (hw m))) .cJ=some (.str (hw m)):=bp
  have b1 :∀{x:Nm},x≠.cJ->lk (pt V .cJ (.str (hw m))) x=lk V x:=λh=>bt λz=>h z.symm
  generalize pt V .cJ (.str (hw m))=V1 at i1 v1 a1 b1
  have i2:ex G5 (.asg (.v .dc) (.call (.g .bz) (.cons (.v .bc) (.cons (.v .ah) (.cons (.v .cJ) (.cons (.c (.bool true)) .nil)))))) ⟨H,V1,O⟩=some (.nx,⟨H,pt V1 .dc (.int ((q+cY (tC m) (s.drop q):Nat):Int)),O⟩):=by
   rw [<-eu,show cY (tC m) (s.drop p)=cY (mt (hw m) true) (s.drop p)from hJ (λx=>by cases m<;>first|rfl|exact absurd rfl hm) _]
   exact b9 (vw v1 (bZ ((b1 (by decide)).trans hpl)) (bZ a1) hp hz)
  have v2:=v1.pt (x:=.dc) (by decide) (by decide) (by decide) (.int ((q+cY (tC m) (s.drop q):Nat):Int))
  have a2:lk (pt V1 .dc (.int ((q+cY (tC m) (s.drop q):Nat):Int))) .dc=some (.int ((q+cY (tC m) (s.drop q):Nat):Int)):=bp
  have b2 :∀{x:Nm},x≠.dc->lk (pt V1 .dc (.int ((q+cY (tC m) (s.drop q):Nat):Int))) x=lk V1 x:=λh=>bt λz=>h z.symm
  generalize pt V1 .dc (.int ((q+cY (tC m) (s.drop q):Nat):Int))=V2 at i2 v2 a2 b2
  obtain⟨os,hos,e3⟩:=Nl (H:=H) (O:=O) (m:=m) (q:=q) v2 ((b2 (by decide)).trans ((b1 (by decide)).trans hpl)) ((b2 (by decide)).trans ((b1 (by decide)).trans hd)) hp hq hz hn ec
  have i3:=b9 (x:=.aP) e3
  have v3:=v2.pt (x:=.aP) (by decide) (by decide) (by decide) (.int ((q+cc (gA nm) m (s.drop q):Nat):Int))
  have a3:lk (pt V2 .aP (.int ((q+cc (gA nm) m (s.drop q):Nat):Int))) .aP=some (.int ((q+cc (gA nm) m (s.drop q):Nat):Int)):=bp
  have b3 :∀{x:Nm},x≠.aP->lk (pt V2 .aP (.int ((q+cc (gA nm) m (s.drop q):Nat):Int))) x=lk V2 x:=λh=>bt λz=>h z.symm
  generalize pt V2 .aP (.int ((q+cc (gA nm) m (s.drop q):Nat):Int))=V3 at i3 v3 a3 b3
  have kt:lk V3 .dc=some (.int ((q+cY (tC m) (s.drop q):Nat):Int)):=(b3 (by decide)).trans a2
  have ks:lk V3 .cL=some (.int (S:Int)):=(b3 (by decide)).trans ((b2 (by decide)).trans ((b1 (by decide)).trans hsh))
  have kd:lk V3 .bL=some (.bool (kJ m)):=(b3 (by decide)).trans ((b2 (by decide)).trans ((b1 (by decide)).trans hd))
  have kh:lk V3 .cJ=some (.str (hw m)):=(b3 (by decide)).trans ((b2 (by decide)).trans a1)
  clear b1 b2 b3 a1 a2 hpl hsh hd v1 v2 hv
  have hO3:Lm (os++O):=hos.app hO
  generalize os++O=O3 at i3 hO3
  subst eS
  generalize hcc:cc (gA nm) m (s.drop q)=c at *
  generalize hhh:cY (aM l7) (s.drop q)=h at *
  generalize huu:cY (tC m) (s.drop q)=u at *
  have t4:cZ G5 (.cmp (.v .aP) (.cons .lt (.call (.g .pg) (.cons (.v .cL) (.cons (.v .dc) .nil))) .nil)) ⟨H,V3,O3⟩=some (decide (c<min h u),⟨H,V3,O3⟩):=by
   have hb:BL H .min [.int ((q+h:Nat):Int),.int ((q+u:Nat):Int)]=some (.int (min ((q+h:Nat):Int) ((q+u:Nat):Int)),[]):=rfl
   exact cN (bZ a3) (fM (dC (ll NO) (aU (bZ ks) (aU (bZ kt) rfl)) (kD (os:=[]) hb)) (dR (congrArg some (decide_eq_decide.mpr (by omega)))))
  have t5:cZ G5 (.cmp (.v .dc) (.cons .ge (.v .cL) .nil)) ⟨H,V3,O3⟩=some (decide (h<=u),⟨H,V3,O3⟩):=
   cN (bZ kt) (fM (bZ ks) (dR (congrArg some (decide_eq_decide.mpr (by lia)))))
  have run {z:Option (Fl×St)} (k:cG G5 (.cons (.ite (.cmp (.v .aP) (.cons .lt (.call (.g .pg) (.cons (.v .cL) (.cons (.v .dc) .nil))) .nil)) (.cons (.ret (.tup (.cons (.v .aP) (.cons (.c (.bool false)) .nil)))) .nil) .nil) (.cons (.ite (.cmp (.v .dc) (.cons .ge (.v .cL) .nil)) (.cons .brk .nil) .nil) (.cons (.asg (.v .ah) (.bin .add (.bin .add (.v .dc) (.call (.g .ba) (.cons (.v .cJ) .nil))) (.c (.int 1)))) (.cons (.asg (.v .bL) (.not (.v .bL))) .nil)))) ⟨H,V3,O3⟩=z):cG G5 X5 ⟨H,V,O⟩=z:=aK i1 (aK i2 (aK i3 k))
  by_cases h4:c<min h u
  ·rw [decide_eq_true h4]at t4
   refine⟨.rt (.tup [.int ((q+c:Nat):Int),.bool false]),V3,2::O3,wk tt (run (dW t4 (ik (i8 (vs:=[.int ((q+c:Nat):Int),.bool false]) (aU (bZ a3) rfl))))),.cons (by decide) hO3,.inl ⟨q+c,rfl,by omega,?_⟩⟩
   rw [F1 h4,List.drop_drop]
  ·rw [decide_eq_false h4]at t4
   by_cases h5:h<=u
   ·rw [decide_eq_true h5]at t5
    refine⟨.nx,V3,O3,Mf tt (run (dW t4 (dW t5 xF))),hO3,.inr ⟨rfl,v3,ks,kJ m,kd,λe=>(F2 h4 h5).1 (by lia),λe=>?_⟩⟩
    rw [(F2 h4 h5).2 (by lia),List.drop_drop,Nat.add_assoc]
   ·rw [decide_eq_false h5]at t5
    have hlt:u<(s.drop q).length:=by lia
    have tu:tC m ((s.drop q).drop u)=true:=huu▸tm (s.drop q) (huu.symm▸hlt)
    have ts:=BF tu
    have hsp:h=u+cY (aM l7) ((s.drop q).drop u):=hhh▸ng (s.drop q) u (by rw [hhh];lia)
    have hle:=m8 (aM l7) ((s.drop q).drop u)
    have hkl:(hw m).length=kC m:=by cases m<;>first|rfl|exact absurd rfl hm
    have i6:ex G5 (.asg (.v .ah) (.bin .add (.bin .add (.v .dc) (.call (.g .ba) (.cons (.v .cJ) .nil))) (.c (.int 1)))) ⟨H,V3,O3⟩=some (.nx,⟨H,pt V3 .ah (.int ((q+(u+(kC m+1)):Nat):Int)),O3⟩):=by
     refine b9 (eF (os:=[]) (eF (os:=[]) (y:=.int ((q+u+kC m:Nat):Int)) (bZ kt) (dC (ll Di) (aU (bZ kh) rfl) (kD (y:=.int (((hw m).length:Nat):Int)) (os:=[]) rfl)) (by rw [hkl];rfl)) rfl ?_)
     show some (AV.int _,_)=_
     congr 3
     lia
    have i7:ex G5 (.asg (.v .bL) (.not (.v .bL))) ⟨H,pt V3 .ah (.int ((q+(u+(kC m+1)):Nat):Int)),O3⟩=some (.nx,⟨H,pt (pt V3 .ah (.int ((q+(u+(kC m+1)):Nat):Int))) .bL (.bool (kJ (OB m))),O3⟩):=by
     rw [show kJ (OB m)=!kJ m by cases m<;>first|rfl|exact absurd rfl hm]
     exact b9 (yK (bZ ((bt (by decide)).trans kd)) rfl)
    have hq':q+(u+(kC m+1))<=s.length:=by
     rw [List.length_drop]at hle
     lia
    have ed:s.drop (q+(u+(kC m+1)))=(s.drop q).drop (u+(kC m+1)):=List.drop_drop.symm
    obtain⟨fl,V',O',e,hO',R⟩:=inner hz hn (q+h) N (OB m) (q+(u+(kC m+1))) (q+(u+(kC m+1))) _ O3 fu (by cases m<;>first|exact absurd rfl hm|exact λz=>nomatch z) (aaa hN (Nat.lt_add_of_pos_right (Nat.succ_pos _)) hq') (Nat.le_of_succ_le_succ hf)
     ((v3.pt (x:=.ah) (by decide) (by decide) (by decide) _).pt (x:=.bL) (by decide) (by decide) (by decide) (.bool (kJ (OB m)))) ((bt (by decide)).trans bp) ((bt (by decide)).trans ((bt (by decide)).trans ks)) bp hq' hq' (by
      have:=ng (P:=aM l7) (s.drop q) (u+(kC m+1)) (by rw [hhh];simp +arith only [*])
      rw [ed]
      lia) rfl (λ_=>rfl) hO3
    refine⟨fl,V',O',wj tt (run (dW t4 (dW t5 (aK i6 (aK i7 rfl))))) e,hO',?_⟩
    rw [F3 h4 (by lia),<-ed]
    exact R
end
section
variable {H:List AO} {s nm:List Nat}
theorem outer (hz:s.length<=1000000) (hn:nm.length<=10) :∀(N p:Nat) (V:List (Nm×AV)) (O:List Nat) (fu:Nat),s.length-p<N->N<=fu->VO s nm V->lk V .ah=some (.int (p:Int))->p<=s.length->Lm O->
  ∃(cl:Nat) (d:Bool) (V':List (Nm×AV)) (O':List Nat),fc fu (cZ G5 (.c (.bool true))) (cG G5 ZC) ⟨H,V,O⟩=some (.rt (.tup [.int (cl:Int),.bool d]),⟨H,V',O'⟩)/\Lm O'/\cl<=s.length/\SC (gA nm) .S (s.drop p)=(s.drop cl,d)
 |0,_,_,_,_,h,_,_,_,_,_=>absurd h (Nat.not_lt_zero _)
 |_+1,_,_,_,0,_,h,_,_,_,_=>absurd h (Nat.not_succ_le_zero _)
 |N+1,p,V,O,fu+1,hN,hf,hv,hpl,hp,hO=>by
  have tt:cZ G5 (.c (.bool true)) ⟨H,V,O⟩=some (true,⟨H,V,O⟩):=rfl
  obtain⟨F1,F2⟩:=QT (o:=gA nm) (s.drop p)
  have hdl:=lC hp
  have hc:=m8 (g7 (gA nm)) (s.drop p)
  have i1:ex G5 (.asg (.v .dM) (.call (.g .bz) (.cons (.v .bc) (.cons (.v .ah) (.cons (.c (.str [60,33,45,45])) (.cons (.c (.bool false)) .nil)))))) ⟨H,V,O⟩=some (.nx,⟨H,pt V .dM (.int ((p+cY (aM sX) (s.drop p):Nat):Int)),O⟩):=by
   rw [show cY (aM sX) (s.drop p)=cY (mt sX false) (s.drop p)from hJ (λx=>(LG _ x).symm) _]
   exact b9 (vw hv (bZ hpl) rfl hp hz)
  have v1:=hv.pt (x:=.dM) (by decide) (by decide) (by decide) (.int ((p+cY (aM sX) (s.drop p):Nat):Int))
  have a1:lk (pt V .dM (.int ((p+cY (aM sX) (s.drop p):Nat):Int))) .dM=some (.int ((p+cY (aM sX) (s.drop p):Nat):Int)):=bp
  have p1:lk (pt V .dM (.int ((p+cY (aM sX) (s.drop p):Nat):Int))) .ah=some (.int (p:Int)):=(bt (by decide)).trans hpl
  generalize pt V .dM (.int ((p+cY (aM sX) (s.drop p):Nat):Int))=V1 at i1 v1 a1 p1
  obtain⟨os,hos,e2⟩:=RL (H:=H) (O:=O) v1 p1 hp hz hn
  have i2:=b9 (x:=.aP) e2
  have v2:=v1.pt (x:=.aP) (by decide) (by decide) (by decide) (.int ((p+cY (g7 (gA nm)) (s.drop p):Nat):Int))
  have a2:lk (pt V1 .aP (.int ((p+cY (g7 (gA nm)) (s.drop p):Nat):Int))) .aP=some (.int ((p+cY (g7 (gA nm)) (s.drop p):Nat):Int)):=bp
  have n2:lk (pt V1 .aP (.int ((p+cY (g7 (gA nm)) (s.drop p):Nat):Int))) .dM=some (.int ((p+cY (aM sX) (s.drop p):Nat):Int)):=(bt (by decide)).trans a1
  generalize pt V1 .aP (.int ((p+cY (g7 (gA nm)) (s.drop p):Nat):Int))=V2 at i2 v2 a2 n2
  have hO2:Lm (os++O):=hos.app hO
  generalize os++O=O2 at i2 hO2
  clear v1 a1 p1 hv hpl
  have t3:cZ G5 (.cmp (.v .aP) (.cons .le (.v .dM) .nil)) ⟨H,V2,O2⟩=some (decide (cY (g7 (gA nm)) (s.drop p)<=cY (aM sX) (s.drop p)),⟨H,V2,O2⟩):=
   cN (bZ a2) (fM (bZ n2) (dR (congrArg some (decide_eq_decide.mpr (by lia)))))
  by_cases h3:cY (g7 (gA nm)) (s.drop p)<=cY (aM sX) (s.drop p)
  ·rw [decide_eq_true h3]at t3
   refine⟨p+cY (g7 (gA nm)) (s.drop p),false,V2,2::O2,wk tt (aK i1 (aK i2 (dW t3 (ik (i8 (vs:=[.int ((p+cY (g7 (gA nm)) (s.drop p):Nat):Int),.bool false]) (aU (bZ a2) rfl)))))),.cons (by decide) hO2,by lia,?_⟩
   rw [F1 h3,List.drop_drop]
  ·rw [decide_eq_false h3]at t3
   have F2:=F2 (by lia)
   have hlt:cY (aM sX) (s.drop p)<(s.drop p).length:=by lia
   obtain⟨r4,er⟩:=gn (tm (P:=aM sX) (s.drop p) hlt)
   generalize cY (aM sX) (s.drop p)=n at *
   have ed (k:Nat):s.drop (p+n+k)=(sX++r4).drop k:=by rw [<-er,List.drop_drop,List.drop_drop,Nat.add_assoc]
   have hrl:=congrArg List.length er
   rw [List.drop_drop,List.length_drop,List.length_append]at hrl
   have hrl:s.length-(p+n)=4+r4.length:=hrl
   have hq:p+n+2<=s.length:=by lia
   have eq2:s.drop (p+n+2)=45::45::r4:=ed 2
   have eq4:s.drop (p+n+4)=r4:=ed 4
   have i4:ex G5 (.asg (.v .cL) (.call (.g .bz) (.cons (.v .bc) (.cons (.bin .add (.v .dM) (.c (.int 2))) (.cons (.c (.str [45,45,62])) (.cons (.c (.bool false)) .nil)))))) ⟨H,V2,O2⟩=some (.nx,⟨H,pt V2 .cL (.int ((p+n+2+cY (aM l7) (s.drop (p+n+2)):Nat):Int)),O2⟩):=by
    rw [show cY (aM l7) (s.drop (p+n+2))=cY (mt l7 false) (s.drop (p+n+2))from hJ (λx=>(LG _ x).symm) _]
    exact b9 (vw v2 (eF (os:=[]) (y:=.int ((p+n+2:Nat):Int)) (bZ n2) rfl rfl) rfl hq hz)
   generalize hS:p+n+2+cY (aM l7) (s.drop (p+n+2))=S at i4
   have v4:=v2.pt (x:=.cL) (by decide) (by decide) (by decide) (.int (S:Int))
   have a4:lk (pt V2 .cL (.int (S:Int))) .cL=some (.int (S:Int)):=bp
   have n4:lk (pt V2 .cL (.int (S:Int))) .dM=some (.int ((p+n:Nat):Int)):=(bt (by decide)).trans n2
   generalize pt V2 .cL (.int (S:Int))=V4 at i4 v4 a4 n4
   have i5:ex G5 (.asg (.v .ah) (.bin .add (.v .dM) (.c (.int 4)))) ⟨H,V4,O2⟩=some (.nx,⟨H,pt V4 .ah (.int ((p+n+4:Nat):Int)),O2⟩):=b9 (eF (os:=[]) (bZ n4) rfl rfl)
   have i6:ex G5 (.asg (.v .bL) (.c (.bool false))) ⟨H,pt V4 .ah (.int ((p+n+4:Nat):Int)),O2⟩=some (.nx,⟨H,pt (pt V4 .ah (.int ((p+n+4:Nat):Int))) .bL (.bool false),O2⟩):=b9 rfl
   have hSl:S<=s.length:=by
    have:=skn (s:=s) (p:=p+n+2) (P:=aM l7)
    lia
   obtain⟨fl,V7,O7,e7,hO7,R⟩:=inner (H:=H) hz hn S (s.length+1) .E (p+n+2) (p+n+4) _ O2 2000001 (λz=>nomatch z) (by lia) (by lia) ((v4.pt (x:=.ah) (by decide) (by decide) (by decide) (.int ((p+n+4:Nat):Int))).pt (x:=.bL) (by decide) (by decide) (by decide) (.bool false))
    ((bt (by decide)).trans bp) ((bt (by decide)).trans ((bt (by decide)).trans a4)) bp (by lia) hq hS.symm (by
     rw [eq2,eq4,iq (P:=tC .E) LQ,iq (P:=tC .E) LQ];lia) (λ_=>by
     rw [eq2,eq4,iq (P:=g7 (gA nm)) (mA (by decide)),iq (P:=g7 (gA nm)) (mA (by decide))];lia) hO2
   have F2:SC (gA nm) .S (s.drop p)=SC (gA nm) .E (s.drop (p+n+2)):=by rw [F2,List.drop_drop,Nat.add_assoc]
   rw [<-F2]at R
   have run {z:Option (Fl×St)} (k:cG G5 (.cons (.nN (.c (.bool true)) X5) (.cons (.ite (.cmp (.v .cL) (.cons .eq (.v .b8) .nil)) (.cons (.ret (.tup (.cons (.v .b8) (.cons (.v .bL) .nil)))) .nil) .nil) (.cons (.asg (.v .ah) (.bin .add (.v .cL) (.c (.int 3)))) .nil))) ⟨H,pt (pt V4 .ah (.int ((p+n+4:Nat):Int))) .bL (.bool false),O2⟩=z):cG G5 ZC ⟨H,V,O⟩=z:=aK i1 (aK i2 (dW t3 (aK i4 (aK i5 (aK i6 k)))))
   rcases R with⟨cl,rfl,hcl,hz'⟩|⟨rfl,v7,s7,d,d7,z1,z2⟩
   ·exact⟨cl,false,V7,O7,wk tt (run (aA e7 rfl)),hO7,hcl,hz'⟩
   ·have t8:cZ G5 (.cmp (.v .cL) (.cons .eq (.v .b8) .nil)) ⟨H,V7,O7⟩=some ((S:Int)==(s.length:Int),⟨H,V7,O7⟩):=cN (bZ s7) (fM (bZ v7.sz) rfl)
    by_cases h8:S=s.length
    ·rw [show((S:Int)==(s.length:Int))=true from beq_iff_eq.mpr (by lia)]at t8
     refine⟨s.length,d,V7,2::O7,wk tt (run (pS e7 (dW t8 (ik (i8 (vs:=[.int (s.length:Int),.bool d]) (aU (bZ v7.sz) (aU (bZ d7) rfl))))))),.cons (by decide) hO7,Nat.le_refl _,?_⟩
     rw [z1 h8,List.drop_length]
    ·rw [show((S:Int)==(s.length:Int))=false from beq_eq_false_iff_ne.mpr (by lia)]at t8
     have hlt:S<s.length:=by lia
     have z2:=z2 hlt
     have hS3:S+3<=s.length:=by
      have hx:cY (aM l7) (s.drop (p+n+2))<(s.drop (p+n+2)).length:=by rw [List.length_drop];lia
      obtain⟨r5,e5⟩:=gn (tm (P:=aM l7) (s.drop (p+n+2)) hx)
      have:=congrArg List.length e5
      rw [List.length_drop,List.length_drop,List.length_append]at this
      have:s.length-(p+n+2)-cY (aM l7) (s.drop (p+n+2))=3+r5.length:=this
      omega
     have i9:ex G5 (.asg (.v .ah) (.bin .add (.v .cL) (.c (.int 3)))) ⟨H,V7,O7⟩=some (.nx,⟨H,pt V7 .ah (.int ((S+3:Nat):Int)),O7⟩):=b9 (eF (os:=[]) (bZ s7) rfl rfl)
     obtain⟨cl,d',V',O',e,hO',hcl,hr⟩:=outer hz hn N (S+3) _ O7 fu (aaa hN (by lia) hS3) (Nat.le_of_succ_le_succ hf) (v7.pt (x:=.ah) (by decide) (by decide) (by decide) (.int ((S+3:Nat):Int))) bp hS3 hO7
     exact⟨cl,d',V',O',wj tt (run (pS e7 (dW t8 (aK i9 rfl)))) e,hO',hcl,z2.trans hr⟩
end
theorem z9 (H:List AO) (t nm:List Nat) (hA:Al t) (hl:t.length<=300000) (hn:nm.length<=10) :
  ∃(cl:Nat) (d:Bool) (os:List Nat),kE G5 lA [.str t,.str nm] H=some (.tup [.int (cl:Int),.bool d],H,os)/\Lm os/\cl<=t.length/\SC (gA nm) .S (sm t)=((sm t).drop cl,d):=by
 have hlow:aX t=sm t:=iI t hA
 have hs:(sm t).length=t.length:=List.length_map _
 obtain⟨cl,d,V',O',e,hO',hcl,hr⟩:=outer (H:=H) (s:=sm t) (nm:=nm) (by lia) hn ((sm t).length+1) 0 [(.aj,.str t),(.aO,.str nm),(.bc,.str (sm t)),(.b8,.int ((sm t).length:Int)),(.ah,.int 0)] [t.length] 2000001 (by lia) (by lia) ⟨rfl,rfl,rfl⟩ rfl (Nat.zero_le _) (.cons (by show _<=1000000;lia) .nil)
 refine⟨cl,d,O',k9 (V:=[(.aj,.str t),(.aO,.str nm)]) rfl (fl:=.rt (.tup [.int (cl:Int),.bool d])) (V':=V') ?_ rfl,hO',hs▸hcl,hr⟩
 show cG G5 mN _=_
 rw [uW]
 have l1:ex G5 (.asg (.v .bc) (.aq (.v .aj) .eW .nil)) ⟨H,[(.aj,.str t),(.aO,.str nm)],[]⟩=some (.nx,⟨H,[(.aj,.str t),(.aO,.str nm),(.bc,.str (sm t))],[t.length]⟩):=by
  have hm:jJ H .eW t []=some (.str (aX t),[(aX t).length]):=rfl
  rw [hlow,hs]at hm
  exact b9 (V1:=[(.aj,.str t),(.aO,.str nm)]) (d0 (bZ rfl) (nD j7) rfl (ny hm))
 have l2:ex G5 (.asg (.v .b8) (.call (.g .ba) (.cons (.v .aj) .nil))) ⟨H,[(.aj,.str t),(.aO,.str nm),(.bc,.str (sm t))],[t.length]⟩=some (.nx,⟨H,[(.aj,.str t),(.aO,.str nm),(.bc,.str (sm t)),(.b8,.int ((sm t).length:Int))],[t.length]⟩):=by
  rw [hs]
  exact b9 (V1:=[(.aj,.str t),(.aO,.str nm),(.bc,.str (sm t))]) (dC (ll Di) (aU (bZ (v:=.str t) rfl) rfl) (kD (y:=.int (t.length:Int)) (os:=[]) rfl))
 exact aK l1 (aK l2 (aK (b9 rfl) (aA e rfl)))
noncomputable def ZY:Sx:=(.asg (.v .dI) (.call (.g .u7) (.cons (.sl (.v .cW) .no (.c (.int 14))) .nil)))
noncomputable def ZZ:Sx:=(.asg (.v .aO) (.ix (.lst (.cons (.c (.str [115,99,114,105,112,116])) (.cons (.c (.str [98])) (.cons (.c (.str [])) .nil))) true) (.bin .mod (.v .dI) (.c (.int 3)))))
noncomputable def Z0:Sx:=(.iN [(.v .fY),(.v .eP),(.v .dS),(.v .gI)] (.ix (.g .eO) (.bin .mod (.bin .fdiv (.v .dI) (.c (.int 3))) (.c (.int 6)))))
noncomputable def Z1:Sx:=(.asg (.v .ib) (.ix (.call (.g .fU) .nil) (.bin .mod (.bin .fdiv (.v .dI) (.c (.int 18))) (.c (.int 4)))))
noncomputable def Z2:Sx:=(.asg (.v .aj) (.aq (.c (.str [])) .gJ (.cons (.comp [(.xi,.loc),(.cR,.cS)] (.ix (.g .cR) (.bin .mod (.v .xi) (.c (.int 24)))) [.xi] (.sl (.v .cW) .no (.c (.int 14))) .nil) .nil)))
noncomputable def Z3:Sx:=(.iN [(.v .aP),(.v .bL)] (.call (.g .fV) (.cons (.v .aj) (.cons (.v .aO) .nil))))
noncomputable def Ys:Sx:=(.asg (.v .bh) (.lst .nil false))
noncomputable def Z4:Sx:=(.ite (.v .bL) (.cons (.exp (.aq (.v .bh) .ak (.cons (.tup (.cons (.v .aP) (.cons (.call (.g .bx) (.cons (.c (.str [80,97,114,115,101,69,114,114,111,114])) (.cons (.c (.str [101,111,102,45,105,110,45,115,99,114,105,112,116,45,105,110,45,115,99,114,105,112,116])) .nil))) .nil))) .nil))) .nil) .nil)
noncomputable def Qi:Sx:=(.ite (.cmp (.v .aP) (.cons .lt (.call (.g .ba) (.cons (.v .aj) .nil)) .nil)) (.cons (.asg (.v .ah) (.bin .add (.bin .add (.v .aP) (.c (.int 2))) (.call (.g .ba) (.cons (.v .aO) .nil)))) (.cons (.asg (.v .aj) (.bin .add (.sl (.v .aj) .no (.v .ah)) (.v .fY))) (.cons (.fr [.eB,.dx] true (.v .eP) (.cons (.exp (.aq (.v .bh) .ak (.cons (.tup (.cons (.bin .add (.v .ah) (.v .eB)) (.cons (.call (.g .bx) (.cons (.c (.str [80,97,114,115,101,69,114,114,111,114])) (.cons (.v .dx) .nil))) .nil))) .nil))) .nil)) (.cons (.ite (.cmp (.v .dS) (.cons .isn (.c .none) .nil)) (.cons (.asg (.v .ah) (.call (.g .ba) (.cons (.v .aj) .nil))) (.cons (.exp (.aq (.v .bh) .ak (.cons (.tup (.cons (.v .ah) (.cons (.ck (.cons .aJ (.ix (.g .ag) (.c (.str [69,110,100,84,97,103]))) (.cons .aO (.v .aO) (.cons .af (.v .dS) (.cons .bT (.v .gI) .nil)))) true) .nil))) .nil))) (.cons (.aug (.v .aj) .add (.v .ib)) (.cons (.asg (.v .aZ) (.v .ah)) (.cons (.nN (.and (.cons (.cmp (.v .aZ) (.cons .lt (.call (.g .ba) (.cons (.v .aj) .nil)) .nil)) (.cons (.cmp (.ix (.v .aj) (.v .aZ)) (.cons .isin (.tup (.cons (.c (.str [32])) (.cons (.c (.str [10])) .nil))) .nil)) .nil))) (.cons (.aug (.v .aZ) .add (.c (.int 1))) .nil)) (.cons (.ite (.cmp (.v .aZ) (.cons .gt (.v .ah) .nil)) (.cons (.exp (.aq (.v .bh) .ak (.cons (.tup (.cons (.v .aZ) (.cons (.call (.g .bx) (.cons (.c (.str [83,112,97,99,101,67,104,97,114,97,99,116,101,114,115])) (.cons (.sl (.v .aj) (.v .ah) (.v .aZ)) .nil))) .nil))) .nil))) .nil) .nil) (.cons (.ite (.cmp (.v .aZ) (.cons .lt (.call (.g .ba) (.cons (.v .aj) .nil)) .nil)) (.cons (.exp (.aq (.v .bh) .ak (.cons (.tup (.cons (.call (.g .ba) (.cons (.v .aj) .nil)) (.cons (.call (.g .bx) (.cons (.c (.str [67,104,97,114,97,99,116,101,114,115])) (.cons (.sl (.v .aj) (.v .aZ) .no) .nil))) .nil))) .nil))) .nil) .nil) .nil))))))) .nil) .nil)))) .nil)
noncomputable def HM:Sx:=(.asg (.v .a6) (.call (.g .fW) (.cons (.v .aj) .nil)))
noncomputable def HN:Sx:=(.asg (.v .aN) (.call (.g .d8) (.cons (.v .aj) .nil)))
noncomputable def HO:Sx:=(.asg (.at (.v .aN) .aC) (.at (.v .aN) .bF))
noncomputable def HP:Sx:=(.ite (.v .aO) (.cons (.asg (.at (.v .aN) .aB) (.ck (.cons .aJ (.ix (.g .ag) (.c (.str [83,116,97,114,116,84,97,103]))) (.cons .aO (.v .aO) (.cons .af (.lst .nil true) .nil))) false)) .nil) .nil)
noncomputable def HQ:Sx:=(.asg (.v .e9) (.lst .nil false))
theorem NS:kn=(.cons ZY (.cons ZZ (.cons Z0 (.cons Z1 (.cons Z2 (.cons Z3 (.cons Ys (.cons Z4 (.cons Qi (.cons HM (.cons HN (.cons HO (.cons HP (.cons HQ .nil)))))))))))))):=by kernel_rfl
theorem mI {G:cy} {s:Sx} {r:c5} {σ σ1:St} (h:ex G s σ=some (.nx,σ1)):cG G (.cons s r) σ=cG G r σ1:=aA h rfl
noncomputable def eG (xs:List Int):AV:=.lst (xs.map .int)
theorem ints_map :∀xs:List Int,ri (xs.map AV.int)=some xs
 |[]=>rfl
 |x::r=>by rw [List.map_cons,ri,ints_map r];rfl
theorem WY (H:List AO) (xs:List Int):vx H (eG xs) .none (.int 14)=some (eG (xs.take 14)):=by
 show some (AV.lst ((xs.map AV.int).take (dh ((14:Nat):Int) (xs.map AV.int).length)))=some (AV.lst ((xs.take 14).map AV.int))
 rw [gh,List.map_take]
 congr 2
 by_cases h:14<=(xs.map AV.int).length
 ·rw [Nat.min_eq_left h]
 ·rw [Nat.min_eq_right (by lia),List.take_length,List.take_of_length_le (by lia)]
theorem N5 (H:List AO) {vs:List AV} {m:Int} (h0:0<=m) (h1:m<vs.length):nM H (.lst vs) (.int m)=some (vs.getD m.toNat .none):=by
 show(idx m vs.length).map _=_
 obtain⟨k,rfl⟩:=Int.eq_ofNat_of_zero_le h0
 rw [sC (by lia)]
 rfl
noncomputable def pieces:List (List Nat):=[[60,33,45,45],[45,45,62],[60,115,99,114,105,112,116,62],[60,47,115,99,114,105,112,116,62],[60,83,67,82,73,80,84,32],[60,47,83,99,82,105,112,116,47],[45],[60],[60,47],[62],[97],[32],[10],[33],[60,47,98,62],[60,98,32],[38,108,116,59],[60,33,45],[45,45],[115,99,114,105,112,116],[47],[233],[45,45,33,62],[60,47,115,99,114,105,112,116]]
noncomputable def pieceOf (y:Int):List Nat:=pieces.getD (Int.fmod y 24).toNat []
noncomputable def textOf (xs:List Int):List Nat:=((xs.take 14).map pieceOf).flatten
noncomputable def names:List (List Nat):=[[115,99,114,105,112,116],[98],[]]
noncomputable def nameOf (T:Int):List Nat:=names.getD (Int.fmod T 3).toNat []
noncomputable def mf:List (List Nat):=[[],[117,32,118],[10,32,119,62],[32]]
noncomputable def iu (T:Int):List Nat:=mf.getD (Int.fmod (Int.fdiv T 18) 4).toNat []
structure Ed where
 tx:List Nat
 fs:List (Int×List Nat)
 ps:AV
 sh:Bool
noncomputable def C5:List Ed:=[⟨[62],[],.lst [],false⟩,⟨[32,62],[],.lst [],false⟩,⟨[47,62],[(2,[115,101,108,102,45,99,108,111,115,105,110,103,45,102,108,97,103,45,111,110,45,101,110,100,45,116,97,103])],.lst [],true⟩,⟨[10,107,61,49,62],[(5,[97,116,116,114,105,98,117,116,101,115,45,105,110,45,101,110,100,45,116,97,103])],.lst [.lst [.str [107],.str [49]]],false⟩,⟨[47,32,62],[(1,[117,110,101,120,112,101,99,116,101,100,45,99,104,97,114,97,99,116,101,114,45,97,102,116,101,114,45,115,111,108,105,100,117,115,45,105,110,45,116,97,103])],.lst [],false⟩,⟨[32],[(1,[101,120,112,101,99,116,101,100,45,97,116,116,114,105,98,117,116,101,45,110,97,109,101,45,98,117,116,45,103,111,116,45,101,111,102])],.none,false⟩]
noncomputable def jX (T:Int):Ed:=C5.getD (Int.fmod (Int.fdiv T 3) 6).toNat ⟨[],[],.none,false⟩
noncomputable def Ed.av (e:Ed):AV:=.tup [.str e.tx,.lst (e.fs.map λp=>.tup [.int p.1,.str p.2]),e.ps,.bool e.sh]
theorem fm (a:Int) {b:Int} (h:0<b):0<=Int.fmod a b/\Int.fmod a b<b:=⟨Int.fmod_nonneg_of_pos a h,Int.fmod_lt_of_pos a h⟩
theorem getD_map {α β:Type} (f:α->β) :∀(l:List α) (i:Nat) (d:α) (d':β),i<l.length->(l.map f).getD i d'=f (l.getD i d):=λl i d d' h=>by
 simp [List.getD_eq_getElem?_getD,h]
noncomputable abbrev VT (sc:AV) (T:Int):List (Nm×AV):=[(.cW,sc),(.dI,.int T),(.aO,.str (nameOf T)),(.fY,.str (jX T).tx),(.eP,.lst ((jX T).fs.map λp=>.tup [.int p.1,.str p.2])),(.dS,(jX T).ps),(.gI,.bool (jX T).sh),(.ib,.str (iu T))]
section
variable (xs:List Int) (O:List Nat)
theorem l1:ex G7 ZY ⟨[],[(.cW,eG xs)],O⟩=some (.nx,⟨[],[(.cW,eG xs),(.dI,.int (xs.take 14).sum)],O⟩):=
 have g:G7.glob .u7=some (.bi .sum):=by kernel_rfl
 have hs:BL ([]:List AO) .sum [eG (xs.take 14)]=some (.int (xs.take 14).sum,[]):=by
  show(ri _).map _=_
  rw [ints_map];rfl
 b9 (V1:=[(.cW,eG xs)]) (dC (ll g) (aU (mG (bZ rfl) (by exact rfl) (by exact rfl) (WY _ _)) (by exact rfl)) (kD hs))
theorem Lj {V:List (Nm×AV)} {T a b:Int} (h:lk V .dI=some (.int T)) (ha:(decide (0<a)&&decide (a<100000))=true) (hb:(decide (0<b)&&decide (b<100000))=true) :
  ev G7 (.bin .mod (.bin .fdiv (.v .dI) (.c (.int a))) (.c (.int b))) ⟨[],V,O⟩=some (.int (Int.fmod (Int.fdiv T a) b),⟨[],V,O⟩):=
 eF (os:=[]) (eF (os:=[]) (y:=.int (Int.fdiv T a)) (bZ h) rfl (by show je _ _=_;rw [ha];rfl)) rfl (by show je _ _=_;rw [hb];rfl)
theorem yZ {α:Type} (f:α->AV) (l:List α) (d:α) {a b:Int} (hb:0<b) (hl:(l.length:Int)=b):nM [] (.lst (l.map f)) (.int (Int.fmod a b))=some (f (l.getD (Int.fmod a b).toNat d)):=by
 obtain⟨p,q⟩:=fm a hb
 rw [N5 [] (vs:=l.map f) p (by rw [List.length_map];simp +arith only [*])]
 exact congrArg some (getD_map f l _ _ _ (by omega))
theorem l2 {V:List (Nm×AV)} {T:Int} (h:lk V .dI=some (.int T)):ex G7 ZZ ⟨[],V,O⟩=some (.nx,⟨[],pt V .aO (.str (nameOf T)),3::O⟩):=
 b9 (jO (uG (vs:=[.str [115,99,114,105,112,116],.str [98],.str []]) rfl) (eF (os:=[]) (bZ h) rfl rfl) (yZ AV.str names [] (by decide) rfl))
theorem l3 {V:List (Nm×AV)} {T:Int} (h:lk V .dI=some (.int T)):ex G7 Z0 ⟨[],V,O⟩=some (.nx,⟨[],pt (pt (pt (pt V .fY (.str (jX T).tx)) .eP (.lst ((jX T).fs.map λp=>.tup [.int p.1,.str p.2]))) .dS (jX T).ps) .gI (.bool (jX T).sh),O⟩):=
 have g:G7.glob .eO=some (.lst (C5.map Ed.av)):=by kernel_rfl
 mZ (jO (ll g) (Lj _ h rfl rfl) (yZ Ed.av C5 ⟨[],[],.none,false⟩ (by decide) rfl)) (Ce (Ce (Ce (Ce qQ))))
theorem l4 {V:List (Nm×AV)} {T:Int} (h:lk V .dI=some (.int T)):ex G7 Z1 ⟨[],V,O⟩=some (.nx,⟨[],pt V .ib (.str (iu T)),4::O⟩):=
 have g:G7.glob .fU=some (.fn .mU):=by kernel_rfl
 have hc:G7.call .mU [] []=some (.lst (mf.map .str),[],[4]):=by kernel_rfl
 b9 (jO (dC (ll g) rfl (su hc)) (Lj _ h rfl rfl) (yZ AV.str mf [] (by decide) rfl))
end
noncomputable def Nz:Ex:=(.ix (.g .cR) (.bin .mod (.v .xi) (.c (.int 24))))
theorem RY {V:List (Nm×AV)} {O:List Nat} {y:Int} (h:lk V .xi=some (.int y)):ev G7 Nz ⟨[],V,O⟩=some (.str (pieceOf y),⟨[],V,O⟩):=
 have g:G7.glob .cR=some (.lst (pieces.map .str)):=by kernel_rfl
 jO (ll g) (eF (os:=[]) (bZ h) rfl rfl) (yZ AV.str pieces [] (by decide) rfl)
theorem Fe :∀(l:List Int) (V:List (Nm×AV)) (O:List Nat),∃V',jI (hK [.xi] false) (mh G7 .nil) (ev G7 Nz) (l.map .int) ⟨[],V,O⟩=some (l.map λy=>.str (pieceOf y),⟨[],V',O⟩)
 |[],V,_=>⟨V,rfl⟩
 |c::r,V,O=>Exists.elim (Fe r (pt V .xi (.int c)) O) λV' h=>⟨V',aA (x:=⟨[],pt V .xi (.int c),O⟩) rfl (aA (x:=(true,⟨[],pt V .xi (.int c),O⟩)) rfl (aA (RY bp) (aA h rfl)))⟩
theorem Gn :∀l:List Int,jm (l.map λy=>AV.str (pieceOf y))=some (l.map pieceOf)
 |[]=>rfl
 |c::r=>by
  show(jm _).map _=_
  rw [Gn r];rfl
theorem C2 {G:cy} {ks:List (Nm×Kd)} {elt it:Ex} {t:List Nm} {cs:fe} {σ:St} {v:AV} {vs ws:List AV} {H1 H2:List AO} {V1 V2:List (Nm×AV)} {O1 O2:List Nat} {tb:Bool} (ht:isTup t=tb) (h:ev G it σ=some (v,⟨H1,V1,O1⟩)) (j:D3 H1 (pureE elt&&xe cs) v=some vs)
  (l:jI (hK t tb) (mh G cs) (ev G elt) vs ⟨H1,ji ks V1,O1⟩=some (ws,⟨H2,V2,O2⟩)):ev G (.comp ks elt t it cs) σ=some (.lst ws,⟨H2,V1,ws.length::O2⟩):=by
 subst ht
 exact aA h (aA j (aA l rfl))
theorem l5 (xs:List Int) (O:List Nat):ex G7 Z2 ⟨[],(VT (eG xs) (xs.take 14).sum),O⟩=some (.nx,⟨[],(VT (eG xs) (xs.take 14).sum)++[(.aj,.str (textOf xs))],(textOf xs).length::(xs.take 14).length::O⟩):=by
 have hj:jJ ([]:List AO) .gJ [] [.lst ((xs.take 14).map λy=>.str (pieceOf y))]=some (.str (textOf xs),[(textOf xs).length]):=by
  show(jm _).map _=_
  rw [Gn]
  rfl
 obtain⟨V',h⟩:=Fe (xs.take 14) (ji [(.xi,.loc),(.cR,.cS)] (VT (eG xs) (xs.take 14).sum)) O
 have er:ev G7 (.sl (.v .cW) .no (.c (.int 14))) ⟨[],(VT (eG xs) (xs.take 14).sum),O⟩=some (eG (xs.take 14),⟨[],(VT (eG xs) (xs.take 14).sum),O⟩):=mG (bZ rfl) rfl rfl (WY [] xs)
 have ec:=C2 (t:=[.xi]) (cs:=.nil) (ks:=[(.xi,.loc),(.cR,.cS)]) (elt:=Nz) rfl er rfl h
 rw [List.length_map]at ec
 exact b9 (V1:=(VT (eG xs) (xs.take 14).sum)) (d0 rfl (nD xX) (aU ec rfl) (ny hj))
structure Mu (e:Ed):Prop where
 fs:e.fs=[]\/∃p,e.fs=[p]
 ps:e.ps=.none\/∃q,e.ps=.lst q
 tx:e.tx.length<=5
theorem C6 :∀e∈C5,Mu e:=by
 unfold C5
 repeat' first|exact List.forall_mem_nil _|refine List.forall_mem_cons.mpr ⟨⟨by first|exact .inl rfl|exact .inr ⟨_,rfl⟩,by first|exact .inl rfl|exact .inr ⟨_,rfl⟩,by decide⟩,?_⟩
theorem lD (T:Int):jX T∈C5:=by
 obtain⟨p,q⟩:=fm (Int.fdiv T 3) (b:=6) (by decide)
 unfold jX
 have h:(Int.fmod (Int.fdiv T 3) 6).toNat<C5.length:=by show _<6;omega
 rw [List.getD_eq_getElem?_getD,List.getElem?_eq_getElem h]
 exact List.getElem_mem h
theorem k7 (T:Int):nameOf T∈names:=by
 obtain⟨p,q⟩:=fm T (b:=3) (by decide)
 unfold nameOf
 have h:(Int.fmod T 3).toNat<names.length:=by show _<3;lia
 rw [List.getD_eq_getElem?_getD,List.getElem?_eq_getElem h]
 exact List.getElem_mem h
theorem qd (T:Int):iu T∈mf:=by
 obtain⟨p,q⟩:=fm (Int.fdiv T 18) (b:=4) (by decide)
 unfold iu
 have h:(Int.fmod (Int.fdiv T 18) 4).toNat<mf.length:=by show _<4;omega
 rw [List.getD_eq_getElem?_getD,List.getElem?_eq_getElem h]
 exact List.getElem_mem h
theorem nF (T:Int):pieceOf T∈pieces:=by
 obtain⟨p,q⟩:=fm T (b:=24) (by decide)
 unfold pieceOf
 have h:(Int.fmod T 24).toNat<pieces.length:=by show _<24;lia
 rw [List.getD_eq_getElem?_getD,List.getElem?_eq_getElem h]
 exact List.getElem_mem h
theorem pI :∀n∈names,n.length<=6:=by decide
theorem wc :∀n∈mf,n.length<=4:=by decide
theorem Bf :∀n∈pieces,n.length<=9:=by decide
theorem Be :∀n∈pieces,∀c∈n,c∈alpha:=by decide
theorem A8 :∀n∈names,∀c∈n,dP c=true/\c∈alpha/\eD c=c:=by decide
theorem wJ (t nm:List Nat) (hA:Al t) (hl:t.length<=300000) (hn:nm.length<=10) :
  ∃(cl:Nat) (d:Bool) (os:List Nat),G7.call .lClose [.str t,.str nm] []=some (.tup [.int (cl:Int),.bool d],[],os)/\Lm os/\cl<=t.length/\SC (gA nm) .S (sm t)=((sm t).drop cl,d):=by
 have e:G7.call .lClose [.str t,.str nm] []=kE G5 lA [.str t,.str nm] []:=by kernel_rfl
 obtain⟨cl,d,os,h,q⟩:=z9 [] t nm hA hl hn
 exact⟨cl,d,os,e.trans h,q⟩
noncomputable abbrev VX (sc:AV) (T:Int) (nm:List Nat) (e:Ed) (tl t:List Nat) (cl:Nat) (d:Bool):List (Nm×AV):=[(.cW,sc),(.dI,.int T),(.aO,.str nm),(.fY,.str e.tx),(.eP,.lst (e.fs.map λp=>.tup [.int p.1,.str p.2])),(.dS,e.ps),(.gI,.bool e.sh),(.ib,.str tl),(.aj,.str t),(.aP,.int (cl:Int)),(.bL,.bool d)]
theorem l6 {sc:AV} {T:Int} {t:List Nat} {O os:List Nat} {cl:Nat} {d:Bool} (h:G7.call .lClose [.str t,.str (nameOf T)] []=some (.tup [.int (cl:Int),.bool d],[],os)):ex G7 Z3 ⟨[],VT sc T++[(.aj,.str t)],O⟩=some (.nx,⟨[],VX sc T (nameOf T) (jX T) (iu T) t cl d,os++O⟩):=
 have g:G7.glob .fV=some (.fn .lClose):=by kernel_rfl
 mZ (vs:=[.int (cl:Int),.bool d]) (dC (ll g) (aU (bZ (v:=.str t) rfl) (aU (bZ (v:=.str (nameOf T)) rfl) rfl)) (su h)) (Ce (Ce qQ))
noncomputable def YN:Sx:=(.asg (.v .ah) (.bin .add (.bin .add (.v .aP) (.c (.int 2))) (.call (.g .ba) (.cons (.v .aO) .nil))))
noncomputable def YO:Sx:=(.asg (.v .aj) (.bin .add (.sl (.v .aj) .no (.v .ah)) (.v .fY)))
noncomputable def R0:c5:=(.cons (.exp (.aq (.v .bh) .ak (.cons (.tup (.cons (.bin .add (.v .ah) (.v .eB)) (.cons (.call (.g .bx) (.cons (.c (.str [80,97,114,115,101,69,114,114,111,114])) (.cons (.v .dx) .nil))) .nil))) .nil))) .nil)
noncomputable def X0:Sx:=(.fr [.eB,.dx] true (.v .eP) R0)
theorem NG:X0=(.fr [.eB,.dx] true (.v .eP) R0):=rfl
noncomputable def g_1:Sx:=(.asg (.v .ah) (.call (.g .ba) (.cons (.v .aj) .nil)))
noncomputable def g_2:Sx:=(.exp (.aq (.v .bh) .ak (.cons (.tup (.cons (.v .ah) (.cons (.ck (.cons .aJ (.ix (.g .ag) (.c (.str [69,110,100,84,97,103]))) (.cons .aO (.v .aO) (.cons .af (.v .dS) (.cons .bT (.v .gI) .nil)))) true) .nil))) .nil)))
noncomputable def g_3:Sx:=(.aug (.v .aj) .add (.v .ib))
noncomputable def g_4:Sx:=(.asg (.v .aZ) (.v .ah))
noncomputable def X3:Sx:=(.nN (.and (.cons (.cmp (.v .aZ) (.cons .lt (.call (.g .ba) (.cons (.v .aj) .nil)) .nil)) (.cons (.cmp (.ix (.v .aj) (.v .aZ)) (.cons .isin (.tup (.cons (.c (.str [32])) (.cons (.c (.str [10])) .nil))) .nil)) .nil))) (.cons (.aug (.v .aZ) .add (.c (.int 1))) .nil))
noncomputable def g_6:Sx:=(.ite (.cmp (.v .aZ) (.cons .gt (.v .ah) .nil)) (.cons (.exp (.aq (.v .bh) .ak (.cons (.tup (.cons (.v .aZ) (.cons (.call (.g .bx) (.cons (.c (.str [83,112,97,99,101,67,104,97,114,97,99,116,101,114,115])) (.cons (.sl (.v .aj) (.v .ah) (.v .aZ)) .nil))) .nil))) .nil))) .nil) .nil)
noncomputable def g_7:Sx:=(.ite (.cmp (.v .aZ) (.cons .lt (.call (.g .ba) (.cons (.v .aj) .nil)) .nil)) (.cons (.exp (.aq (.v .bh) .ak (.cons (.tup (.cons (.call (.g .ba) (.cons (.v .aj) .nil)) (.cons (.call (.g .bx) (.cons (.c (.str [67,104,97,114,97,99,116,101,114,115])) (.cons (.sl (.v .aj) (.v .aZ) .no) .nil))) .nil))) .nil))) .nil) .nil)
noncomputable def R3:Sx:=(.ite (.cmp (.v .dS) (.cons .isn (.c .none) .nil)) (.cons g_1 (.cons g_2 (.cons g_3 (.cons g_4 (.cons X3 (.cons g_6 (.cons g_7 .nil))))))) .nil)
theorem Cd:Qi=(.ite (.cmp (.v .aP) (.cons .lt (.call (.g .ba) (.cons (.v .aj) .nil)) .nil)) (.cons YN (.cons YO (.cons X0 (.cons R3 .nil)))) .nil):=by kernel_rfl
noncomputable def wT:Ex:=(.and (.cons (.cmp (.v .aZ) (.cons .lt (.call (.g .ba) (.cons (.v .aj) .nil)) .nil)) (.cons (.cmp (.ix (.v .aj) (.v .aZ)) (.cons .isin (.tup (.cons (.c (.str [32])) (.cons (.c (.str [10])) .nil))) .nil)) .nil)))
noncomputable def wB:c5:=(.cons (.aug (.v .aZ) .add (.c (.int 1))) .nil)
noncomputable def gB:Nat->List (Int×List Nat)->List AV
 |_,[]=>[]
 |n,(k,p)::r=>.tup [.int ((n+p.length:Nat):Int),aT k p]::gB (n+p.length) r
theorem rA :∀(n:Nat) (l:List (Int×List Nat)),(gB n l).length=l.length
 |_,[]=>rfl
 |n,(k,p)::r=>by rw [gB,List.length_cons,rA,List.length_cons]
noncomputable def ZG:List Nat:=[67,104,97,114,97,99,116,101,114,115]
noncomputable def sSp:List Nat:=[83,112,97,99,101,67,104,97,114,97,99,116,101,114,115]
section
variable {O:List Nat} {V:List (Nm×AV)} {H:List AO} {nm t:List Nat}
theorem oT:G7.glob .ba=some (.bi .len):=by kernel_rfl
theorem Dj:G7.glob .bx=some (.fn .iT):=by kernel_rfl
theorem k0 (h:lk V .aj=some (.str t)):ev G7 (.call (.g .ba) (.cons (.v .aj) .nil)) ⟨H,V,O⟩=some (.int (t.length:Int),⟨H,V,O⟩):=dC (ll oT) (aU (bZ h) rfl) (kD (os:=[]) rfl)
end
noncomputable def BD (x:List Nat) (pe de:Ex):Sx:=(.exp (.aq (.v .bh) .ak (.cons (.tup (.cons pe (.cons (.call (.g .bx) (.cons (.c (.str x)) (.cons de .nil))) .nil))) .nil)))
theorem qf {x:List Nat} {pe de:Ex} {acc:List AV} {V:List (Nm×AV)} {O:List Nat} {n:Int} {kd:Int} {d:List Nat} (hr:lk V .bh=some (.a5 0)) (hp:ev G7 pe ⟨[.list acc],V,O⟩=some (.int n,⟨[.list acc],V,O⟩)) (hd:ev G7 de ⟨[.list acc],V,O⟩=some (.str d,⟨[.list acc],V,O⟩))
  (hc :∀H,G7.call .iT [.str x,.str d] H=some (aT kd d,H,[2])):ex G7 (BD x pe de) ⟨[.list acc],V,O⟩=some (.nx,⟨[.list (acc++[.tup [.int n,aT kd d]])],V,(acc.length+1)::2::2::O⟩):=
 pO (v:=.none) (d0 (bZ hr) (pF g0 rfl) (aU (i8 (aU hp (aU (dC (ll Dj) (aU rfl (aU hd rfl)) (su (hc _))) rfl))) rfl) (oQ (os:=[acc.length+1]) rfl rfl)) rfl
noncomputable def WN:List Nat:=[80,97,114,115,101,69,114,114,111,114]
theorem LZ (d:List Nat) :∀H,G7.call .iT [.str WN,.str d] H=some (aT 7 d,H,[2]):=λH=>by kernel_rfl
theorem Xf (d:List Nat) :∀H,G7.call .iT [.str sSp,.str d] H=some (aT 2 d,H,[2]):=λH=>by kernel_rfl
theorem LY (d:List Nat) :∀H,G7.call .iT [.str ZG,.str d] H=some (aT 1 d,H,[2]):=λH=>by kernel_rfl
noncomputable def sq (nm:List Nat) (ps:AV) (sh:Bool):AV:=.ck [(.aJ,.int 4),(.aO,.str nm),(.af,ps),(.bT,.bool sh)]
theorem lm3 {n:Nat} {O:List Nat} (h:n<=500000) (hO:Lm O):Lm ((n+1)::2::2::O):=.cons (by show _<=1000000;lia) (.cons (by decide) (.cons (by decide) hO))
noncomputable abbrev NI (fs:List (Int×List Nat)):AV:=.lst (fs.map λp=>.tup [.int p.1,.str p.2])
noncomputable abbrev mJ (pl:Int) (fs:List (Int×List Nat)):List AV:=fs.map λp=>.tup [.int (pl+p.1),aT 7 p.2]
section
variable {acc:List AV} {V:List (Nm×AV)} {O:List Nat}
theorem ND {fs:List (Int×List Nat)} {pl:Int} (k1:lk V .ah=some (.int pl)) (k2:lk V .bh=some (.a5 0)) (k3:lk V .eP=some (NI fs))
  (hf:fs=[]\/∃p,fs=[p]) (ha:acc.length<=400000) (hO:Lm O) :
  ∃V' O',ex G7 X0 ⟨[.list acc],V,O⟩=some (.nx,⟨[.list (acc++mJ pl fs)],V',O'⟩)/\(∀x,x≠.eB->x≠.dx->lk V' x=lk V x)/\Lm O':=by
 rw [NG]
 rcases hf with rfl|⟨⟨k,s⟩,rfl⟩
 ·refine⟨V,O,?_,λ_ _ _=>rfl,hO⟩
  rw [show acc++mJ pl []=acc from List.append_nil _]
  exact vm (bZ k3) rfl rfl
 ·refine⟨pt (pt V .eB (.int k)) .dx (.str s),(acc.length+1)::2::2::O,?_,λx h1 h2=>(bt λz=>h2 z.symm).trans (bt λz=>h1 z.symm),lm3 (by lia) hO⟩
  have j1:lk (pt (pt V .eB (.int k)) .dx (.str s)) .eB=some (.int k):=(bt (by decide)).trans bp
  have j2:lk (pt (pt V .eB (.int k)) .dx (.str s)) .dx=some (.str s):=bp
  have j3:lk (pt (pt V .eB (.int k)) .dx (.str s)) .ah=some (.int pl):=(bt (by decide)).trans ((bt (by decide)).trans k1)
  have j4:lk (pt (pt V .eB (.int k)) .dx (.str s)) .bh=some (.a5 0):=(bt (by decide)).trans ((bt (by decide)).trans k2)
  have e:ex G7 (BD WN (.bin .add (.v .ah) (.v .eB)) (.v .dx)) ⟨[.list acc],pt (pt V .eB (.int k)) .dx (.str s),O⟩=_:=qf j4 (eF (os:=[]) (bZ j3) (bZ j1) rfl) (bZ j2) (LZ s)
  exact vm (bZ k3) rfl (nW (σ1:=⟨[.list acc],pt (pt V .eB (.int k)) .dx (.str s),O⟩) rfl (aK e rfl) rfl)
theorem IQ (h:lk V .dS=some .none):ex G7 R3 ⟨[.list acc],V,O⟩=some (.nx,⟨[.list acc],V,O⟩):=kO (b:=false) (cN (bZ h) (fM rfl rfl)) rfl
noncomputable def ta (k:Int):List Nat->List (Int×List Nat)
 |[]=>[]
 |c::r=>[(k,c::r)]
theorem KQ (l:List Nat):rJ l=ta 2 (l.takeWhile jq)++ta 1 (l.dropWhile jq):=by
 unfold rJ
 cases l.takeWhile jq<;>cases l.dropWhile jq<;>rfl
theorem F5 (n:Nat) (q:List Nat) (k:Int) (r:List (Int×List Nat)):gB n (ta k q++r)=gB n (ta k q)++gB (n+q.length) r:=by
 cases q<;>rfl
theorem zm {T pe de:Ex} {n:Nat} {k:Int} {x q:List Nat} (hr:lk V .bh=some (.a5 0)) (ht :∀O,cZ G7 T ⟨[.list acc],V,O⟩=some (decide (0<q.length),⟨[.list acc],V,O⟩)) (hp :∀O,ev G7 pe ⟨[.list acc],V,O⟩=some (.int ((n+q.length:Nat):Int),⟨[.list acc],V,O⟩)) (hd :∀O,ev G7 de ⟨[.list acc],V,O⟩=some (.str q,⟨[.list acc],V,O⟩))
  (hc :∀d H,G7.call .iT [.str x,.str d] H=some (aT k d,H,[2])) (ha:acc.length<=500000) (hO:Lm O) :∃O',ex G7 (.ite T (.cons (BD x pe de) .nil) .nil) ⟨[.list acc],V,O⟩=some (.nx,⟨[.list (acc++gB n (ta k q))],V,O'⟩)/\Lm O':=by
 cases q with
 |nil=>
  refine⟨O,?_,hO⟩
  rw [show acc++gB n (ta k [])=acc from List.append_nil _]
  exact kO (b:=false) (ht O) rfl
 |cons c r=>exact⟨_,kO (b:=true) (ht O) (aK (qf hr (hp O) (hd O) (hc _)) rfl),lm3 ha hO⟩
theorem Qf {H:List AO} {V:List (Nm×AV)} {O:List Nat} {t:List Nat} {m:Nat} (h1:lk V .aj=some (.str t)) (h2:lk V .aZ=some (.int (m:Int))) :
  (t[m]?=none->cZ G7 wT ⟨H,V,O⟩=some (false,⟨H,V,O⟩))/\(∀c,t[m]?=some c->cZ G7 wT ⟨H,V,O⟩=some (jq c,⟨H,V,2::O⟩)):=by
 have lt (b:Bool) (h:decide ((m:Int)<(t.length:Int))=b):cZ G7 (.cmp (.v .aZ) (.cons .lt (.call (.g .ba) (.cons (.v .aj) .nil)) .nil)) ⟨H,V,O⟩=some (b,⟨H,V,O⟩):=
  cN (bZ h2) (fM (k0 h1) (dR (congrArg some h)))
 refine⟨λh=>iU (eE (lt false (decide_eq_false (by have:=List.getElem?_eq_none_iff.mp h;lia))) rfl),λc h=>?_⟩
 have hb:o3 (.str [c]) [.str [32],.str [10]]=some (jq c):=by
  show some (Nat.beq 32 c&&true||(Nat.beq 10 c&&true||false))=some (c==32||c==10)
  rw [BT.beq_eq,BT.beq_eq,Bool.and_true,Bool.and_true,Bool.or_false]
  have e (a:Nat):decide (a=c)=(c==a):=by
   by_cases z:a=c
   ·subst z;exact(decide_eq_true rfl).trans (beq_self_eq_true _).symm
   ·rw [decide_eq_false z,beq_eq_false_iff_ne.mpr λh=>z h.symm]
  rw [e,e]
 refine iU (eE (lt true (decide_eq_true (by have:=Og h;lia))) (eE (cN (jO (bZ h1) (bZ h2) (N3 H h)) (fM (w:=.tup [.str [32],.str [10]]) (i8 (vs:=[.str [32],.str [10]]) rfl) (dR hb))) ?_))
 show cond (jq c) (some (true,_)) (some (false,_))=some (jq c,_)
 cases jq c<;>rfl
theorem z4 {H:List AO} {t:List Nat} {p:Nat} {V:List (Nm×AV)} {O:List Nat} (h1:lk V .aj=some (.str t)) (hp:p<=t.length) (hO:Lm O) (hl:t.length<=300000) :
  ∃O',ex G7 X3 ⟨H,pt V .aZ (.int (p:Int)),O⟩=some (.nx,⟨H,pt V .aZ (.int ((p+((t.drop p).takeWhile jq).length:Nat):Int)),O'⟩)/\Lm O':=by
 have hk:=tR jq (t.drop p)
 rw [List.length_drop]at hk
 have k1 (j:Nat):lk (pt V .aZ (.int ((p+j:Nat):Int))) .aj=some (.str t):=(bt (by decide)).trans h1
 have k2 (j:Nat):lk (pt V .aZ (.int ((p+j:Nat):Int))) .aZ=some (.int ((p+j:Nat):Int)):=bp
 have ppt :∀(V:List (Nm×AV)) (x:Nm) (a b:AV),pt (pt V x a) x b=pt V x b:=λV x a b=>by
  induction V with
  |nil=>exact if_pos rfl
  |cons q r ih=>
   by_cases e:q.1=x
   ·rw [fD,if_pos e,fD,if_pos e,fD,if_pos e]
   ·rw [fD,if_neg e,fD,if_neg e,fD,if_neg e,ih]
 have hR (j:Nat):Lm (List.replicate j 2++O):=Lm.app (λk m=>(List.mem_replicate.mp m).2▸(by decide)) hO
 have step (j:Nat):cG G7 wB ⟨H,pt V .aZ (.int ((p+j:Nat):Int)),2::(List.replicate j 2++O)⟩=some (.nx,⟨H,pt V .aZ (.int ((p+(j+1):Nat):Int)),List.replicate (j+1) 2++O⟩):=
  aK (pN (os:=[]) (y:=.int ((p+(j+1):Nat):Int)) (k2 j) rfl rfl) (by rw [ppt];rfl)
 have fin (τ:List Nat) (hτ:Lm τ) (hT:cZ G7 wT ⟨H,pt V .aZ (.int ((p+((t.drop p).takeWhile jq).length:Nat):Int)),List.replicate ((t.drop p).takeWhile jq).length 2++O⟩=some (false,⟨H,pt V .aZ (.int ((p+((t.drop p).takeWhile jq).length:Nat):Int)),τ⟩)) :
   ∃O',ex G7 X3 ⟨H,pt V .aZ (.int (p:Int)),O⟩=some (.nx,⟨H,pt V .aZ (.int ((p+((t.drop p).takeWhile jq).length:Nat):Int)),O'⟩)/\Lm O':=
  ⟨τ,(GS ((t.drop p).takeWhile jq).length 2000001 (λj=>⟨H,pt V .aZ (.int ((p+j:Nat):Int)),List.replicate j 2++O⟩) (λj=>⟨H,pt V .aZ (.int ((p+j:Nat):Int)),2::(List.replicate j 2++O)⟩) (λj hj=>by
   obtain⟨c,q1,q2⟩:=GJ hj
   rw [List.getElem?_drop]at q1
   exact⟨((Qf (k1 j) (k2 j)).2 c q1).trans (by rw [q2]),step j⟩) hT (by lia):fc 2000001 (cZ G7 wT) (cG G7 wB) ⟨H,pt V .aZ (.int (p:Int)),O⟩=_),hτ⟩
 rcases Ma (q:=jq) (l:=t.drop p)with h|⟨c,h,h2⟩
 ·rw [List.getElem?_drop]at h
  exact fin _ (hR _) ((Qf (k1 _) (k2 _)).1 h)
 ·rw [List.getElem?_drop]at h
  exact fin _ (.cons (show 2<=ew by decide) (hR _)) (((Qf (k1 _) (k2 _)).2 c h).trans (by rw [h2]))
theorem NF {t2 tl nm:List Nat} {q:List AV} {sh:Bool} (k1:lk V .aj=some (.str t2)) (k2:lk V .bh=some (.a5 0)) (k3:lk V .aO=some (.str nm)) (k4:lk V .dS=some (.lst q)) (k5:lk V .gI=some (.bool sh)) (k6:lk V .ib=some (.str tl))
  (ha:acc.length<=400000) (hl:(t2++tl).length<=300000) (hO:Lm O) :
  ∃V' O',ex G7 R3 ⟨[.list acc],V,O⟩=some (.nx,⟨[.list (acc++.tup [.int (t2.length:Int),sq nm (.lst q) sh]::gB t2.length (rJ tl))],V',O'⟩)/\lk V' .aj=some (.str (t2++tl))/\(∀x,x≠.ah->x≠.aj->x≠.aZ->lk V' x=lk V x)/\Lm O':=by
 have g3:G7.glob .ag=some Xg:=by kernel_rfl
 have s1:ex G7 g_1 ⟨[.list acc],V,O⟩=some (.nx,⟨[.list acc],pt V .ah (.int (t2.length:Int)),O⟩):=b9 (k0 k1)
 have n1 {x:Nm} (h:x≠.ah):lk (pt V .ah (.int (t2.length:Int))) x=lk V x:=bt λz=>h z.symm
 have p1:lk (pt V .ah (.int (t2.length:Int))) .ah=some (.int (t2.length:Int)):=bp
 generalize pt V .ah (.int (t2.length:Int))=V1 at s1 n1 p1
 have s2:ex G7 g_2 ⟨[.list acc],V1,O⟩=some (.nx,⟨[.list (acc++[.tup [.int (t2.length:Int),sq nm (.lst q) sh]])],V1,(acc.length+1)::2::4::O⟩):=
  pO (v:=.none) (d0 (bZ ((n1 (by decide)).trans k2)) (pF g0 rfl) (aU (i8 (aU (bZ p1) (aU
   (show ev G7 (.ck (.cons .aJ (.ix (.g .ag) (.c (.str [69,110,100,84,97,103]))) (.cons .aO (.v .aO) (.cons .af (.v .dS) (.cons .bT (.v .gI) .nil)))) true) ⟨[.list acc],V1,O⟩=some (sq nm (.lst q) sh,⟨[.list acc],V1,4::O⟩)from
    aA (x:=([(.aJ,.int 4),(.aO,.str nm),(.af,.lst q),(.bT,.bool sh)],⟨[.list acc],V1,O⟩)) (aA (jO (r:=.int 4) (ll g3) rfl (by kernel_rfl)) (aA (aA (bZ ((n1 (by decide)).trans k3)) (aA (aA (bZ ((n1 (by decide)).trans k4)) (aA (aA (bZ ((n1 (by decide)).trans k5)) (aA (x:=([],⟨[.list acc],V1,O⟩)) rfl rfl)) rfl)) rfl)) rfl)) rfl) rfl))) rfl) (oQ (os:=[acc.length+1]) rfl rfl)) rfl
 have hO2:Lm ((acc.length+1)::2::4::O):=.cons (by show _<=1000000;lia) (.cons (by decide) (.cons (by decide) hO))
 have eac (z:List AV):acc++AV.tup [.int (t2.length:Int),sq nm (.lst q) sh]::z=(acc++[AV.tup [.int (t2.length:Int),sq nm (.lst q) sh]])++z:=by rw [List.append_assoc];rfl
 rw [eac]
 have hal:(acc++[AV.tup [.int (t2.length:Int),sq nm (.lst q) sh]]).length<=400001:=by rw [List.length_append,List.length_singleton];lia
 generalize acc++[AV.tup [.int (t2.length:Int),sq nm (.lst q) sh]]=acc2 at s2 hal
 generalize (acc.length+1)::2::4::O=O2 at s2 hO2
 clear eac
 have s3:ex G7 g_3 ⟨[.list acc2],V1,O2⟩=some (.nx,⟨[.list acc2],pt V1 .aj (.str (t2++tl)),[t2.length+tl.length]++O2⟩):=pN ((n1 (by decide)).trans k1) (bZ ((n1 (by decide)).trans k6)) rfl
 have n2 {x:Nm} (h:x≠.ah) (h':x≠.aj):lk (pt V1 .aj (.str (t2++tl))) x=lk V x:=(bt λz=>h' z.symm).trans (n1 h)
 have p2:lk (pt V1 .aj (.str (t2++tl))) .ah=some (.int (t2.length:Int)):=(bt (by decide)).trans p1
 have q2:lk (pt V1 .aj (.str (t2++tl))) .aj=some (.str (t2++tl)):=bp
 generalize pt V1 .aj (.str (t2++tl))=V2 at s3 n2 p2 q2
 have hO3:Lm ([t2.length+tl.length]++O2):=.cons (by rw [List.length_append]at hl;show _<=1000000;lia) hO2
 generalize [t2.length+tl.length]++O2=O3 at s3 hO3
 have s4:ex G7 g_4 ⟨[.list acc2],V2,O3⟩=some (.nx,⟨[.list acc2],pt V2 .aZ (.int (t2.length:Int)),O3⟩):=b9 (bZ p2)
 obtain⟨O3',s4b,hO3'⟩:=z4 (H:=[.list acc2]) (V:=V2) (O:=O3) (t:=t2++tl) (p:=t2.length) q2 (by rw [List.length_append];lia) hO3 (by omega)
 rw [List.drop_left]at s4b
 have n3 {x:Nm} (h:x≠.ah) (h':x≠.aj) (h'':x≠.aZ):lk (pt V2 .aZ (.int ((t2.length+(tl.takeWhile jq).length:Nat):Int))) x=lk V x:=(bt λz=>h'' z.symm).trans (n2 h h')
 have kP:lk (pt V2 .aZ (.int ((t2.length+(tl.takeWhile jq).length:Nat):Int))) .ah=some (.int (t2.length:Int)):=(bt (by decide)).trans p2
 have kT:lk (pt V2 .aZ (.int ((t2.length+(tl.takeWhile jq).length:Nat):Int))) .aj=some (.str (t2++tl)):=(bt (by decide)).trans q2
 have kS:lk (pt V2 .aZ (.int ((t2.length+(tl.takeWhile jq).length:Nat):Int))) .aZ=some (.int ((t2.length+(tl.takeWhile jq).length:Nat):Int)):=bp
 have kR:=(n3 (x:=.bh) (by decide) (by decide) (by decide)).trans k2
 generalize pt V2 .aZ (.int ((t2.length+(tl.takeWhile jq).length:Nat):Int))=V3 at s4b n3 kP kT kS kR
 clear n1 n2 p1 p2 q2 k1 k2 k3 k5 k6
 have htd:=List.takeWhile_append_dropWhile (p:=jq) (l:=tl)
 have hle:=tR jq tl
 rw [KQ,F5]
 have sl5 :∀H,vx H (.str (t2++tl)) (.int (t2.length:Int)) (.int ((t2.length+(tl.takeWhile jq).length:Nat):Int))=some (.str (tl.takeWhile jq)):=λH=>by
  rw [x3 H _ _ _ (by lia),List.drop_left,Nat.add_sub_cancel_left]
  exact congrArg (λl=>some (AV.str l)) ((congrArg (List.take _) htd.symm).trans List.take_left)
 have sl6 :∀H,vx H (.str (t2++tl)) (.int ((t2.length+(tl.takeWhile jq).length:Nat):Int)) .none=some (.str (tl.dropWhile jq)):=λH=>by
  rw [GV H,<-List.drop_drop,List.drop_left]
  exact congrArg (λl=>some (AV.str l)) ((congrArg (List.drop _) htd.symm).trans List.drop_left)
 have hld:(t2++tl).length=t2.length+(tl.takeWhile jq).length+(tl.dropWhile jq).length:=by rw [List.length_append,<-congrArg List.length htd,List.length_append,Nat.add_assoc]
 generalize tl.takeWhile jq=u at *
 generalize tl.dropWhile jq=v at *
 have dd {a b:Int} {n:Nat} (h:a+n=b):decide (a<b)=decide (0<n):=by rw [decide_eq_decide];lia
 obtain⟨O4,s5,hO4⟩:=zm (acc:=acc2) (V:=V3) (O:=O3') (n:=t2.length) (k:=2) (x:=sSp) (q:=u) (T:=.cmp (.v .aZ) (.cons .gt (.v .ah) .nil)) (pe:=.v .aZ) (de:=.sl (.v .aj) (.v .ah) (.v .aZ)) kR
  (λO=>cN (bZ kS) (fM (bZ kP) (dR (congrArg some (dd (Int.natCast_add _ _).symm))))) (λO=>bZ kS) (λO=>mG (bZ kT) (bZ kP) (bZ kS) (sl5 _)) Xf (by lia) hO3'
 have hl5:(acc2++gB t2.length (ta 2 u)).length<=500000:=by
  rw [List.length_append]
  have:(gB t2.length (ta 2 u)).length<=1:=by cases u<;>first|exact Nat.zero_le _|exact Nat.le_refl _
  lia
 rw [<-List.append_assoc]
 generalize acc2++gB t2.length (ta 2 u)=acc3 at s5 hl5
 obtain⟨O5,s6,hO5⟩:=zm (acc:=acc3) (V:=V3) (O:=O4) (n:=t2.length+u.length) (k:=1) (x:=ZG) (q:=v) (T:=.cmp (.v .aZ) (.cons .lt (.call (.g .ba) (.cons (.v .aj) .nil)) .nil)) (pe:=.call (.g .ba) (.cons (.v .aj) .nil)) (de:=.sl (.v .aj) (.v .aZ) .no) kR
  (λO=>cN (bZ kS) (fM (k0 kT) (dR (congrArg some (dd (by lia)))))) (λO=>hld▸k0 kT) (λO=>mG (bZ kT) (bZ kS) rfl (sl6 _)) LY hl5 hO4
 exact⟨V3,O5,kO (b:=true) (cN (bZ k4) (fM rfl rfl)) (aK s1 (aK s2 (aK s3 (aK s4 (aK s4b (aK s5 (aK s6 rfl))))))),kT,λx=>n3,hO5⟩
end
structure RW (nm t:List Nat) (cl:Nat) (rows:List AV) (σ:St):Prop where
 h:σ.H=[.list rows]
 tx:lk σ.V .aj=some (.str t)
 nm:lk σ.V .aO=some (.str nm)
 ro:lk σ.V .bh=some (.a5 0)
 cl:lk σ.V .aP=some (.int (cl:Int))
 lm:Lm σ.O
noncomputable def qb (t nm:List Nat) (f:Nat) (e:Ed):List Nat:=t.take (f+2+nm.length)++e.tx
noncomputable def qe (t nm:List Nat) (f:Nat) (e:Ed) (tl:List Nat):List Nat:=match e.ps with
 |.lst _=>qb t nm f e++tl
 |_=>qb t nm f e
noncomputable def pR (t nm:List Nat) (f:Nat) (e:Ed) (tl:List Nat):List AV:=
 mJ ((f+2+nm.length:Nat):Int) e.fs++match e.ps with
 |.lst q=>.tup [.int ((qb t nm f e).length:Int),sq nm (.lst q) e.sh]::gB (qb t nm f e).length (rJ tl)
 |_=>[]
noncomputable def kQ (d:Bool) (cl:Nat):List AV:=cond d [.tup [.int (cl:Int),aT 7 Bd]] []
section
variable {O:List Nat} {sc:AV} {T:Int} {nm tl t:List Nat} {e:Ed} {cl:Nat} {d:Bool}
theorem l78 {q:c5} (hO:Lm O) :∃O',cG G7 (.cons Ys (.cons Z4 q)) ⟨[],VX sc T nm e tl t cl d,O⟩=cG G7 q ⟨[.list (kQ d cl)],pt (VX sc T nm e tl t cl d) .bh (.a5 0),O'⟩/\Lm O':=by
 have s7:ex G7 Ys ⟨[],VX sc T nm e tl t cl d,O⟩=some (.nx,⟨[.list []],pt (VX sc T nm e tl t cl d) .bh (.a5 0),0::O⟩):=b9 (yI (H1:=[]) (vs:=[]) rfl)
 cases d with
 |false=>exact⟨0::O,(mI s7).trans (mI (show ex G7 (.ite (.v .bL) (.cons (BD WN (.v .aP) (.c (.str Bd))) .nil) .nil) _=_ from kO (b:=false) (l9 (v:=.bool false) rfl rfl) rfl)),.cons (by decide) hO⟩
 |true=>
  have s8:ex G7 (BD WN (.v .aP) (.c (.str Bd))) ⟨[.list []],pt (VX sc T nm e tl t cl true) .bh (.a5 0),0::O⟩=some (.nx,⟨[.list (kQ true cl)],pt (VX sc T nm e tl t cl true) .bh (.a5 0),1::2::2::0::O⟩):=qf (acc:=[]) (n:=(cl:Int)) (d:=Bd) (kd:=7) rfl (bZ rfl) rfl (LZ _)
  have s8':ex G7 (.ite (.v .bL) (.cons (BD WN (.v .aP) (.c (.str Bd))) .nil) .nil) ⟨[.list []],pt (VX sc T nm e tl t cl true) .bh (.a5 0),0::O⟩=some (.nx,⟨[.list (kQ true cl)],pt (VX sc T nm e tl t cl true) .bh (.a5 0),1::2::2::0::O⟩):=kO (b:=true) (l9 (v:=.bool true) rfl rfl) (aK s8 rfl)
  exact⟨_,(mI s7).trans (mI s8'),.cons (by decide) (.cons (by decide) (.cons (by decide) (.cons (by decide) hO)))⟩
theorem EA {H:List AO} {V:List (Nm×AV)} {b:Bool} (k1:lk V .aj=some (.str t)) (k2:lk V .aP=some (.int (cl:Int))) (h:decide (cl<t.length)=b):cZ G7 (.cmp (.v .aP) (.cons .lt (.call (.g .ba) (.cons (.v .aj) .nil)) .nil)) ⟨H,V,O⟩=some (b,⟨H,V,O⟩):=
 cN (bZ k2) (fM (k0 k1) (dR (congrArg some ((decide_eq_decide.mpr Int.ofNat_lt).trans h))))
theorem Y8 (hc :¬cl<t.length) (hO:Lm O) :∃σ,ex G7 Qi ⟨[.list (kQ d cl)],pt (VX sc T nm e tl t cl d) .bh (.a5 0),O⟩=some (.nx,σ)/\RW nm t cl (kQ d cl) σ:=by
 rw [Cd]
 exact⟨_,kO (b:=false) (EA rfl rfl (decide_eq_false hc)) rfl,rfl,rfl,rfl,rfl,rfl,hO⟩
theorem Y7 (hed:Mu e) (htl:tl.length<=4) (hnl:nm.length<=6) (hl:t.length<=200000) (hO:Lm O) (hc:cl<t.length) :
  ∃σ,ex G7 Qi ⟨[.list (kQ d cl)],pt (VX sc T nm e tl t cl d) .bh (.a5 0),O⟩=some (.nx,σ)/\RW nm (qe t nm cl e tl) cl (kQ d cl++pR t nm cl e tl) σ:=by
 obtain⟨hfs,hps,htx⟩:=hed
 have ha1:(kQ d cl).length<=1:=by cases d<;>first|exact Nat.zero_le _|exact Nat.le_refl _
 unfold pR qe
 rw [Cd]
 generalize kQ d cl=acc at ha1 ⊢
 have s2:ex G7 YN ⟨[.list acc],pt (VX sc T nm e tl t cl d) .bh (.a5 0),O⟩=some (.nx,⟨[.list acc],pt (pt (VX sc T nm e tl t cl d) .bh (.a5 0)) .ah (.int ((cl+2+nm.length:Nat):Int)),O⟩):=
  b9 (eF (os:=[]) (eF (os:=[]) (y:=.int ((cl+2:Nat):Int)) (bZ (v:=.int (cl:Int)) rfl) rfl rfl) (dC (ll oT) (aU (bZ (v:=.str nm) rfl) rfl) (kD (y:=.int (nm.length:Int)) (os:=[]) rfl)) rfl)
 have s3:ex G7 YO ⟨[.list acc],pt (pt (VX sc T nm e tl t cl d) .bh (.a5 0)) .ah (.int ((cl+2+nm.length:Nat):Int)),O⟩=some (.nx,⟨[.list acc],pt (pt (pt (VX sc T nm e tl t cl d) .bh (.a5 0)) .ah (.int ((cl+2+nm.length:Nat):Int))) .aj (.str (qb t nm cl e)),((t.take (cl+2+nm.length)).length+e.tx.length)::O⟩):=
  b9 (eF (os:=[(t.take (cl+2+nm.length)).length+e.tx.length]) (mG (bZ (v:=.str t) rfl) rfl (bZ (v:=.int ((cl+2+nm.length:Nat):Int)) rfl) (GW _ _ _)) (bZ (v:=.str e.tx) rfl) rfl)
 have hle:(t.take (cl+2+nm.length)).length<=200000:=by rw [List.length_take];lia
 have hle2:(qb t nm cl e).length<=200005:=by unfold qb;rw [List.length_append];lia
 have hO3:Lm (((t.take (cl+2+nm.length)).length+e.tx.length)::O):=.cons (by show _<=1000000;lia) hO
 generalize ((t.take (cl+2+nm.length)).length+e.tx.length)::O=O3 at s3 hO3
 obtain⟨V4,O4,s4,k4,hO4⟩:=ND (fs:=e.fs) (pl:=((cl+2+nm.length:Nat):Int)) (V:=pt (pt (pt (VX sc T nm e tl t cl d) .bh (.a5 0)) .ah (.int ((cl+2+nm.length:Nat):Int))) .aj (.str (qb t nm cl e))) (acc:=acc) rfl rfl rfl hfs (by lia) hO3
 have kT:lk V4 .aj=some (.str (qb t nm cl e)):=(k4 _ (by decide) (by decide)).trans rfl
 have kR:lk V4 .bh=some (.a5 0):=(k4 _ (by decide) (by decide)).trans rfl
 have kN:lk V4 .aO=some (.str nm):=(k4 _ (by decide) (by decide)).trans rfl
 have kP:lk V4 .dS=some e.ps:=(k4 _ (by decide) (by decide)).trans rfl
 have kS:lk V4 .gI=some (.bool e.sh):=(k4 _ (by decide) (by decide)).trans rfl
 have kL:lk V4 .ib=some (.str tl):=(k4 _ (by decide) (by decide)).trans rfl
 have kC:lk V4 .aP=some (.int (cl:Int)):=(k4 _ (by decide) (by decide)).trans rfl
 have ha4:(acc++mJ ((cl+2+nm.length:Nat):Int) e.fs).length<=200001:=by
  rw [List.length_append,List.length_map]
  have:e.fs.length<=1:=by rcases hfs with h|⟨p,h⟩<;>rw [h]<;>first|exact Nat.zero_le _|exact Nat.le_refl _
  lia
 have go (σ:St) (h:ex G7 R3 ⟨[.list (acc++mJ ((cl+2+nm.length:Nat):Int) e.fs)],V4,O4⟩=some (.nx,σ)):ex G7 (.ite (.cmp (.v .aP) (.cons .lt (.call (.g .ba) (.cons (.v .aj) .nil)) .nil)) (.cons YN (.cons YO (.cons X0 (.cons R3 .nil)))) .nil) ⟨[.list acc],pt (VX sc T nm e tl t cl d) .bh (.a5 0),O⟩=some (.nx,σ):=
  kO (b:=true) (EA rfl rfl (decide_eq_true hc)) (aK s2 (aK s3 (aK s4 (aK h rfl))))
 rcases hps with hps|⟨q,hps⟩
 ·refine⟨_,go _ (IQ (hps▸kP)),?_⟩
  rw [hps]
  exact⟨congrArg (λl=>[AO.list (acc++l)]) (List.append_nil _).symm,kT,kN,kR,kC,hO4⟩
 ·obtain⟨V5,O5,s5,k5,k6,hO5⟩:=NF (acc:=acc++mJ ((cl+2+nm.length:Nat):Int) e.fs) (O:=O4) kT kR kN (hps▸kP) kS kL (by omega) (by rw [List.length_append];lia) hO4
  refine⟨_,go _ s5,?_⟩
  rw [hps]
  exact⟨congrArg (λl=>[AO.list l]) (List.append_assoc _ _ _),k5,(k6 _ (by decide) (by decide) (by decide)).trans kN,(k6 _ (by decide) (by decide) (by decide)).trans kR,(k6 _ (by decide) (by decide) (by decide)).trans kC,hO5⟩
end
noncomputable def KN (f:Fn) (ct:AV):AO:=.dict [(.aE,.inst .ay 3),(.gw,.none),(.fZ,.bool false),(.ee,.lst []),(.aC,.bD f (.inst .tok 2)),(.j0,.bool false),(.aB,ct)]
noncomputable def DE (R M:AO) (o:Option (List Nat)) (t:List Nat) (f:Fn):List AO:=match o with
 |some nm=>[R,M,tk f (.a5 5) 7 [],.ay 4 3 [] [] true,.txt t false,gg nm,.list [],.list []]
 |none=>[R,M,tk f .none 6 [],.ay 4 3 [] [] true,.txt t false,.list [],.list []]
section
variable {R M:AO} {t nm:List Nat} {f:Fn} {V:List (Nm×AV)} {O:List Nat} {wy:Int}
theorem AH (R M:AO) (t:List Nat):G7.call .wa [.inst .tok 2,.str t] [R,M,.dict []]=some (.none,[R,M,KN .bw .none,.ay 4 3 [] [] true,.txt t false],[7,6,5,4,0,3,2,1]):=by kernel_rfl
theorem l11 (h:lk V .aj=some (.str t)):ex G7 HN ⟨[R,M],V,O⟩=some (.nx,⟨[R,M,KN .bw .none,.ay 4 3 [] [] true,.txt t false],pt V .aN (.inst .tok 2),[7,6,5,4,0,3,2,1]++O⟩):=
 have g:G7.glob .d8=some (.cls .tok):=by kernel_rfl
 have hc:G7.call (G7.init .tok) (.inst .tok [R,M].length::[.str t]) ([R,M]++[.dict []])=some (.none,[R,M,KN .bw .none,.ay 4 3 [] [] true,.txt t false],[7,6,5,4,0,3,2,1]):=AH R M t
 b9 (dC (ll g) (aU (bZ h) rfl) (YP hc))
theorem l12 (h:lk V .aN=some (.inst .tok 2)):ex G7 HO ⟨[R,M,KN .bw .none,.ay 4 3 [] [] true,.txt t false],V,O⟩=some (.nx,⟨[R,M,KN .tS .none,.ay 4 3 [] [] true,.txt t false],V,8::O⟩):=by
 have hat:rP G7 [R,M,KN .bw .none,.ay 4 3 [] [] true,.txt t false] (.inst .tok 2) .bF=some (.bD .tS (.inst .tok 2)):=by kernel_rfl
 exact pM (aR:=[(.aE,.inst .ay 3),(.gw,.none),(.fZ,.bool false),(.ee,.lst []),(.aC,.bD .bw (.inst .tok 2)),(.j0,.bool false),(.aB,.none)]) (rY (bZ h) hat) (bZ h) rfl (by kernel_rfl) (by kernel_rfl)
end
noncomputable def Y2 (R M:AO) (o:Option (List Nat)) (t:List Nat) (f:Fn):List AO:=match o with
 |some nm=>[R,M,KN f (.a5 5),.ay 4 3 [] [] true,.txt t false,gg nm]
 |none=>[R,M,KN f .none,.ay 4 3 [] [] true,.txt t false]
noncomputable def X4 (R M:AO) (o:Option (List Nat)) (t:List Nat) (f:Fn):List AO:=Y2 R M o t f++[.list []]
section
variable {R M:AO} {t nm:List Nat} {f:Fn} {V:List (Nm×AV)} {O:List Nat} {wy:Int}
theorem Nx {G:cy} {ks:tZ} {σ:St} {aR:List (Nm×AV)} {H1:List AO} {V1:List (Nm×AV)} {O1:List Nat} (h:Ai G ks σ=some (aR,⟨H1,V1,O1⟩)):ev G (.ck ks false) σ=some (.a5 H1.length,⟨H1++[.dict aR],V1,aR.length::O1⟩):=aA h rfl
theorem rZ {G:cy} {k:Nm} {e:Ex} {ks:tZ} {σ σ1 σ2:St} {v:AV} {aR:List (Nm×AV)} (h:ev G e σ=some (v,σ1)) (j:Ai G ks σ1=some (aR,σ2)):Ai G (.cons k e ks) σ=some ((k,v)::aR,σ2):=aA h (aA j rfl)
theorem l13 (h:lk V .aN=some (.inst .tok 2)) (h2:lk V .aO=some (.str nm)) :
  ∃os,ex G7 HP ⟨[R,M,KN f .none,.ay 4 3 [] [] true,.txt t false],V,O⟩=some (.nx,⟨Y2 R M (gA nm) t f,V,os++O⟩)/\Lm os:=by
 cases nm with
 |nil=>exact⟨[],kO (b:=false) (l9 h2 rfl) rfl,.nil⟩
 |cons c r=>
  have g3:G7.glob .ag=some Xg:=by kernel_rfl
  have hty :∀H:List AO,nM H Xg (.str [83,116,97,114,116,84,97,103])=some (.int 3):=λH=>by kernel_rfl
  exact⟨[8,3,0],kO (b:=true) (l9 h2 rfl) (aK (pM (aR:=[(.aE,.inst .ay 3),(.gw,.none),(.fZ,.bool false),(.ee,.lst []),(.aC,.bD f (.inst .tok 2)),(.j0,.bool false),(.aB,.none)])
   (Nx (rZ (jO (ll g3) rfl (hty _)) (rZ (bZ h2) (rZ (uG rfl) rfl)))) (bZ h) rfl (by kernel_rfl) (by kernel_rfl)) rfl),.cons (by decide) (.cons (by decide) (.cons (by decide) .nil))⟩
theorem l14 {o:Option (List Nat)}:ex G7 HQ ⟨Y2 R M o t f,V,O⟩=some (.nx,⟨X4 R M o t f,pt V .e9 (.a5 (An o)),0::O⟩):=by
 cases o<;>rfl
theorem gs0 {o:Option (List Nat)} {W:List (Nm×AV)}:ex G7 G9 (mj 2 ⟨X4 R M o t f,W,O⟩)=some (.nx,⟨DE R M o t f,gV 2,8::0::O⟩):=by
 cases o<;>kernel_rfl
noncomputable def WG (t:List Nat):Bool:=t.all yU&&Nat.ble t.length 10240
theorem WM (hf:f=.tS) (o:Option (List Nat)) (c:Nat) (r:List Nat) (ht:WG (c::r)=true) :
  G7.call f [.inst .tok 2] (DE R M o (c::r) f)=G7.call f [.inst .tok 2] (hp R M o (c::r) f [] (c::r) false [] [] []):=by
 have k1:G6.call .ip [.inst .ay 3] (DE R M o (c::r) f)=some (.str [c],hp R M o (c::r) f [c] r false [] [] [],[]):=by
  have z :∀H,G6.call .ip [.inst .ay 3] H=G4.call .ip [.inst .ay 3] H:=λH=>by kernel_rfl
  rw [z]
  cases o<;>exact z6 _ _ _ _ _ _ ht
 have k2:G6.call .ip [.inst .ay 3] (hp R M o (c::r) f [] (c::r) false [] [] [])=some (.str [c],hp R M o (c::r) f [c] r false [] [] [],[]):=by
  cases o<;>kernel_rfl
 have e :∀H,rP G6 H (.inst .tok 2) .aE=some (.inst .ay 3)->gS G6 H (.inst .ay 3) .bK=some (.inl (.bD .ip (.inst .ay 3)))->G6.call .ip [.inst .ay 3] H=some (.str [c],hp R M o (c::r) f [c] r false [] [] [],[])->
   ex G6 WK ⟨H,[(.ae,.inst .tok 2)],[]⟩=some (.nx,⟨hp R M o (c::r) f [c] r false [] [] [],[(.ae,.inst .tok 2),(.af,.str [c])],[]⟩):=λH a1 a2 k=>b9 (V1:=[(.ae,.inst .tok 2)]) (d0 (rY (bZ rfl) a1) a2 rfl (nv (uM k)))
 have e1:=e (DE R M o (c::r) f) (by cases o<;>kernel_rfl) (by cases o<;>kernel_rfl) k1
 have e2:=e (hp R M o (c::r) f [] (c::r) false [] [] []) (by cases o<;>kernel_rfl) (by cases o<;>kernel_rfl) k2
 have go (rest:c5):bd (cG G6 (.cons WK rest) ⟨DE R M o (c::r) f,[(.ae,.inst .tok 2)],[]⟩) (λp=>bd (lF p.1) λr=>some (r,p.2.H,p.2.O))=bd (cG G6 (.cons WK rest) ⟨hp R M o (c::r) f [] (c::r) false [] [] [],[(.ae,.inst .tok 2)],[]⟩) (λp=>bd (lF p.1) λr=>some (r,p.2.H,p.2.O)):=by
  rw [mI e1,mI e2]
 subst hf
 exact go (WZ Lk)
theorem PF (hf:f=.tS) (o:Option (List Nat)) :
  G7.call f [.inst .tok 2] (DE R M o [] f)=G7.call f [.inst .tok 2] (hp R M o [] f [] [] true [] [] []):=by
 subst hf
 cases o<;>kernel_rfl
theorem PE (hf:f=.tS) (o:Option (List Nat)) (t:List Nat) (ht:WG t=true) :
  G7.call f [.inst .tok 2] (DE R M o t f)=G7.call f [.inst .tok 2] (hp R M o t f [] t t.isEmpty [] [] []):=by
 cases t with
 |nil=>exact PF hf o
 |cons c r=>exact WM hf o c r ht
theorem Kr (hf:f=.tS) (o:Option (List Nat)) (t:List Nat) (ht:WG t=true) (V:List (Nm×AV)) (O:List Nat) (k:Nat) :
  uQ k true ⟨DE R M o t f,V,O⟩=uQ k true ⟨hp R M o t f [] t t.isEmpty [] [] [],V,O⟩:=by
 cases k with
 |zero=>rfl
 |succ k=>
  have e1 (H:List AO) (h:H=DE R M o t f\/H=hp R M o t f [] t t.isEmpty [] [] []):cZ G7 wW (mj 2 ⟨H,V,O⟩)=bd (m7 (G7.call f [.inst .tok 2] H) ⟨H,gV 2,O⟩ some) λr=>bd (bW r.2.H r.1) λb=>some (b,r.2):=by
   rcases h with rfl|rfl<;>cases o<;>kernel_rfl
  have e2:cZ G7 wW (mj 2 ⟨DE R M o t f,V,O⟩)=cZ G7 wW (mj 2 ⟨hp R M o t f [] t t.isEmpty [] [] [],V,O⟩):=by
   rw [e1 _ (.inl rfl),e1 _ (.inr rfl),PE hf o t ht]
   rfl
  show bd (cZ G7 wW (mj 2 ⟨DE R M o t f,V,O⟩)) _=bd (cZ G7 wW (mj 2 ⟨hp R M o t f [] t t.isEmpty [] [] [],V,O⟩)) _
  rw [e2]
  rfl
end
inductive RG (H:List AO) (t:List Nat):List AV->List AV->Prop
 |nil:RG H t [] []
 |cons {i:Nat} {v g z:AV} {rs gs:List AV}:i<=t.length->fP H 5 true (.tup [bE (t.take i).reverse,v])=some z->fP H 5 true g=some z->RG H t rs gs->RG H t (.tup [.int (i:Int),v]::rs) (g::gs)
theorem RG.app {H:List AO} {t:List Nat} {a b c d:List AV} (h:RG H t a b) (h':RG H t c d):RG H t (a++c) (b++d):=by
 induction h with
 |nil=>exact h'
 |cons x y z _ ih=>exact .cons x y z ih
theorem FZ (H:List AO) (t rest:List Nat) :∀(ps:List (Int×List Nat)) (pre:List Nat),t=pre++((ps.map Prod.snd).flatten++rest)->RG H t (gB pre.length ps) (fy pre.reverse ps)
 |[],_,_=>.nil
 |(k,p)::ps,pre,e=>by
  rw [gB,fy]
  have e2:t=(pre++p)++((ps.map Prod.snd).flatten++rest):=by rw [e];simp
  have ht:(t.take (pre.length+p.length)).reverse=p.reverse++pre.reverse:=by
   have:pre.length+p.length=(pre++p).length:=by simp
   rw [this]
   conv=>lhs;rw [e2]
   rw [List.take_left,List.reverse_append]
  have ih:=FZ H t rest ps (pre++p) e2
  rw [List.length_append,List.reverse_append]at ih
  refine .cons (by rw [e2];simp) ?_ rfl ih
  rw [ht];rfl
noncomputable def JR (t:List Nat):AV->AV
 |.tup [.int i,v]=>.tup [bE (t.take i.toNat).reverse,v]
 |v=>v
theorem PG {H:List AO} {t:List Nat} {rs gs:List AV} (h:RG H t rs gs) :∃z,vi (fP H 5 true) (rs.map (JR t))=some z/\vi (fP H 5 true) gs=some z:=by
 induction h with
 |nil=>exact⟨[],rfl,rfl⟩
 | @cons i v g z rs gs hi h1 h2 _ ih=>
  exact Exists.elim ih λzs q=>⟨z::zs,aA h1 (aA q.1 rfl),aA h2 (aA q.2 rfl)⟩
noncomputable def cE:Ex:=(.tup (.cons (.ix (.v .a6) (.v .ah)) (.cons (.v .aD) .nil)))
theorem N4 {H:List AO} {n:Nat} {vs:List AV} (h:H[n]?=some (.list vs)) {i:Nat} {v:AV} (hi:vs[i]?=some v):nM H (.a5 n) (.int (i:Int))=some v:=by
 show bd (fb H n) (λvs=>(idx (i:Int) vs.length).map λj=>vs.getD j AV.none)=_
 refine aA (gZ h) ?_
 rw [sC (List.getElem?_eq_some_iff.mp hi).1]
 show some (vs.getD i AV.none)=_
 rw [List.getD_eq_getElem?_getD,hi]
 rfl
theorem sG {H:List AO} {t:List Nat} (hM:H[1]?=some (.list (mn [] t))) {i:Nat} (hi:i<=t.length):nM H (.a5 1) (.int (i:Int))=some (bE (t.take i).reverse):=
 N4 hM ((zh t [] i hi).trans (by rw [List.append_nil]))
theorem Nf {H:List AO} {t:List Nat} {rs gs:List AV} (hM:H[1]?=some (.list (mn [] t))) (h:RG H t rs gs) :∀(V:List (Nm×AV)) (O:List Nat),lk V .a6=some (.a5 1)->Lm O->
  ∃V' O',jI (hK [.ah,.aD] true) (mh G7 .nil) (ev G7 cE) rs ⟨H,V,O⟩=some (rs.map (JR t),⟨H,V',O'⟩)/\Lm O':=by
 induction h with
 |nil=>exact λV O _ hO=>⟨V,O,rfl,hO⟩
 | @cons i v g z rs gs hi h1 h2 _ ih=>
  intro V O hV hO
  have k1:lk (pt (pt V .ah (.int (i:Int))) .aD v) .a6=some (.a5 1):=(bt (by decide)).trans ((bt (by decide)).trans hV)
  have k2:lk (pt (pt V .ah (.int (i:Int))) .aD v) .ah=some (.int (i:Int)):=(bt (by decide)).trans bp
  have k3:lk (pt (pt V .ah (.int (i:Int))) .aD v) .aD=some v:=bp
  obtain⟨V',O',e,hO'⟩:=ih (pt (pt V .ah (.int (i:Int))) .aD v) (2::O) k1 (.cons (by decide) hO)
  have ha:hK [Nm.ah,Nm.aD] true (.tup [.int (i:Int),v]) ⟨H,V,O⟩=some ⟨H,pt (pt V .ah (.int (i:Int))) .aD v,O⟩:=rfl
  generalize pt (pt V .ah (.int (i:Int))) .aD v=W at k1 k2 k3 e ha
  have he:ev G7 cE ⟨H,W,O⟩=some (.tup [bE (t.take i).reverse,v],⟨H,W,2::O⟩):=i8 (vs:=[bE (t.take i).reverse,v]) (aU (jO (bZ k1) (bZ k2) (sG hM hi)) (aU (bZ k3) rfl))
  exact⟨V',O',aA ha (aA (x:=(true,⟨H,W,O⟩)) rfl (aA he (aA e rfl))),hO'⟩
theorem CK {H:List AO} {a b z:AV} (h:uq .eq a b=none) (h1:fP H 6 true a=some z) (h2:fP H 6 true b=some z):jU H .eq a b=some true:=by
 unfold jU
 rw [h]
 exact aA h1 (aA h2 (if_pos rfl))
noncomputable def qT1:Ex:=(.or (.cons (.cmp (.v .aD) (.cons .ne (.call (.g .bx) (.cons (.c (.str [67,104,97,114,97,99,116,101,114,115])) (.cons (.ix (.v .aD) (.c (.str [100,97,116,97]))) .nil))) .nil)) (.cons (.cmp (.ix (.v .aD) (.c (.str [100,97,116,97]))) (.cons .eq (.c (.str [])) .nil)) .nil)))
noncomputable def qT2:Ex:=(.or (.cons (.cmp (.call (.g .ba) (.cons (.v .a8) .nil)) (.cons .gt (.call (.g .ba) (.cons (.v .aj) .nil)) .nil)) (.cons (.cmp (.v .dv) (.cons .ne (.ix (.v .a6) (.call (.g .ba) (.cons (.v .a8) .nil))) .nil)) .nil)))
noncomputable def qB:c5:=(.cons (.ite qT1 (.cons (.ret (.c (.bool false))) .nil) .nil) (.cons (.aug (.v .a8) .add (.ix (.v .aD) (.c (.str [100,97,116,97])))) (.cons (.ite qT2 (.cons (.ret (.c (.bool false))) .nil) .nil) .nil)))
theorem NT:n5=(.cons (.asg (.v .fI) (.call (.g .rp) (.cons (.c (.int 0)) (.cons (.bin .sub (.call (.g .ba) (.cons (.v .e9) .nil)) (.call (.g .ba) (.cons (.v .bh) .nil))) .nil)))) (.cons (.asg (.v .a8) (.c (.str []))) (.cons (.fr [.dv,.aD] true (.sl (.v .e9) .no (.v .fI)) qB) (.cons (.ret (.and (.cons (.cmp (.v .a8) (.cons .eq (.sl (.v .aj) .no (.v .aP)) .nil)) (.cons (.cmp (.sl (.v .e9) (.v .fI) .no) (.cons .eq (.comp [(.ah,.loc),(.aD,.loc),(.a6,.qt)] (.tup (.cons (.ix (.v .a6) (.v .ah)) (.cons (.v .aD) .nil))) [.ah,.aD] (.v .bh) .nil) .nil)) (.cons (.cmp (.aq (.at (.v .aN) .aE) .dk .nil) (.cons .eq (.ix (.v .a6) (.call (.g .ba) (.cons (.v .aj) .nil))) .nil)) .nil))))) .nil)))):=by kernel_rfl
theorem JX {H:List AO} {p:List Nat}:jU H .ne (aT 1 p) (aT 1 p)=some false:=by
 unfold jU
 rw [show uq .ne (aT 1 p) (aT 1 p)=none from rfl]
 show alt (neT H (aT 1 p) (aT 1 p)) some (Ye H (aT 1 p) (aT 1 p))=some false
 have e:neT H (aT 1 p) (aT 1 p)=none:=rfl
 have e2:Ye H (aT 1 p) (aT 1 p)=some false:=aA (x:=aT 1 p) rfl (aA rfl (aA (x:=aT 1 p) rfl (if_pos rfl)))
 rw [e,e2]
 rfl
theorem JY {H:List AO} {rb:List Nat}:jU H .ne (bE rb) (bE rb)=some false:=by
 unfold jU
 rw [show uq .ne (bE rb) (bE rb)=none from rfl]
 have e:neT H (bE rb) (bE rb)=some false:=aA (x:=bE rb) rfl (aA rfl (aA (x:=bE rb) rfl (if_pos rfl)))
 show alt (neT H (bE rb) (bE rb)) some (Ye H (bE rb) (bE rb))=_
 rw [e]
 rfl
theorem FN {H:List AO} {t:List Nat} (hM:H[1]?=some (.list (mn [] t))) (hz:t.length<=300000) :∀(ps:List (List Nat)) (J:List Nat) (V:List (Nm×AV)) (O:List Nat),lk V .a6=some (.a5 1)->lk V .aj=some (.str t)->lk V .a8=some (.str J)->(∀p∈ps,p≠[])->(∃w,t=J++(ps.flatten++w))->Lm O->
  ∃V' O',jY (hK [.dv,.aD] true) (cG G7 qB) (fy J.reverse (ZD ps)) ⟨H,V,O⟩=some (.nx,⟨H,V',O'⟩)/\lk V' .a8=some (.str (J++ps.flatten))/\(∀x,x≠.dv->x≠.aD->x≠.a8->lk V' x=lk V x)/\Lm O'
 |[],J,V,O,_,_,h3,_,_,hO=>⟨V,O,rfl,by rw [List.flatten_nil,List.append_nil];exact h3,λ_ _ _ _=>rfl,hO⟩
 |p::ps,J,V,O,h1,h2,h3,hn,⟨w,hw⟩,hO=>by
  rw [List.flatten_cons,List.append_assoc,<-List.append_assoc]at hw
  have hlw:=congrArg List.length hw
  rw [List.length_append,List.length_append]at hlw
  have hjp:(J++p).length=J.length+p.length:=List.length_append
  have k1:lk (pt (pt V .dv (bE (p.reverse++J.reverse))) .aD (aT 1 p)) .a6=some (.a5 1):=(bt (by decide)).trans ((bt (by decide)).trans h1)
  have k2:lk (pt (pt V .dv (bE (p.reverse++J.reverse))) .aD (aT 1 p)) .aj=some (.str t):=(bt (by decide)).trans ((bt (by decide)).trans h2)
  have k3:lk (pt (pt V .dv (bE (p.reverse++J.reverse))) .aD (aT 1 p)) .a8=some (.str J):=(bt (by decide)).trans ((bt (by decide)).trans h3)
  have k4:lk (pt (pt V .dv (bE (p.reverse++J.reverse))) .aD (aT 1 p)) .aD=some (aT 1 p):=bp
  have k5:lk (pt (pt V .dv (bE (p.reverse++J.reverse))) .aD (aT 1 p)) .dv=some (bE (p.reverse++J.reverse)):=(bt (by decide)).trans bp
  have ha:hK [.dv,.aD] true (.tup [bE (p.reverse++J.reverse),aT 1 p]) ⟨H,V,O⟩=some ⟨H,pt (pt V .dv (bE (p.reverse++J.reverse))) .aD (aT 1 p),O⟩:=rfl
  have n1 :∀{x:Nm},x≠.dv->x≠.aD->lk (pt (pt V .dv (bE (p.reverse++J.reverse))) .aD (aT 1 p)) x=lk V x:=λa b=>(bt λz=>b z.symm).trans (bt λz=>a z.symm)
  generalize pt (pt V .dv (bE (p.reverse++J.reverse))) .aD (aT 1 p)=V1 at k1 k2 k3 k4 k5 ha n1
  have dat :∀O,ev G7 (.ix (.v .aD) (.c (.str [100,97,116,97]))) ⟨H,V1,O⟩=some (.str p,⟨H,V1,O⟩):=λO=>jO (bZ k4) rfl (by kernel_rfl)
  have t1:cZ G7 qT1 ⟨H,V1,O⟩=some (false,⟨H,V1,2::O⟩):=by
   have c1:cZ G7 (.cmp (.v .aD) (.cons .ne (.call (.g .bx) (.cons (.c (.str ZG)) (.cons (.ix (.v .aD) (.c (.str [100,97,116,97]))) .nil))) .nil)) ⟨H,V1,O⟩=some (false,⟨H,V1,2::O⟩):=
    cN (bZ k4) (fM (dC (ll Dj) (aU rfl (aU (dat _) rfl)) (su (O':=[2]) (LY p H))) JX)
   have c2:cZ G7 (.cmp (.ix (.v .aD) (.c (.str [100,97,116,97]))) (.cons .eq (.c (.str [])) .nil)) ⟨H,V1,2::O⟩=some (false,⟨H,V1,2::O⟩):=
    cN (dat _) (fM rfl (dR (by
     show some (bQ p [])=_
     cases p with
     |nil=>exact absurd rfl (hn [] (.head _))
     |cons=>rfl)))
   exact rE (or_cons c1 (or_cons c2 rfl))
  have hO2:Lm ((J.length+p.length)::2::O):=.cons (by show _<=1000000;rw [List.length_append]at hlw;lia) (.cons (by decide) hO)
  have s2:ex G7 (.aug (.v .a8) .add (.ix (.v .aD) (.c (.str [100,97,116,97])))) ⟨H,V1,2::O⟩=some (.nx,⟨H,pt V1 .a8 (.str (J++p)),(J.length+p.length)::2::O⟩):=pN (os:=[J.length+p.length]) k3 (dat _) rfl
  have m1:lk (pt V1 .a8 (.str (J++p))) .a6=some (.a5 1):=(bt (by decide)).trans k1
  have m2:lk (pt V1 .a8 (.str (J++p))) .aj=some (.str t):=(bt (by decide)).trans k2
  have m3:lk (pt V1 .a8 (.str (J++p))) .a8=some (.str (J++p)):=bp
  have m5:lk (pt V1 .a8 (.str (J++p))) .dv=some (bE (p.reverse++J.reverse)):=(bt (by decide)).trans k5
  have n2 :∀{x:Nm},x≠.dv->x≠.aD->x≠.a8->lk (pt V1 .a8 (.str (J++p))) x=lk V x:=λa b c=>(bt λz=>c z.symm).trans (n1 a b)
  generalize pt V1 .a8 (.str (J++p))=V2 at s2 m1 m2 m3 m5 n2
  generalize (J.length+p.length)::2::O=O2 at s2 hO2
  have lj :∀O,ev G7 (.call (.g .ba) (.cons (.v .a8) .nil)) ⟨H,V2,O⟩=some (.int ((J++p).length:Int),⟨H,V2,O⟩):=λO=>dC (ll oT) (aU (bZ m3) rfl) (kD (y:=.int ((J++p).length:Int)) (os:=[]) rfl)
  have hix:=sG (i:=(J++p).length) hM (by lia)
  rw [hw,List.take_left,List.reverse_append]at hix
  have t2:cZ G7 qT2 ⟨H,V2,O2⟩=some (false,⟨H,V2,O2⟩):=by
   have c1:cZ G7 (.cmp (.call (.g .ba) (.cons (.v .a8) .nil)) (.cons .gt (.call (.g .ba) (.cons (.v .aj) .nil)) .nil)) ⟨H,V2,O2⟩=some (false,⟨H,V2,O2⟩):=
    cN (lj _) (fM (k0 m2) (dR (congrArg some (decide_eq_false (by lia)))))
   have c2:cZ G7 (.cmp (.v .dv) (.cons .ne (.ix (.v .a6) (.call (.g .ba) (.cons (.v .a8) .nil))) .nil)) ⟨H,V2,O2⟩=some (false,⟨H,V2,O2⟩):=
    cN (bZ m5) (fM (jO (bZ m1) (lj _) hix) JY)
   exact rE (or_cons c1 (or_cons c2 rfl))
  obtain⟨V',O',e,j',n',hO'⟩:=FN hM hz ps (J++p) V2 O2 m1 m2 m3 (λq m=>hn q (.tail _ m)) ⟨w,hw⟩ hO2
  rw [List.reverse_append]at e
  refine⟨V',O',nW ha (dW t1 (aK s2 (dW t2 rfl))) e,?_,λx a b c=>(n' x a b c).trans (n2 a b c),hO'⟩
  rw [List.flatten_cons,<-List.append_assoc]
  exact j'
theorem PX {H:List AO} {g:Nat} {vs:List AV} (h:H[g]?=some (.list vs)) {n:Nat} (hn:n<=vs.length):vx H (.a5 g) .none (.int (n:Int))=some (.lst (vs.take n))/\vx H (.a5 g) (.int (n:Int)) .none=some (.lst (vs.drop n)):=by
 have e1:vx H (.a5 g) .none (.int (n:Int))=bd (fb H g) λvs=>some (AV.lst (eM vs 0 (dh (n:Int) vs.length))):=rfl
 have e2:vx H (.a5 g) (.int (n:Int)) .none=bd (fb H g) λvs=>some (AV.lst (eM vs (dh (n:Int) vs.length) vs.length)):=rfl
 rw [e1,e2,gZ h]
 refine⟨?_,?_⟩
 ·show some (AV.lst (eM vs 0 (dh (n:Int) vs.length)))=_
  rw [gh,Nat.min_eq_left hn]
  rfl
 ·show some (AV.lst (eM vs (dh (n:Int) vs.length) vs.length))=_
  rw [gh,Nat.min_eq_left hn]
  unfold eM
  rw [List.take_length]
theorem RG.len {H:List AO} {t:List Nat} {a b:List AV} (h:RG H t a b):a.length=b.length:=by
 induction h with
 |nil=>rfl
 |cons _ _ _ _ ih=>exact congrArg (·+1) ih
theorem vb {ks:List (Nm×Kd)} {x:Nm} (h:N0 (lk ks x)=true) :∀V:List (Nm×AV),lk (ji ks V) x=lk V x
 |[]=>rfl
 |p::r=>by
  have ih:=vb h r
  show lk (List.filter _ (p::r)) x=_
  rw [List.filter_cons]
  by_cases e:p.1=x
  ·rw [if_pos (e▸h),dT,dT,if_pos e,if_pos e]
  ·rw [dT (r:=r),if_neg e]
   split
   ·rw [dT,if_neg e];exact ih
   ·exact ih
theorem zb {H:List AO} {g:Nat} {vs:List AV} (h:H[g]?=some (.list vs)):BL H .len [.a5 g]=some (.int (vs.length:Int),[]):=by
 show alt (fb H g) (λvs=>some (AV.int vs.length,([]:List Nat))) _=_
 rw [gZ h]
 rfl
theorem Je {H:List AO} {t w:List Nat} {rows gk:List AV} {ps:List (List Nat)} {g cl:Nat} {V:List (Nm×AV)} {O:List Nat} (hR:H[0]?=some (.list rows)) (hM:H[1]?=some (.list (mn [] t))) (hG:H[g]?=some (.list (lb ps++gk)))
  (ha:rP G7 H (.inst .tok 2) .aE=some (.inst .ay 3)) (hm:gS G7 H (.inst .ay 3) .dk=some (.inl (.bD .lZ (.inst .ay 3)))) (hp:G7.call .lZ [.inst .ay 3] H=some (bE t.reverse,H,[]))
  (k1:lk V .bh=some (.a5 0)) (k2:lk V .a6=some (.a5 1)) (k3:lk V .e9=some (.a5 g)) (k4:lk V .aN=some (.inst .tok 2)) (k5:lk V .aj=some (.str t)) (k6:lk V .aP=some (.int (cl:Int)))
  (rg:RG H t rows gk) (hn :∀p∈ps,p≠[]) (ht:t=ps.flatten++w) (hcl:ps.flatten.length=cl) (hl:rows.length<=1000000) (hz:t.length<=300000) (hO:Lm O) :∃σ,cG G7 n5 ⟨H,V,O⟩=some (.rt (.bool true),σ)/\Lm σ.O:=by
 have g1:G7.glob .rp=some (.bi .max):=by kernel_rfl
 have hlen:(lb ps).length=ps.length:=by rw [jn,List.length_map]
 have rl:=rg.len
 have lg:ev G7 (.call (.g .ba) (.cons (.v .e9) .nil)) ⟨H,V,O⟩=some (.int ((lb ps++gk).length:Int),⟨H,V,O⟩):=dC (ll oT) (aU (bZ k3) rfl) (kD (os:=[]) (zb hG))
 have lr:ev G7 (.call (.g .ba) (.cons (.v .bh) .nil)) ⟨H,V,O⟩=some (.int (rows.length:Int),⟨H,V,O⟩):=dC (ll oT) (aU (bZ k1) rfl) (kD (os:=[]) (zb hR))
 have s1:ex G7 (.asg (.v .fI) (.call (.g .rp) (.cons (.c (.int 0)) (.cons (.bin .sub (.call (.g .ba) (.cons (.v .e9) .nil)) (.call (.g .ba) (.cons (.v .bh) .nil))) .nil)))) ⟨H,V,O⟩=some (.nx,⟨H,pt V .fI (.int (ps.length:Int)),O⟩):=by
  have hb:BL H .max [.int 0,.int (((lb ps++gk).length:Int)-(rows.length:Int))]=some (.int (ps.length:Int),[]):=by
   show some (AV.int (max 0 _),([]:List Nat))=_
   rw [List.length_append,hlen,<-rl]
   congr 3
   lia
  exact b9 (dC (ll g1) (aU rfl (aU (eF (os:=[]) lg lr rfl) rfl)) (kD (os:=[]) hb))
 have s2:ex G7 (.asg (.v .a8) (.c (.str []))) ⟨H,pt V .fI (.int (ps.length:Int)),O⟩=some (.nx,⟨H,pt (pt V .fI (.int (ps.length:Int))) .a8 (.str []),O⟩):=b9 rfl
 have n2 :∀{x:Nm},x≠.fI->x≠.a8->lk (pt (pt V .fI (.int (ps.length:Int))) .a8 (.str [])) x=lk V x:=λa b=>(bt λz=>b z.symm).trans (bt λz=>a z.symm)
 have kc:lk (pt (pt V .fI (.int (ps.length:Int))) .a8 (.str [])) .fI=some (.int (ps.length:Int)):=(bt (by decide)).trans bp
 have kj:lk (pt (pt V .fI (.int (ps.length:Int))) .a8 (.str [])) .a8=some (.str []):=bp
 generalize pt (pt V .fI (.int (ps.length:Int))) .a8 (.str [])=V2 at s2 n2 kc kj
 obtain⟨x1,x2⟩:=PX hG (n:=ps.length) (by rw [List.length_append];simp +arith only [*])
 rw [<-hlen,List.take_left]at x1
 rw [<-hlen,List.drop_left]at x2
 rw [hlen]at x1 x2
 obtain⟨V3,O3,e3,j3,n3,hO3⟩:=FN hM hz ps [] V2 O ((n2 (by decide) (by decide)).trans k2) ((n2 (by decide) (by decide)).trans k5) kj hn ⟨w,ht⟩ hO
 rw [List.nil_append]at j3
 have n {x:Nm} (a:x≠.fI) (b:x≠.a8) (c:x≠.dv) (d:x≠.aD):lk V3 x=lk V x:=(n3 x c d b).trans (n2 a b)
 have c3:lk V3 .fI=some (.int (ps.length:Int)):=(n3 _ (by decide) (by decide) (by decide)).trans kc
 have s3:ex G7 (.fr [.dv,.aD] true (.sl (.v .e9) .no (.v .fI)) qB) ⟨H,V2,O⟩=some (.nx,⟨H,V3,O3⟩):=vm (mG (bZ ((n2 (by decide) (by decide)).trans k3)) rfl (bZ kc) x1) rfl e3
 have k1':lk V3 .bh=some (.a5 0):=(n (by decide) (by decide) (by decide) (by decide)).trans k1
 have k2':lk V3 .a6=some (.a5 1):=(n (by decide) (by decide) (by decide) (by decide)).trans k2
 have k3':lk V3 .e9=some (.a5 g):=(n (by decide) (by decide) (by decide) (by decide)).trans k3
 have k4':lk V3 .aN=some (.inst .tok 2):=(n (by decide) (by decide) (by decide) (by decide)).trans k4
 have k5':lk V3 .aj=some (.str t):=(n (by decide) (by decide) (by decide) (by decide)).trans k5
 have k6':lk V3 .aP=some (.int (cl:Int)):=(n (by decide) (by decide) (by decide) (by decide)).trans k6
 obtain⟨V',O',ec,hO'⟩:=Nf hM rg (ji [(.ah,.loc),(.aD,.loc),(.a6,.qt)] V3) O3 ((vb rfl _).trans k2') hO3
 obtain⟨z,d1,d2⟩:=PG rg
 have hi:D3 H (pureE cE&&xe .nil) (.a5 0)=some rows:=show fb H 0=_ from gZ hR
 have ecp:=C2 (ks:=[(.ah,.loc),(.aD,.loc),(.a6,.qt)]) (t:=[.ah,.aD]) (cs:=.nil) (elt:=cE) rfl (bZ k1') hi ec
 have y1:fP H 6 true (.lst gk)=some (.lst z):=by
  show(vi _ _).map AV.lst=_
  rw [d2];rfl
 have y2:fP H 6 true (.lst (rows.map (JR t)))=some (.lst z):=by
  show(vi (fP H 5 true) (rows.map (JR t))).map AV.lst=_
  rw [d1];rfl
 have v1:ev G7 (.cmp (.v .a8) (.cons .eq (.sl (.v .aj) .no (.v .aP)) .nil)) ⟨H,V3,O3⟩=some (.bool true,⟨H,V3,O3⟩):=by
  refine qY (bZ j3) (fM (mG (bZ k5') rfl (bZ k6') (GW _ _ _)) (dR ?_))
  show some (bQ ps.flatten (t.take cl))=_
  rw [ht,<-hcl,List.take_left,fC,beq_self_eq_true]
 have v2:=qY (mG (hi:=.no) (bZ (O0:=O3) k3') (bZ c3) rfl x2) (fM ecp (CK rfl y1 y2))
 rw [List.length_map]at v2
 have hix:=sG hM (Nat.le_refl t.length)
 rw [List.take_length]at hix
 have v3 :∀O,ev G7 (.cmp (.aq (.at (.v .aN) .aE) .dk .nil) (.cons .eq (.ix (.v .a6) (.call (.g .ba) (.cons (.v .aj) .nil))) .nil)) ⟨H,V3,O⟩=some (.bool true,⟨H,V3,O⟩):=λO=>qY (d0 (rY (bZ k4') ha) hm rfl (nv (uM (O':=[]) hp))) (fM (jO (bZ k2') (k0 k5') hix) (CK rfl rfl rfl))
 rw [NT]
 exact⟨⟨H,V3,rows.length::O'⟩,aK s1 (aK s2 (aK s3 (ik (RX (Xk v1 (Xk v2 (ZT (v3 _)))))))),.cons hl hO'⟩
theorem rG (xs:List Int):Al (textOf xs):=λc m=>by
 unfold textOf at m
 rw [List.mem_flatten]at m
 obtain⟨l,hl,hc⟩:=m
 rw [List.mem_map]at hl
 obtain⟨y,_,rfl⟩:=hl
 exact Be _ (nF y) c hc
theorem yO {n:Nat} :∀{ls:List (List Nat)},(∀l∈ls,l.length<=n)->ls.flatten.length<=ls.length * n
 |[],_=>by simp
 |l::ls,h=>by
  have a:=h l (.head _)
  have b:=yO (ls:=ls) λq m=>h q (.tail _ m)
  rw [List.flatten_cons,List.length_append,List.length_cons,Nat.add_mul]
  lia
theorem rH (xs:List Int):(textOf xs).length<=126:=by
 unfold textOf
 have:=yO (n:=9) (ls:=(xs.take 14).map pieceOf) λl m=>by
  rw [List.mem_map]at m
  obtain⟨y,_,rfl⟩:=m
  exact Bf _ (nF y)
 rw [List.length_map]at this
 have h2:(xs.take 14).length<=14:=by rw [List.length_take];lia
 have:(xs.take 14).length * 9<=14 * 9:=Nat.mul_le_mul_right _ h2
 lia
theorem MO :∀c∈alpha,yU c=true:=by decide
theorem Po {t:List Nat} (h:Al t) (hl:t.length<=1000):WG t=true:=by
 unfold WG
 rw [Bool.and_eq_true]
 refine⟨List.all_eq_true.mpr λc m=>MO c (h c m),?_⟩
 exact Nat.ble_eq.mpr (by lia)
structure Start (nm t:List Nat) (cl:Nat) (rows:List AV) (σ:St):Prop where
 h:σ.H=X4 (.list rows) (.list (mn [] t)) (gA nm) t .tS
 tx:lk σ.V .aj=some (.str t)
 ro:lk σ.V .bh=some (.a5 0)
 ma:lk σ.V .a6=some (.a5 1)
 tk:lk σ.V .aN=some (.inst .tok 2)
 gt:lk σ.V .e9=some (.a5 (An (gA nm)))
 cl:lk σ.V .aP=some (.int (cl:Int))
 lm:Lm σ.O
theorem Gh {nm t:List Nat} {cl:Nat} {rows:List AV} {σ:St} (ht:t.length<=1000) (r:RW nm t cl rows σ) :
  ∃σ1,cG G7 (.cons HM (.cons HN (.cons HO (.cons HP (.cons HQ .nil))))) σ=some (.nx,σ1)/\Start nm t cl rows σ1:=by
 obtain⟨H,V,O⟩:=σ
 obtain⟨rfl,tx,nm_,ro,kc,lm⟩:=r
 obtain⟨os,hm,hos⟩:=A7 (.list rows) t (by lia)
 have g:G7.glob .fW=some (.fn .pq):=by kernel_rfl
 have s9:ex G7 HM ⟨[.list rows],V,O⟩=some (.nx,⟨[.list rows,.list (mn [] t)],pt V .a6 (.a5 1),os++O⟩):=b9 (dC (ll g) (aU (bZ tx) rfl) (su hm))
 have n9 {x:Nm} (h:x≠.a6):lk (pt V .a6 (.a5 1)) x=lk V x:=bt λz=>h z.symm
 have m9:lk (pt V .a6 (.a5 1)) .a6=some (.a5 1):=bp
 generalize pt V .a6 (.a5 1)=V1 at s9 n9 m9
 have n10 {x:Nm} (h:x≠.aN):lk (pt V1 .aN (.inst .tok 2)) x=lk V1 x:=bt λz=>h z.symm
 have s10:=l11 (R:=.list rows) (M:=.list (mn [] t)) (O:=os++O) ((n9 (by decide)).trans tx)
 have t10:lk (pt V1 .aN (.inst .tok 2)) .aN=some (.inst .tok 2):=bp
 generalize pt V1 .aN (.inst .tok 2)=V2 at s10 n10 t10
 have n {x:Nm} (h:x≠.aN) (h':x≠.a6):lk V2 x=lk V x:=(n10 h).trans (n9 h')
 have s11:=l12 (R:=.list rows) (M:=.list (mn [] t)) (t:=t) (O:=[7,6,5,4,0,3,2,1]++(os++O)) t10
 obtain⟨os2,s12,hos2⟩:=l13 (R:=.list rows) (M:=.list (mn [] t)) (t:=t) (f:=.tS) (O:=8::([7,6,5,4,0,3,2,1]++(os++O))) t10 ((n (by decide) (by decide)).trans nm_)
 exact⟨_,aK s9 (aK s10 (aK s11 (aK s12 (aK l14 rfl)))),rfl,(bt (by decide)).trans ((n (by decide) (by decide)).trans tx),(bt (by decide)).trans ((n (by decide) (by decide)).trans ro),(bt (by decide)).trans ((n10 (by decide)).trans m9),(bt (by decide)).trans t10,bp,(bt (by decide)).trans ((n (by decide) (by decide)).trans kc),.cons (by decide) (hos2.app (.cons (by decide) (Lm.app (λk hk=>Nat.le_trans ((by decide :∀k∈[7,6,5,4,0,3,2,1],k<=10) k hk) (by decide)) (hos.app lm))))⟩
noncomputable def Yk (xs:List Int) (cl:Nat):List Nat:=cond (decide (cl<(textOf xs).length)) (qe (textOf xs) (nameOf (xs.take 14).sum) cl (jX (xs.take 14).sum) (iu (xs.take 14).sum)) (textOf xs)
noncomputable def ZF (xs:List Int) (cl:Nat) (d:Bool):List AV:=cond (decide (cl<(textOf xs).length)) (kQ d cl++pR (textOf xs) (nameOf (xs.take 14).sum) cl (jX (xs.take 14).sum) (iu (xs.take 14).sum)) (kQ d cl)
theorem Jd (xs:List Int) :∃(cl:Nat) (d:Bool),cl<=(textOf xs).length/\SC (gA (nameOf (xs.take 14).sum)) .S (sm (textOf xs))=((sm (textOf xs)).drop cl,d)/\
  ((Yk xs cl).length<=1000->∃σ1,cG G7 kn ⟨[],[(.cW,eG xs)],[]⟩=some (.nx,σ1)/\Start (nameOf (xs.take 14).sum) (Yk xs cl) cl (ZF xs cl d) σ1):=by
 have hle:=rH xs
 obtain⟨cl,d,os,hc,hos,hcl,hsc⟩:=wJ (textOf xs) (nameOf (xs.take 14).sum) (rG xs) (by lia) (Nat.le_trans (pI _ (k7 _)) (by decide))
 refine⟨cl,d,hcl,hsc,λht=>?_⟩
 have hO6:Lm (os++((textOf xs).length::(xs.take 14).length::[4,3])):=hos.app (.cons (by show _<=1000000;lia) (.cons (by rw [List.length_take];show _<=1000000;lia) (.cons (by decide) (.cons (by decide) .nil))))
 obtain⟨O8,s8,hO8⟩:=l78 (sc:=eG xs) (T:=(xs.take 14).sum) (nm:=nameOf (xs.take 14).sum) (tl:=iu (xs.take 14).sum) (t:=textOf xs) (e:=jX (xs.take 14).sum) (cl:=cl) (d:=d) (q:=.cons Qi (.cons HM (.cons HN (.cons HO (.cons HP (.cons HQ .nil)))))) hO6
 have go {rows:List AV} {t:List Nat} {σ9:St} (htl:t.length<=1000) (s9:ex G7 Qi ⟨[.list (kQ d cl)],pt (VX (eG xs) (xs.take 14).sum (nameOf (xs.take 14).sum) (jX (xs.take 14).sum) (iu (xs.take 14).sum) (textOf xs) cl d) .bh (.a5 0),O8⟩=some (.nx,σ9)) (r9:RW (nameOf (xs.take 14).sum) t cl rows σ9) :
   ∃σ1,cG G7 kn ⟨[],[(.cW,eG xs)],[]⟩=some (.nx,σ1)/\Start (nameOf (xs.take 14).sum) t cl rows σ1:=by
  obtain⟨σ1,e,st⟩:=Gh htl r9
  refine⟨σ1,?_,st⟩
  rw [NS]
  exact aK (l1 xs []) (aK (l2 (T:=(xs.take 14).sum) [] rfl) (aK (l3 (T:=(xs.take 14).sum) [3] rfl) (aK (l4 (T:=(xs.take 14).sum) [3] rfl) (aK (l5 xs [4,3]) (aK (l6 hc) (s8.trans (aK s9 e)))))))
 unfold Yk at ht ⊢
 unfold ZF
 by_cases hlt:cl<(textOf xs).length
 ·rw [decide_eq_true hlt]at ht ⊢
  obtain⟨σ9,s9,r9⟩:=Y7 (sc:=eG xs) (T:=(xs.take 14).sum) (d:=d) (C6 _ (lD (xs.take 14).sum)) (wc _ (qd (xs.take 14).sum)) (pI _ (k7 (xs.take 14).sum)) (t:=textOf xs) (by lia) hO8 hlt
  exact go ht s9 r9
 ·rw [decide_eq_false hlt]at ht ⊢
  obtain⟨σ9,s9,r9⟩:=Y8 (sc:=eG xs) (T:=(xs.take 14).sum) (nm:=nameOf (xs.take 14).sum) (tl:=iu (xs.take 14).sum) (e:=jX (xs.take 14).sum) (d:=d) hlt hO8
  exact go ht s9 r9
section
variable {x y:List Nat}
theorem pa :∀(w P:List Nat),(∀a∈w,a≠60)->aM w (P++60::x)=aM w (P++60::y)
 |[],_,_=>rfl
 |a::w,[],h=>(bO λz=>h a (.head _) z.symm).trans (bO λz=>h a (.head _) z.symm).symm
 |a::w,b::P,h=>congrArg (Nat.beq a b&&·) (pa w P λc m=>h c (.tail _ m))
theorem pb :∀(w P:List Nat),(∀a∈w,a≠60)->aM w (P++60::x)=true->w.length<=P.length
 |[],_,_,_=>Nat.zero_le _
 |a::w,[],h,k=>by rw [show aM (a::w) ([]++60::x)=false from bO λz=>h a (.head _) z.symm]at k;cases k
 |a::w,b::P,h,k=>Nat.succ_le_succ (pb w P (λc m=>h c (.tail _ m)) (Bool.and_eq_true_iff.mp k).2)
theorem Yh :∀(w P:List Nat),(∀a∈w,a≠60)->(aM w (P++60::x)&&FF ((P++60::x).drop w.length))=(aM w (P++60::y)&&FF ((P++60::y).drop w.length))
 |[],[],_=>rfl
 |[],_::_,_=>rfl
 |a::w,[],h=>by rw [pa (x:=x) (y:=y) (a::w) [] h,show aM (a::w) ([]++60::y)=false from bO λz=>h a (.head _) z.symm];rfl
 |a::w,b::P,h=>by
  have:=Yh w P λc m=>h c (.tail _ m)
  show((Nat.beq a b&&aM w (P++60::x))&&FF ((P++60::x).drop w.length))=((Nat.beq a b&&aM w (P++60::y))&&FF ((P++60::y).drop w.length))
  rw [Bool.and_assoc,this,Bool.and_assoc]
theorem ZE :∀(w P:List Nat),(∀a∈w,a≠60)->(aM w (P++60::x)&&FF ((P++60::x).drop w.length))=true->w.length<P.length
 |[],[],_,k=>nomatch k
 |[],_::_,_,_=>Nat.succ_pos _
 |a::w,[],h,k=>by rw [show aM (a::w) ([]++60::x)=false from bO λz=>h a (.head _) z.symm]at k;cases k
 |a::w,b::P,h,k=>by
  have k:((Nat.beq a b&&aM w (P++60::x))&&FF ((P++60::x).drop w.length))=true:=k
  rw [Bool.and_assoc]at k
  exact Nat.succ_lt_succ (ZE w P (λc m=>h c (.tail _ m)) (Bool.and_eq_true_iff.mp k).2)
variable {o:Option (List Nat)}
theorem Nn (hn:mu o) (d:Nat) (P:List Nat):g7 o (d::P++60::x)=g7 o (d::P++60::y):=by
 cases o with
 |none=>rfl
 |some nm=>
  have h :∀a∈47::nm,a≠60:=λa m=>by
   rcases List.mem_cons.mp m with rfl|m
   ·decide
   ·exact λz=>absurd (z▸hn.le nm rfl a m) (by decide)
  have:=Yh (x:=x) (y:=y) (47::nm) P h
  show((Nat.beq 60 d&&aM (47::nm) (P++60::x))&&FF ((d::(P++60::x)).drop (2+nm.length)))=((Nat.beq 60 d&&aM (47::nm) (P++60::y))&&FF ((d::(P++60::y)).drop (2+nm.length)))
  rw [Nat.add_comm]
  show((Nat.beq 60 d&&aM (47::nm) (P++60::x))&&FF ((P++60::x).drop (47::nm).length))=((Nat.beq 60 d&&aM (47::nm) (P++60::y))&&FF ((P++60::y).drop (47::nm).length))
  rw [Bool.and_assoc,this,Bool.and_assoc]
theorem Gp (m:Md) (d:Nat) (P:List Nat):tB m (d::P++60::x)=tB m (d::P++60::y):=by
 cases m with
 |S=>exact congrArg (Nat.beq 60 d&&·) (pa [33,45,45] P (by decide))
 |E=>exact congrArg (Nat.beq 45 d&&·) (pa [45,62] P (by decide))
 |D=>exact congrArg (Nat.beq 45 d&&·) (pa [45,62] P (by decide))
theorem W7 {m:Md} {d:Nat} {P:List Nat} (h:tB m (d::P++60::x)=true):kB m<=P.length:=by
 cases m with
 |S=>exact Nat.le_trans (by decide) (pb [33,45,45] P (by decide) (Bool.and_eq_true_iff.mp h).2)
 |E=>exact pb [45,62] P (by decide) (Bool.and_eq_true_iff.mp h).2
 |D=>exact pb [45,62] P (by decide) (Bool.and_eq_true_iff.mp h).2
theorem LR (m:Md) (d:Nat) (P:List Nat):tC m (d::P++60::x)=tC m (d::P++60::y):=by
 cases m with
 |S=>rfl
 |E=>
  show((Nat.beq 60 d&&aM eY (P++60::x))&&FF ((P++60::x).drop eY.length))=((Nat.beq 60 d&&aM eY (P++60::y))&&FF ((P++60::y).drop eY.length))
  rw [Bool.and_assoc,Yh (x:=x) (y:=y) eY P (by decide),Bool.and_assoc]
 |D=>
  show((Nat.beq 60 d&&aM (47::eY) (P++60::x))&&FF ((P++60::x).drop (47::eY).length))=((Nat.beq 60 d&&aM (47::eY) (P++60::y))&&FF ((P++60::y).drop (47::eY).length))
  rw [Bool.and_assoc,Yh (x:=x) (y:=y) (47::eY) P (by decide),Bool.and_assoc]
theorem W8 {m:Md} {d:Nat} {P:List Nat} (h:tC m (d::P++60::x)=true):kC m<=P.length:=by
 cases m with
 |S=>cases h
 |E=>
  have h:((Nat.beq 60 d&&aM eY (P++60::x))&&FF ((P++60::x).drop eY.length))=true:=h
  rw [Bool.and_assoc]at h
  exact ZE eY P (by decide) (Bool.and_eq_true_iff.mp h).2
 |D=>
  have h:((Nat.beq 60 d&&aM (47::eY) (P++60::x))&&FF ((P++60::x).drop (47::eY).length))=true:=h
  rw [Bool.and_assoc]at h
  exact ZE (47::eY) P (by decide) (Bool.and_eq_true_iff.mp h).2
end
theorem lq {o:Option (List Nat)} :∀(N:Nat) (m:Md) (l:List Nat),l.length<N->(SC o m l).1=[]\/(g7 o (SC o m l).1=true/\(SC o m l).2=false/\(SC o m l).1.length<=l.length)
 |0,_,_,h=>absurd h (Nat.not_lt_zero _)
 |N+1,m,[],_=>.inl rfl
 |N+1,m,d::s,h=>by
  have h:=Nat.lt_of_succ_lt_succ h
  have up {k:Nat} {m':Md} (ih:(SC o m' (s.drop k)).1=[]\/(g7 o (SC o m' (s.drop k)).1=true/\(SC o m' (s.drop k)).2=false/\(SC o m' (s.drop k)).1.length<=(s.drop k).length)) (e:SC o m (d::s)=SC o m' (s.drop k)) :
    (SC o m (d::s)).1=[]\/(g7 o (SC o m (d::s)).1=true/\(SC o m (d::s)).2=false/\(SC o m (d::s)).1.length<=(d::s).length):=by
   rw [e]
   exact ih.imp id λz=>⟨z.1,z.2.1,Nat.le_trans z.2.2 (by rw [List.length_drop,List.length_cons];lia)⟩
  have dl (k:Nat):(s.drop k).length<N:=by rw [List.length_drop];omega
  cases a:tA o m (d::s)with
  |true=>
   rw [zU a]
   refine .inr ⟨?_,rfl,Nat.le_refl _⟩
   unfold tA at a
   cases hD:kJ m with
   |true=>rw [hD]at a;cases a
   |false=>rw [hD]at a;exact a
  |false=>cases b:tB m (d::s)with
   |true=>exact up (lq N _ _ (dl (kB m))) (rN a b)
   |false=>cases c:tC m (d::s)with
    |true=>exact up (lq N _ _ (dl (kC m))) (wx a b c)
    |false=>exact up (k:=0) (lq N m _ (dl 0)) (bN a b c)
theorem QU {o:Option (List Nat)} (m:Md) (l:List Nat):(SC o m l).1.length<=l.length:=(lq (o:=o) (l.length+1) m l (Nat.lt_succ_self _)).elim (λh=>by rw [h];exact Nat.zero_le _) λh=>h.2.2
theorem Ca {o:Option (List Nat)} (hn:mu o) {x y:List Nat} (hy:g7 o (60::y)=true) :∀(N:Nat) (m:Md) (P:List Nat),P.length<N->SC o m (P++60::x)=(60::x,false)->SC o m (P++60::y)=(60::y,false)
 |0,_,_,h,_=>absurd h (Nat.not_lt_zero _)
 |N+1,m,[],_,h=>by
  have no {m':Md} {k:Nat} (e:SC o m (60::x)=SC o m' (x.drop k)):False:=by
   have:=QU (o:=o) m' (x.drop k)
   rw [<-e,show SC o m (60::x)=(60::x,false)from h,List.length_drop,List.length_cons]at this
   omega
  have a:tA o m (60::x)=true:=by
   cases a:tA o m (60::x)with
   |true=>rfl
   |false=>cases b:tB m (60::x)with
    |true=>exact(no (rN a b)).elim
    |false=>cases c:tC m (60::x)with
     |true=>exact(no (wx a b c)).elim
     |false=>exact(no (k:=0) (bN a b c)).elim
  refine zU ?_
  unfold tA at a ⊢
  cases hD:kJ m with
  |true=>rw [hD]at a;cases a
  |false=>exact hy
 |N+1,m,d::P,hN,h=>by
  have hN:=Nat.lt_of_succ_lt_succ hN
  have go {m':Md} {k:Nat} (hk:k<=P.length) (e1:SC o m (d::P++60::x)=SC o m' ((P++60::x).drop k)) (e2:SC o m (d::P++60::y)=SC o m' ((P++60::y).drop k)):SC o m (d::P++60::y)=(60::y,false):=by
   rw [List.drop_append_of_le_length hk]at e1 e2
   rw [e2]
   exact Ca hn hy N m' (P.drop k) (by rw [List.length_drop];omega) (e1.symm.trans h)
  have aa:tA o m (d::P++60::x)=tA o m (d::P++60::y):=by unfold tA;rw [Nn hn]
  cases a:tA o m (d::P++60::x)with
  |true=>
   have:=congrArg (λz=>z.1.length) ((zU a).symm.trans h)
   have:(d::P++60::x).length=(60::x).length:=this
   rw [List.length_append,List.length_cons]at this
   lia
  |false=>cases b:tB m (d::P++60::x)with
   |true=>exact go (W7 b) (rN a b) (rN (aa▸a) (Gp m d P▸b))
   |false=>cases c:tC m (d::P++60::x)with
    |true=>exact go (W8 c) (wx a b c) (wx (aa▸a) (Gp m d P▸b) (LR m d P▸c))
    |false=>exact go (k:=0) (Nat.zero_le _) (bN a b c) (bN (aa▸a) (Gp m d P▸b) (LR m d P▸c))
theorem jE {t rb u:List Nat} (ht:t=rb.reverse++u) (k:Nat):(t.take (rb.length+k)).reverse=(u.take k).reverse++rb:=by
 have:rb.length=rb.reverse.length:=by simp
 rw [this,ht,List.take_append]
 simp
 rw [List.take_of_length_le (by simp),List.reverse_reverse]
noncomputable def vo (P:Nat) (nm:List Nat) (e:Ed):List AV:=(e.fs.map λp=>.tup [.int ((P:Int)+p.1),aT 7 p.2])++match e.ps with
 |.lst q=>[.tup [.int ((P+e.tx.length:Nat):Int),sq nm (.lst q) e.sh]]
 |_=>[]
noncomputable def oz (R M:AO) (nm t:List Nat) (V0:List (Nm×AV)) (ap:Bool) (e:Ed):Prop:=
 ∀(rb tl b:List Nat) (got:List AV),nm=b.map gY->nq nm b->got.length<=200000->tl.length<=200000->(e.ps=.none->tl=[])->t=rb.reverse++(e.tx++tl)->
  ∃K en gk,g6 (dX R M t V0 (gg nm) [] (ql ap) (.a5 5) rb (e.tx++tl) false b got) (dX R M t V0 (gg nm) K .bw (.a5 9) (e.tx.reverse++rb) tl en b (got++gk))/\(tl≠[]->en=false)/\gk.length<=3/\
   ∀rbF gotF,RG (hX R M t (gg nm) K .bw (.a5 9) rbF [] true b gotF []) t (vo rb.length nm e) gk
section
variable {R M:AO} {nm t:List Nat} {V0:List (Nm×AV)} {ap:Bool}
theorem IF:oz R M nm t V0 ap ⟨[62],[],(.lst []),false⟩:=by
 intro rb tl b got hn F hg hl hp ht
 subst hn
 have go:=fe0 (R:=R) (M:=M) (t:=t) (V0:=V0) (ap:=ap) (rb:=rb) (au:=tl) (got:=got) F (by lia) (by lia)
 refine⟨KL b false,false,[.tup [bE (62::rb),.a5 9]],go,λ_=>rfl,by simp,λrbF gotF=>?_⟩
 have t1:(t.take (rb.length+1)).reverse=62::rb:=by
  rw [jE ht];rfl
 exact .cons (i:=rb.length+1) (by rw [ht];simp [List.length_append]) (by rw [t1];rfl) rfl (.nil)
theorem IG:oz R M nm t V0 ap ⟨[32,62],[],(.lst []),false⟩:=by
 intro rb tl b got hn F hg hl hp ht
 subst hn
 have go:=fe1 (R:=R) (M:=M) (t:=t) (V0:=V0) (ap:=ap) (rb:=rb) (au:=tl) (got:=got) F (by lia) (by lia)
 refine⟨KL b false,false,[.tup [bE (62::32::rb),.a5 9]],go,λ_=>rfl,by simp,λrbF gotF=>?_⟩
 have t2:(t.take (rb.length+2)).reverse=62::32::rb:=by
  rw [jE ht];rfl
 exact .cons (i:=rb.length+2) (by rw [ht];simp [List.length_append]) (by rw [t2];rfl) rfl (.nil)
theorem IH:oz R M nm t V0 ap ⟨[47,62],[(2,[115,101,108,102,45,99,108,111,115,105,110,103,45,102,108,97,103,45,111,110,45,101,110,100,45,116,97,103])],(.lst []),true⟩:=by
 intro rb tl b got hn F hg hl hp ht
 subst hn
 have go:=fe2 (R:=R) (M:=M) (t:=t) (V0:=V0) (ap:=ap) (rb:=rb) (au:=tl) (got:=got) F (by lia) (by lia)
 refine⟨KL b true,false,[.tup [bE (62::47::rb),aT 7 [115,101,108,102,45,99,108,111,115,105,110,103,45,102,108,97,103,45,111,110,45,101,110,100,45,116,97,103]],.tup [bE (62::47::rb),.a5 9]],go,λ_=>rfl,by simp,λrbF gotF=>?_⟩
 have t2:(t.take (rb.length+2)).reverse=62::47::rb:=by
  rw [jE ht];rfl
 exact .cons (i:=rb.length+2) (by rw [ht];simp [List.length_append]) (by rw [t2];rfl) rfl (.cons (i:=rb.length+2) (by rw [ht];simp [List.length_append]) (by rw [t2];rfl) rfl (.nil))
theorem II:oz R M nm t V0 ap ⟨[10,107,61,49,62],[(5,[97,116,116,114,105,98,117,116,101,115,45,105,110,45,101,110,100,45,116,97,103])],(.lst [.lst [.str [107],.str [49]]]),false⟩:=by
 intro rb tl b got hn F hg hl hp ht
 subst hn
 have go:=fe3 (R:=R) (M:=M) (t:=t) (V0:=V0) (ap:=ap) (rb:=rb) (au:=tl) (got:=got) F (by lia) (by lia)
 refine⟨KA b,false,[.tup [bE (62::49::61::107::10::rb),aT 7 [97,116,116,114,105,98,117,116,101,115,45,105,110,45,101,110,100,45,116,97,103]],.tup [bE (62::49::61::107::10::rb),.a5 9]],go,λ_=>rfl,by simp,λrbF gotF=>?_⟩
 have t5:(t.take (rb.length+5)).reverse=62::49::61::107::10::rb:=by
  rw [jE ht];rfl
 exact .cons (i:=rb.length+5) (by rw [ht];simp [List.length_append]) (by rw [t5];rfl) rfl (.cons (i:=rb.length+5) (by rw [ht];simp [List.length_append]) (by rw [t5];rfl) rfl (.nil))
theorem IJ:oz R M nm t V0 ap ⟨[47,32,62],[(1,[117,110,101,120,112,101,99,116,101,100,45,99,104,97,114,97,99,116,101,114,45,97,102,116,101,114,45,115,111,108,105,100,117,115,45,105,110,45,116,97,103])],(.lst []),false⟩:=by
 intro rb tl b got hn F hg hl hp ht
 subst hn
 have go:=fe4 (R:=R) (M:=M) (t:=t) (V0:=V0) (ap:=ap) (rb:=rb) (au:=tl) (got:=got) F (by lia) (by lia)
 refine⟨KL b false,false,[.tup [bE (47::rb),aT 7 [117,110,101,120,112,101,99,116,101,100,45,99,104,97,114,97,99,116,101,114,45,97,102,116,101,114,45,115,111,108,105,100,117,115,45,105,110,45,116,97,103]],.tup [bE (62::32::47::rb),.a5 9]],go,λ_=>rfl,by simp,λrbF gotF=>?_⟩
 have t1:(t.take (rb.length+1)).reverse=47::rb:=by
  rw [jE ht];rfl
 have t3:(t.take (rb.length+3)).reverse=62::32::47::rb:=by
  rw [jE ht];rfl
 exact .cons (i:=rb.length+1) (by rw [ht];simp [List.length_append]) (by rw [t1];rfl) rfl (.cons (i:=rb.length+3) (by rw [ht];simp [List.length_append]) (by rw [t3];rfl) rfl (.nil))
theorem IK:oz R M nm t V0 ap ⟨[32],[(1,[101,120,112,101,99,116,101,100,45,97,116,116,114,105,98,117,116,101,45,110,97,109,101,45,98,117,116,45,103,111,116,45,101,111,102])],.none,false⟩:=by
 intro rb tl b got hn F hg hl hp ht
 have htl:=hp rfl
 subst htl
 subst hn
 have go:=fe5 (R:=R) (M:=M) (t:=t) (V0:=V0) (ap:=ap) (rb:=rb) (au:=[]) (got:=got) F (by lia) (by simp)
 refine⟨[.list [],ja b false 8],true,[.tup [bE (32::rb),aT 7 [101,120,112,101,99,116,101,100,45,97,116,116,114,105,98,117,116,101,45,110,97,109,101,45,98,117,116,45,103,111,116,45,101,111,102]]],go,λh=>absurd rfl h,by simp,λrbF gotF=>?_⟩
 have t1:(t.take (rb.length+1)).reverse=32::rb:=by
  rw [jE ht];rfl
 exact .cons (i:=rb.length+1) (by rw [ht];simp [List.length_append]) (by rw [t1];rfl) rfl (.nil)
theorem IL :∀e∈C5,oz R M nm t V0 ap e:=by
 unfold C5
 exact List.forall_mem_cons.mpr ⟨IF,List.forall_mem_cons.mpr ⟨IG,List.forall_mem_cons.mpr ⟨IH,List.forall_mem_cons.mpr ⟨II,List.forall_mem_cons.mpr ⟨IJ,List.forall_mem_cons.mpr ⟨IK,List.forall_mem_nil _⟩⟩⟩⟩⟩⟩
end
structure Mv (o:Option (List Nat)) (rows:List AV) (t:List Nat) (cl:Nat) (V0:List (Nm×AV)) (σ:St):Prop where
 r:σ.H[0]?=some (.list rows)
 m:σ.H[1]?=some (.list (mn [] t))
 got :∃ps gk w,σ.H[An o]?=some (.list (lb ps++gk))/\RG σ.H t rows gk/\(∀p∈ps,p≠[])/\t=ps.flatten++w/\ps.flatten.length=cl
 ha:rP G7 σ.H (.inst .tok 2) .aE=some (.inst .ay 3)
 hm:gS G7 σ.H (.inst .ay 3) .dk=some (.inl (.bD .lZ (.inst .ay 3)))
 hp:G7.call .lZ [.inst .ay 3] σ.H=some (bE t.reverse,σ.H,[])
 v:HL o V0 σ.V
 lm:Lm σ.O
noncomputable def Done (xs:List Int):Prop:=∃σ1 aR τ0 fu σ3 σ4,cG G7 kn ⟨[],[(.cW,eG xs)],[]⟩=some (.nx,σ1)/\ev G7 (.v .aN) σ1=some (.inst .tok 2,σ1)/\iO σ1.H 2=some aR/\
 ex G7 G9 (mj 2 σ1)=some (.nx,τ0)/\d6 G7 2 .aD (cG G7 nZ) fu true (bk σ1 τ0)=some σ3/\cG G7 n5 σ3=some (.rt (.bool true),σ4)/\Lm σ4.O
theorem IA {xs:List Int} {nm t:List Nat} {cl:Nat} {rows:List AV} {σ1:St} (ht:t.length<=1000) (hA:Al t) (hl:rows.length<=1000000) (eA:cG G7 kn ⟨[],[(.cW,eG xs)],[]⟩=some (.nx,σ1)) (s:Start nm t cl rows σ1)
  (lp :∀V0 σ,wq (.list rows) (.list (mn [] t)) (gA nm) t V0 .tS [] t t.isEmpty [] [] σ->∃fu σ3,uQ fu true σ=some σ3/\Mv (gA nm) rows t cl V0 σ3):Done xs:=by
 obtain⟨H,V,O⟩:=σ1
 obtain⟨rfl,tx,ro,ma,tk,gt,kc,lm⟩:=s
 obtain⟨fu,⟨H3,V3,O3⟩,el,fr,fm,⟨ps,gk,w,fg,rg,hn,hw,hcl⟩,fa,fme,fp,fv,fl⟩:=lp V ⟨hp (.list rows) (.list (mn [] t)) (gA nm) t .tS [] t t.isEmpty [] [] [],V,8::0::O⟩ ⟨rfl,⟨λ_ _=>rfl,tk,gt⟩,.cons (by decide) (.cons (by decide) lm)⟩
 obtain⟨σ4,eC,hz⟩:=Je (H:=H3) (V:=V3) (O:=O3) fr fm fg fa fme fp ((fv.same _ (by decide)).trans ro) ((fv.same _ (by decide)).trans ma) ((fv.same _ (by decide)).trans gt) ((fv.same _ (by decide)).trans tk) ((fv.same _ (by decide)).trans tx) ((fv.same _ (by decide)).trans kc) rg hn hw hcl hl (by lia) fl
 have hH :∃aR,iO (X4 (.list rows) (.list (mn [] t)) (gA nm) t .tS) 2=some aR:=by
  cases gA nm<;>exact⟨_,rfl⟩
 exact hH.elim λaR hH=>⟨_,aR,_,fu,_,σ4,eA,bZ tk,hH,gs0,(Kr rfl _ _ (Po hA ht) _ _ _).trans el,eC,hz⟩
theorem NK {R M:AO} {o:Option (List Nat)} {rows:List AV} {t:List Nat} {cl:Nat} {V0:List (Nm×AV)} {f:Fn} {tb:List (Nm×AV)} {ps:List (List Nat)} {gk:List AV} {σ:St} (p:wq (.list rows) (.list (mn [] t)) o t V0 f t.reverse [] true tb (lb ps++gk) σ)
  (rg :∀H,RG H t rows gk) (hn :∀p∈ps,p≠[]) (hw:ps.flatten=t) (hcl:t.length=cl):Mv o rows t cl V0 σ:=by
 obtain⟨H,V,O⟩:=σ
 obtain⟨rfl,v,lm⟩:=p
 refine⟨?_,?_,⟨ps,gk,[],?_,rg _,hn,by rw [hw,List.append_nil],by rw [hw,hcl]⟩,?_,?_,zv,v,lm⟩
 ·cases o<;>rfl
 ·cases o<;>rfl
 ·cases o<;>rfl
 ·cases o<;>kernel_rfl
 ·cases o<;>kernel_rfl
theorem IS {rows:List AV} {t nm:List Nat} {cl:Nat} {V0:List (Nm×AV)} {CD:AO} {K:List AO} {ct:AV} {b w:List Nat} {ps:List (List Nat)} {gk:List AV} {σ:St} (p:dX (.list rows) (.list (mn [] t)) t V0 CD K .bw ct t.reverse [] true b (lb ps++gk) σ)
  (rg:RG (hX (.list rows) (.list (mn [] t)) t CD K .bw ct t.reverse [] true b (lb ps++gk) []) t rows gk) (hn :∀p∈ps,p≠[]) (hw:t=ps.flatten++w) (hcl:ps.flatten.length=cl):Mv (some nm) rows t cl V0 σ:=by
 obtain⟨H,V,O⟩:=σ
 obtain⟨rfl,v,lm⟩:=p
 exact⟨rfl,rfl,⟨ps,gk,w,rfl,rg,hn,hw,hcl⟩,by kernel_rfl,by kernel_rfl,Xl,⟨v.same,v.tok,v.got⟩,lm⟩
theorem S1 {nm:List Nat} (h:nm∈names):dQ (gA nm)/\mu (gA nm):=by
 rcases List.mem_cons.mp h with rfl|h
 ·exact⟨⟨λnm e=>by cases e;kernel_rfl,λnm e=>by cases e;decide⟩,⟨(λnm e=>by cases e;exact λz=>(nomatch z)),λnm e=>by cases e;decide⟩⟩
 ·rcases List.mem_cons.mp h with rfl|h
  ·exact⟨⟨λnm e=>by cases e;kernel_rfl,λnm e=>by cases e;decide⟩,⟨(λnm e=>by cases e;exact λz=>(nomatch z)),λnm e=>by cases e;decide⟩⟩
  ·cases List.mem_singleton.mp h
   exact⟨⟨λnm e=>(nomatch e),λnm e=>(nomatch e)⟩,⟨λnm e=>(nomatch e),λnm e=>(nomatch e)⟩⟩
theorem Gx :∀n∈mf,∀c∈n,c∈alpha:=by decide
theorem Ny :∀e∈C5,(∀c∈e.tx,c∈alpha)/\∃x r,e.tx=x::r/\gG x=true:=by
 unfold C5
 repeat' first|exact List.forall_mem_nil _|refine List.forall_mem_cons.mpr ⟨⟨by decide,_,_,rfl,rfl⟩,?_⟩
noncomputable def KO (e:Ed) (tl:List Nat):List Nat:=match e.ps with
 |.lst _=>tl
 |_=>[]
theorem Gz (t nm:List Nat) (f:Nat) (e:Ed) (tl:List Nat):qe t nm f e tl=t.take (f+2+nm.length)++(e.tx++KO e tl):=by
 unfold qe KO qb
 cases e.ps<;>simp
theorem F4 (t nm:List Nat) (f:Nat) (e:Ed) (tl:List Nat) (hP:(t.take (f+2+nm.length)).length=f+2+nm.length) (he:Mu e) :
  pR t nm f e tl=vo (f+2+nm.length) nm e++gB ((f+2+nm.length)+e.tx.length) (rJ (KO e tl)):=by
 unfold pR vo KO qb
 rcases he.ps with h|⟨q,h⟩
 ·rw [h]
  simp [rJ,gB]
 ·rw [h]
  simp only [List.length_append,hP]
  simp
theorem GB (l:List Nat):((rJ l).map Prod.snd).flatten=l:=by
 have h:=List.takeWhile_append_dropWhile (p:=jq) (l:=l)
 unfold rJ
 rw [List.map_append,List.flatten_append]
 conv=>rhs;rw [<-h]
 congr 1
 ·cases l.takeWhile jq<;>simp
 ·cases l.dropWhile jq<;>simp
theorem KP (l:List Nat):(rJ l).length<=2:=by
 unfold rJ
 rw [List.length_append]
 cases l.takeWhile jq<;>cases l.dropWhile jq<;>simp
theorem v9 {R M:AO} {o:Option (List Nat)} {t l:List Nat} {V0:List (Nm×AV)} {σ:St} (hA:Al l) (p:wq R M o t V0 .tS [] l l.isEmpty [] [] σ):MI R M o t V0 .tS none [] l [] σ:=
 ⟨⟨l.isEmpty,wM,p⟩,trivial,(λz=>nomatch z),(λ_ m=>nomatch m),Nat.le_refl _,hA,rfl,λ_ m=>nomatch m⟩
theorem pX (l:List Nat):(sm l).length=l.length:=List.length_map _
theorem aac {xs:List Int} {t0 nm tl' t:List Nat} {rows:List AV} {e:Ed} {cl:Nat} {d:Bool} (hle:t0.length<=126) (hA0:Al t0) (hsc:SC (gA nm) .S (sm t0)=((sm t0).drop cl,d)) (hlt:cl<t0.length)
  (hrun:t.length<=1000->∃σ1,cG G7 kn ⟨[],[(.cW,eG xs)],[]⟩=some (.nx,σ1)/\Start nm t cl (kQ d cl++rows) σ1) (hnm:nm∈names) (hem:e∈C5) (htx:t=t0.take (cl+2+nm.length)++(e.tx++tl'))
  (hrw:(t0.take (cl+2+nm.length)).length=cl+2+nm.length->rows=vo (cl+2+nm.length) nm e++gB ((cl+2+nm.length)+e.tx.length) (rJ tl')) (htl':tl'∈mf) (hps:e.ps=.none->tl'=[]):Done xs:=by
 have hed:=C6 _ hem
 have hea:=Ny _ hem
 obtain⟨hno,hn2⟩:=S1 hnm
 have hnl:=pI nm hnm
 have hd0:t0.drop cl≠[]:=λz=>by have:=congrArg List.length z;rw [List.length_drop,List.length_nil]at this;omega
 have hr:=lq (o:=gA nm) ((sm t0).length+1) .S (sm t0) (Nat.lt_succ_self _)
 rw [hsc,<-List.map_drop]at hr
 obtain⟨hcb,hd,_⟩:g7 (gA nm) (sm (t0.drop cl))=true/\d=false/\_:=hr.resolve_left λz=>hd0 (List.map_eq_nil_iff.mp z)
 subst hd
 have hne:nm≠[]:=λz=>by subst z;cases hcb
 have ho:gA nm=some nm:=by cases nm with|nil=>exact absurd rfl hne|cons=>rfl
 rw [ho]at hno hn2 hcb hsc
 have hAd:Al (t0.drop cl):=λc m=>hA0 c (List.mem_of_mem_drop m)
 obtain⟨B,u,hu,hB,hBl,hFu⟩ :∃B u,t0.drop cl=60::47::(B++u)/\sm B=nm/\B.length=nm.length/\FF (sm u)=true:=by
  have h:=Bool.and_eq_true_iff.mp hcb
  obtain⟨r,hr⟩:=gn h.1
  have h60 :∀c∈alpha,eD c=60->c=60:=by decide
  have h47 :∀c∈alpha,eD c=47->c=47:=by decide
  match hx:t0.drop cl,hAd,hr,h.2 with
  |[],_,hr,_=>cases hr
  |[a],_,hr,_=>cases (List.cons.inj hr).2
  |a::b::q,hAd,hr,hf=>
   have i1:=List.cons.inj hr
   have i2:=List.cons.inj i1.2
   have ea:=h60 a (hAd a (.head _)) i1.1
   have eb:=h47 b (hAd b (.tail _ (.head _))) i2.1
   subst ea;subst eb
   have hq:sm q=nm++r:=i2.2
   have hql:=congrArg List.length hq
   rw [pX,List.length_append]at hql
   refine⟨q.take nm.length,q.drop nm.length,by rw [List.take_append_drop],?_,by rw [List.length_take];lia,?_⟩
   ·show List.map eD (q.take nm.length)=nm
    rw [List.map_take]
    exact(congrArg (List.take _) hq).trans List.take_left
   ·have:(sm (60::47::q)).drop (2+nm.length)=sm (q.drop nm.length):=by
     rw [Nat.add_comm]
     exact List.map_drop.symm
    rw [<-this];exact hf
 have hul:=congrArg List.length hu
 rw [List.length_drop,List.length_cons,List.length_cons,List.length_append]at hul
 have hlet :∀c∈B,dP c=true/\c∈alpha:=λc m=>by
  have hc:c∈alpha:=hAd c (hu▸.tail _ (.tail _ (List.mem_append_left _ m)))
  have:eD c∈nm:=hB▸List.mem_map_of_mem m
  exact⟨(EF c hc)▸(A8 nm hnm _ this).1,hc⟩
 have hP:(t0.take (cl+2+nm.length)).length=cl+2+nm.length:=by rw [List.length_take];lia
 have hpre:t0.take (cl+2+nm.length)=t0.take cl++60::47::B:=by
  rw [Nat.add_assoc,List.take_add,hu,Nat.add_comm 2]
  show t0.take cl++60::47::(B++u).take nm.length=_
  rw [<-hBl,List.take_left]
 have hrw:=hrw hP
 have ht4:=wc tl' htl'
 have hx5:=hed.tx
 have hrl:rows.length<=1000000:=by
  rw [hrw,List.length_append,rA]
  have h1:=KP tl'
  have h2:(vo (cl+2+nm.length) nm e).length<=2:=by
   unfold vo
   rcases hed.fs with z|⟨p,z⟩<;>rcases hed.ps with y|⟨q,y⟩<;>rw [z,y]<;>simp
  lia
 have hAt:Al t:=λc m=>by
  rw [htx]at m
  rcases List.mem_append.mp m with m|m
  ·exact hA0 c (List.mem_of_mem_take m)
  ·rcases List.mem_append.mp m with m|m
   ·exact hea.1 c m
   ·exact Gx _ htl' c m
 have htl2:t.length<=1000:=by rw [htx,List.length_append,List.length_append,hP];lia
 obtain⟨σ1,eA,st⟩:=hrun htl2
 rw [show kQ false cl++rows=rows from rfl]at st
 refine IA (xs:=xs) (nm:=nm) (t:=t) (cl:=cl) (rows:=rows) (σ1:=σ1) htl2 hAt hrl eA st λV0 σ p=>?_
 rw [ho]at p ⊢
 have heq:t=t0.take cl++60::47::(B++(e.tx++tl')):=by rw [htx,hpre];simp
 have hpl:(t0.take cl).length=cl:=by rw [List.length_take];lia
 obtain⟨_,x,r,hxr,hxF⟩:=hea
 have hx1:x∈alpha:=hAt x (by rw [heq,hxr];simp)
 have hcy:g7 (some nm) (60::sm (47::(B++(e.tx++tl'))))=true:=by
  have:=uk (o:=some nm) (x:=sm B) (c:=eD x) (r:=sm (r++tl')) hn2 (om hlet) ((EF x hx1).trans (AP x hxF))
  have hap:wC (some nm) (sm B)=true:=by show bQ (sm B) nm=true;rw [hB,fC];exact beq_self_eq_true _
  rw [hap,JJ x hx1,hxF]at this
  have e2:sm (60::47::(B++(e.tx++tl')))=60::47::(sm B++eD x::sm (r++tl')):=by
   rw [hxr]
   exact congrArg (λl=>60::47::l) List.map_append
  exact(congrArg (g7 (some nm)) e2).trans this
 have hSC:SC (some nm) .S (sm t)=(sm (60::47::(B++(e.tx++tl'))),false):=by
  have e0:sm t0=sm (t0.take cl)++60::sm (47::(B++u)):=by
   have:sm t0=sm (t0.take cl++t0.drop cl):=by rw [List.take_append_drop]
   rw [this,hu]
   exact List.map_append
  have e1:sm t=sm (t0.take cl)++60::sm (47::(B++(e.tx++tl'))):=by rw [heq];exact List.map_append
  rw [e1]
  refine Ca (x:=sm (47::(B++u))) hn2 hcy ((sm (t0.take cl)).length+1) .S _ (Nat.lt_succ_self _) ?_
  rw [<-e0,hsc,<-List.map_drop,hu]
  rfl
 have h:=(OD (R:=.list rows) (M:=.list (mn [] t)) (t:=t) (V0:=V0) hno hn2 (2 * t.length+1) .tS none [] t [] σ (by show 2 * t.length+0<_;lia) (v9 hAt p) (by show 0+_<=_;lia)).resolve_right λh=>by
  have:SC (some nm) (md .tS) (sm (ov .tS none++t))=SC (some nm) .S (sm t):=rfl
  rw [this,hSC]at h
  cases h.1
 obtain⟨ap,b,c,w,rb,ps,σ',g,q,hcF,hap,hbl,hrb,hxt,hnz,hz⟩:=h
 have hz':sm (60::47::(B++(e.tx++tl')))=sm (60::47::(b++c::w)):=by
  have:SC (some nm) (md .tS) (sm (ov .tS none++t))=SC (some nm) .S (sm t):=rfl
  rw [this,hSC]at hz
  exact congrArg Prod.fst hz
 have hxt:t=(ps.flatten++60::47::b)++c::w:=by rw [<-hrb];exact hxt
 have hzl:=congrArg List.length hz'
 rw [pX,pX]at hzl
 have hfl:ps.flatten.length=cl:=by
  have l1:=congrArg List.length hxt
  have l2:=congrArg List.length heq
  simp only [List.length_append,List.length_cons]at l1 l2 hzl
  lia
 have hsplit:t0.take cl=ps.flatten/\60::47::(B++(e.tx++tl'))=60::47::(b++c::w):=by
  have:t0.take cl++60::47::(B++(e.tx++tl'))=ps.flatten++60::47::(b++c::w):=by rw [<-heq,hxt,List.append_assoc];rfl
  exact List.append_inj this (by rw [hpl,hfl])
 have hbB:sm b=nm:=by
  have:bQ (sm b) nm=true:=hap
  rw [fC]at this
  exact eq_of_beq this
 have hbl2:b.length=B.length:=by rw [<-pX b,hbB,hBl]
 have hin:=List.append_inj ((List.cons.inj (List.cons.inj hsplit.2).2).2) hbl2.symm
 obtain⟨rfl,hcw⟩:=hin
 rw [<-hcw]at q
 have hrbl:rb.length=cl+2+nm.length:=by rw [<-List.length_reverse,hrb,List.length_append,List.length_cons,List.length_cons,hfl,hBl];lia
 have hFit:nq nm B:=by
  have hAB:Al B:=λc m=>(hlet c m).2
  refine⟨?_,by lia,?_,?_⟩
  ·rw [fC,hno.lo nm rfl,iI B hAB];exact beq_iff_eq.mpr hB.symm
  ·rw [hno.lo nm rfl];lia
  ·rw [iI B hAB,List.length_map];lia
 have hgl:(lb ps).length<=200000:=by
  have:=lG hnz
  rw [jn,List.length_map];lia
 have hrbt:t=rb.reverse++(e.tx++tl'):=by rw [hrb,hxt,hcw]
 obtain⟨K,en,gk,go3,hen,hgE,hRG⟩:=IL (R:=.list rows) (M:=.list (mn [] t)) (nm:=nm) (t:=t) (V0:=V0) (ap:=ap) e hem rb tl' B (lb ps) hB.symm hFit hgl (by lia) hps hrbt
 obtain⟨σ2,q2,g2⟩:=go3.go (toX q)
 have hfin :∃fu σ',uQ fu true σ2=some σ'/\dX (.list rows) (.list (mn [] t)) t V0 (gg nm) K .bw (.a5 9) (tl'.reverse++(e.tx.reverse++rb)) [] true B ((lb ps++gk)++fy (e.tx.reverse++rb) (rJ tl')) σ':=by
  by_cases hz:tl'=[]
  ·subst hz
   obtain⟨σ',a,z⟩:=R4 q2
   exact⟨1,σ',a,by rw [show rJ []=[]from rfl];exact(List.append_nil (lb ps++gk)).symm▸z⟩
  ·rw [hen hz]at q2
   exact NH (by rw [List.length_append];lia) hFit.hb htl' q2
 obtain⟨fu,σ3,a,z⟩:=hfin
 obtain⟨n1,g1⟩:=g.trans g2
 have hrev:t.reverse=tl'.reverse++(e.tx.reverse++rb):=by rw [hrbt];simp
 rw [<-hrev,List.append_assoc]at z
 refine⟨fu+n1,σ3,(g1 fu).trans a,IS z ?_ hnz (w:=60::47::B++(c::w)) (by rw [hxt,List.append_assoc]) hfl⟩
 have k1:=hRG t.reverse (lb ps++(gk++fy (e.tx.reverse++rb) (rJ tl')))
 rw [hrbl]at k1
 have k2:=FZ (hX (.list rows) (.list (mn [] t)) t (gg nm) K .bw (.a5 9) t.reverse [] true B (lb ps++(gk++fy (e.tx.reverse++rb) (rJ tl'))) []) t [] (rJ tl') (rb.reverse++e.tx) (by rw [GB,hrbt];simp)
 rw [List.length_append,List.length_reverse,hrbl,List.reverse_append,List.reverse_reverse]at k2
 have k:=RG.app k1 k2
 rw [<-hrw]at k
 exact k
theorem aab {xs:List Int} {t0 nm:List Nat} {cl:Nat} {d:Bool} (hle:t0.length<=126) (hA0:Al t0) (hcl:cl<=t0.length) (hlt :¬cl<t0.length) (hsc:SC (gA nm) .S (sm t0)=((sm t0).drop cl,d))
  (hrun:t0.length<=1000->∃σ1,cG G7 kn ⟨[],[(.cW,eG xs)],[]⟩=some (.nx,σ1)/\Start nm t0 cl (kQ d cl) σ1) (hnm:nm∈names):Done xs:=by
 obtain⟨hno,hn2⟩:=S1 hnm
 have hcl':cl=t0.length:=by lia
 obtain⟨σ1,eA,st⟩:=hrun (show t0.length<=1000 by lia)
 have hr0:(sm t0).drop cl=[]:=by rw [hcl',<-pX t0,List.drop_length]
 rw [hr0]at hsc
 refine IA (xs:=xs) (nm:=nm) (t:=t0) (cl:=cl) (rows:=kQ d cl) (σ1:=σ1) (by lia) hA0 (by cases d<;>first|exact Nat.zero_le _|exact(show 1<=1000000 by decide)) eA st λV0 σ p=>?_
 have e0:SC (gA nm) (md .tS) (sm (ov .tS none++t0))=([],d):=hsc
 rcases OD (R:=.list (kQ d cl)) (M:=.list (mn [] t0)) (t:=t0) (V0:=V0) hno hn2 (2 * t0.length+1) .tS none [] t0 [] σ (by show 2 * t0.length+0<_;lia) (v9 hA0 p) (by show 0+_<=_;lia)with h|h
 ·rw [e0]at h
  obtain⟨ap,b,c,w,rb,ps,σ',g,q,hcF,hap,hbl,hrb,hxt,hnz,hz⟩:=h
  cases congrArg Prod.fst hz
 ·rw [e0]at h
  obtain⟨_,f',tb,ps,σ',fu,a,z,hfl,hnz⟩:=h
  refine⟨fu,σ',a,NK (R:=.list []) (M:=.list []) z (λH=>?_) hnz hfl hcl'.symm⟩
  cases d with
  |false=>exact .nil
  |true=>
   refine .cons (i:=cl) (by omega) ?_ rfl .nil
   rw [hcl',List.take_length]
   rfl
theorem C0 (xs:List Int):Done xs:=by
 obtain⟨cl,d,hcl,hsc,hrun⟩:=Jd xs
 unfold Yk ZF at hrun
 by_cases hlt:cl<(textOf xs).length
 ·rw [decide_eq_true hlt]at hrun
  exact aac (t:=qe (textOf xs) (nameOf (xs.take 14).sum) cl (jX (xs.take 14).sum) (iu (xs.take 14).sum)) (rows:=pR (textOf xs) (nameOf (xs.take 14).sum) cl (jX (xs.take 14).sum) (iu (xs.take 14).sum)) (rH xs) (rG xs) hsc hlt hrun (k7 _) (lD _) (Gz _ _ _ _ _) (λhP=>F4 _ _ _ _ _ hP (C6 _ (lD _)))
   (by unfold KO;cases (jX (xs.take 14).sum).ps<;>first|exact qd _|exact(by decide:([]:List Nat)∈mf)) (λz=>by unfold KO;rw [z])
 ·rw [decide_eq_false hlt]at hrun
  exact aab (rH xs) (rG xs) hcl hlt hsc hrun (k7 _)
theorem Ey (w:World) (xs:List Int) {W:Wd} {F:Addr->Option Obj} {s:Shared} {A:Around} {vs:List Value} (ro:Ro 20 A) (I:b6 (SS w) W F [] s.heap) (rs:cq (SS w) W [eG xs] vs) :
  codeAny (MD (SS w)) A (.call (.ref ((SS w).fa .law)) ⟨vs,[]⟩) (x5 (SS w) W F (.bool true) s) s:=by
 obtain⟨σ1,aR,τ0,fu,σ3,σ4,eA,e1,eK,e0,eg,eC,hz⟩:=C0 xs
 obtain⟨fd,st0,t1,t2,t3,y4,b2,p1,p2,p3,yp,ep,T⟩:=IY w
 obtain⟨fl,body,D⟩:=I6 w
 exact Dq (ds:=[]) (V:=[(.cW,eG xs)]) (QN w) T D rfl eA e1 eK e0 eg eC ro I rs hz
theorem inK {s:Shared} {w:World} (e:QY s=QX w):(KK w.params).In s.heap:=Frag.in_of rfl e
theorem DH {S:aY} {W:Wd} :∀{vs:List Value} {xs:List Int},IntsAre vs xs->cq S W (xs.map .int) vs
 |_,_,.nil=>.nil
 |_,_,.cons _ _ r=>.cons (.int _ _) (DH r)
theorem Ez {w:World} {s:Shared} {l:Addr} {its:Array Value} {n:Nat} {o:Obj} {xs:List Int} {cl:Str->Option Addr} {mean:ExcName->Option Value} {args:List WData} (KI:(KK w.params).In s.heap) (hg:s.gens=#[])
  (ho:s.heap.get? l=some o) (hc:o.cls=.type "list") (hd:o.data=.seq its n) (hi:IntsAre its.toList xs) (hz:xs.length<=63) :
  wpAny (model wo w) callerA (PySem.call (.ref ((SS w).fa .law)) [.ref l]) (λv s'=>GoodWG L1.row.claim cl mean args s (.ok (.ret v)) s') (λe s'=>GoodWG L1.row.claim cl mean args s (.error e) s') s:=by
 let P:Addr->Option Obj:=λb=>if b=l then s.heap.get? l else(KK w.params).lookup b
 let F:Addr->Option Obj:=λb=>match P b with|none=>s.heap.get? b|some _=>none
 have hP :∀b q,P b=some q->s.heap.get? b=some q:=λb q e=>by
  by_cases h:b=l
  ·subst h;exact(if_pos rfl).symm.trans e
  ·exact KI _ _ ((if_neg h).symm.trans e)
 have hF :∀b q,F b=some q->s.heap.get? b=some q:=λb q e=>by
  have e:(match P b with|none=>s.heap.get? b|some _=>none)=some q:=e
  cases h:P b with
  |none=>rw [h]at e;exact e
  |some _=>rw [h]at e;cases e
 have I:b6 (SS w) ⟨P,[]⟩ F [] s.heap:=⟨hP,hF,λb q e=>by
   show P b=some q
   by_cases h:b=l
   ·subst h;exact(if_pos rfl).trans (KI _ _ e)
   ·exact(if_neg h).trans e,rfl,λi a ao e=>(nomatch e),.nil,λ_ m=>(nomatch m),λ_ m=>(nomatch m),λb q e=>by
   show(match P b with|none=>s.heap.get? b|some _=>none)=none
   have e:P b=some q:=e
   rw [e]⟩
 obtain⟨oc,od,dt,sl⟩:=o
 obtain rfl:oc=.type "list":=hc
 obtain rfl:dt=.seq its n:=hd
 have hl:P l=some ⟨.type "list",od,.seq its n,sl⟩:=(if_pos rfl).trans ho
 have rs:cq (SS w) ⟨P,[]⟩ [eG xs] [.ref l]:=.cons (.lst hl (by rw [List.length_map];exact Nat.le_trans hz (by decide)) (DH hi)) .nil
 refine enter_call (codeAny_mono (Ey w xs ⟨rfl,by decide,by decide⟩ I rs) λres s' ⟨v,W',r1,r2,r3,r4,r5,r6,gs,r7,r8⟩=>?_)
 cases r3
 refine⟨.inl ⟨.bool true,.bool true,[],r1,λ_=>rfl,.bool _,by wrow_post,λ_=>⟨.nil,λ_ m=>(nomatch m)⟩⟩,.of_keep λb q e=>?_,r6,?_⟩
 ·cases h:P b with
  |none=>exact r5 b q (by show(match P b with|none=>s.heap.get? b|some _=>none)=_;rw [h];exact e)
  |some q'=>
   have:=hP b q' h
   rw [e]at this
   cases this
   exact r4 b q (r2.P b q h)
 ·rw [r7,hg]
  exact AllBare.push (λ_ m=>by simp at m) r8
noncomputable def dd (x:DefRec×List (Str×Expr)):DefRec×List (Str×Expr):=(defOf qv L1.name).getD x
theorem walk (x:DefRec×List (Str×Expr)):WalkX qv Su (λ_ _=>True) QY QX L1.row.toRowW (dd x).1 (dd x).2 λf vs=>PySem.call f vs:=by
 intro w s₀ s₁ mg mb G Y a o pm cd doc dV kV ho hd hcd hD hmg hg args vals as L hpre hlay hrd hwl hlo
 have KI:=(inK Y).keeps L.keeps
 refine Ground.open G ?_
 intro T B D TE TW
 have hn:mg (dd x).1.name=some (.ref ((SS w).fa .law)):=mg_of KI T.g (by kernel_rfl)
 obtain rfl:a=(SS w).fa .law:=by rw [hmg]at hn;cases hn;rfl
 clear hmg hn hcd hD ho hd
 wrow_args hpre hlay hrd hwl hlo
 obtain⟨o,h0,h1,n,h3⟩:=‹Heap.IsList _ _ _›
 exact Ez KI hg h0 h1 h3 ‹IntsAre _ _› (by lia)
theorem NQ (F9:L1.wellSaid=true):L1.Holds:=by
 refine holds_law F9 λF9=>?_
 have z:(defOf qv L1.name).isSome=true:=by kernel_rfl
 obtain⟨x,hx⟩:=Option.isSome_iff_exists.mp z
 refine holds_openX (q:=qv) (loose:=Su) (Xt:=Yr) (XP:=λ_ _=>True) (Yf:=QY) (Ya:=QX) (d:=(dd x).1) (kwd:=(dd x).2) (N:=20000) left (λ_ _=>trivial) (λ_ _ _ _ _=>trivial) ?_ (by kernel_rfl) (by kernel_rfl) (λs _=>?_) (by rfl) F9 (by kernel_rfl) ⟨rfl,rfl,rfl,rfl,rfl,by decide +kernel⟩ ?_ (walk x)
 ·show defOf qv L1.name=some (dd x)
  unfold dd;rw [hx];rfl
 ·exact recFacts_of (by rfl)
 ·w_witness2
theorem holds:L1.Holds:=NQ F9
end Mine
theorem PySem.Challenge.cw_im0060_02_holds : PySem.Challenge.rw_im0060_02.Holds :=
  Mine.holds
