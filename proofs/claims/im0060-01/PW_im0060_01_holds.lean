import PyProof.Rows.All
import Wide.All
import OpenK.AllK
import Wide.FinOn
import Lean
import PySem.Challenge.RW_im0060_01
set_option Elab.async false
set_option maxRecDepth 100000
set_option autoImplicit false
set_option genInjectivity false
set_option genSizeOf false
set_option linter.all false
namespace Mine
open PySem PySem.W PySem.Calls PyProof.Rows PySem.SeqAt
noncomputable abbrev Nm := Fin 184
theorem L {a b : Nat} (h : Nat.ble a b = true) : a ≤ b := Nat.le_of_ble_eq_true h
noncomputable def CC : List Nat := [1068959721505206858819, 513980308879299, 448083713914820, 1157061, 58413374657803973, 3565269104453, 2220488392065177419009714760, 19582557649073068274103874004218422578707130952, 1059527485209823719632, 36729176356849050818767274670163, 58413373311187539, 245248724, 95, 76295154878212855130875912999137014111, 529404374068053937003840279051596383, 119035453484689906267359, 81004954270178760750687, 697410323391069058655, 12627152105421994366367327, 98630384216267371869791, 771057640337422448223, 8775755450101036639, 939910164897913665119, 8352390834288096863, 1068462553476523128415, 8423850637597898335, 7767468687173908063, 1021909468891517056607, 7989288598043883615, 2327263831481534736005074138530360002851125408609, 31379191905, 3465715398753, 120316714050356114110561, 17513836086727747049159137, 1058809711066642708961, 67732291979527064133583164614693960289, 167697032387998334811946475596942563572845884497805210711960140385, 167697032387998334811946475600229048849072937422480183133978049121, 624720127835863585814634604914614396020648431217377360481, 297889770429636446208649489731886080364500854878946, 38129890614994153088235365604511881733060265053369058, 228325346, 99, 240677987, 4479185100425797988183817959083408389219, 4689063693563540207767683839814969782042206180184978531, 1068959721505206858851, 31110755427, 1003756016285699830883, 1881187, 28955210851, 137888533074495772914787, 7346961567845282915, 27354986083, 8421071042368845795, 1783779, 3809077835747, 31371130851, 16742964720396267771706083, 1915619, 205336804, 7343549811154301156, 1012394501969662521572, 236548836, 244905188, 4494405369511484639996017943148261, 7983667717168854757, 1652581, 3568802805605, 32297273626065612125600514652005, 3982206220645, 3500603406821, 957058016376549603813, 31366934758, 3982736847078, 456806792770790, 217609830, 1914855, 211317480, 938756632654307293673, 232421354, 3463318239210, 211530987, 2241766182530881068631650540, 136797652631475044806892, 31920550124, 4134051024157548057488360404972268, 1815276, 213628140, 30815418348, 31096353005, 1978605, 1815789, 110, 3978714310254, 213610734, 65187255259362030, 213727214, 4013084488559, 1012394501969689540719, 57371757568079983, 1653103, 31110885616, 3944365207792, 245149936, 27321202288, 252322450205008960056265832048, 1849328, 62416317172217840, 274472984344883046399189252080, 15393527543770942380242928, 136772197156496051108208, 17498570590891805742037360, 297893313701199317193263570274423523939716488231280, 114, 27329802482, 1962226, 18181748683449490125075417193932736680104423666, 18181748683495901034414203150293744153482096882, 297889770430398135594238129410841738250188650049778, 15400540173645566409830642, 142044911589449141602151696827598851395891698, 142044911589811726831360962111669222281654770, 2327263831487485434329985386022201079425681404402, 120316720105952070152690, 211317490, 7772605219985715954, 447630578299634, 161537475385401447890179304293206021329662706, 31352222450, 27075965810, 243136498, 15218, 4016016503283, 1310133065531262222666684342146571740467634462436953933332918771, 21465220145762482051956255512955703650972451712780284318459147104755, 5762026157948405100591976723087917683022078174743023770060318912393709924851, 21465220145688970016564399095430667632107945162055665716318485393907, 1546732119195417226617804405924743005356756939746561242650031031974316229732522045939, 79964176362990533255131543407655976556853681489597507088883, 38129890614993465114782161319090251059392270791651827, 38129890615090795846123814965044650604201204931932659, 1310133065532774048885014226125298159910724742503619341210923507, 4880625998740124953646103566133138768065021671122973171, 1310133065532774048868299524448938810342514901780219877532676595, 4880625998723410251969744216564928927341622207444726259, 21465220145670292756457884094259391759555080255992897033394525614579, 21465220145725085087133130246274714404332831105266628475105419506163, 351686166867561320627329315794837158445433701614674892635464978615022067, 18181748683443978110320027382824395785467900403, 624720127837650310857727681570205572879324865747683684851, 32297273626065612125427642184179, 215692019, 122623139136478230819571, 297889770429798546069812019510449131918786905715443, 245199987, 232387827, 213824755, 29219124979, 3497149691891, 36729176356849050818767274670195, 232290419, 245102707, 27356854899, 236550771, 236714611, 3771463416435, 1800947, 15400540173618528170668276, 2239819544968299487509999860, 228225268, 36380094513928741673621134209780, 245248756, 29741479924, 940048689554387564532, 1068029186710500472820, 8271963864807700468, 29196367860, 232569588, 213662964, 31352026997, 3501677164661, 1994999, 27340305527]
noncomputable def RD : Nat → Nat → List Nat
 | 0, _ => []
 | k + 1, n => match Nat.beq n 0 with | true => [] | false => (n % 128) :: RD k (n / 128)
noncomputable def CB (n : Nm) : List Nat := RD 64 (CC.getD n.1 0)
namespace Nm
noncomputable abbrev kE : Nm := ⟨0, L rfl⟩
noncomputable abbrev qh : Nm := ⟨1, L rfl⟩
noncomputable abbrev qj : Nm := ⟨2, L rfl⟩
noncomputable abbrev dh : Nm := ⟨3, L rfl⟩
noncomputable abbrev nX : Nm := ⟨4, L rfl⟩
noncomputable abbrev tn : Nm := ⟨5, L rfl⟩
noncomputable abbrev dy : Nm := ⟨6, L rfl⟩
noncomputable abbrev c4 : Nm := ⟨7, L rfl⟩
noncomputable abbrev kG : Nm := ⟨8, L rfl⟩
noncomputable abbrev gY : Nm := ⟨9, L rfl⟩
noncomputable abbrev nY : Nm := ⟨10, L rfl⟩
noncomputable abbrev vc : Nm := ⟨11, L rfl⟩
noncomputable abbrev U0 : Nm := ⟨12, L rfl⟩
noncomputable abbrev aR : Nm := ⟨13, L rfl⟩
noncomputable abbrev gr : Nm := ⟨14, L rfl⟩
noncomputable abbrev d6 : Nm := ⟨15, L rfl⟩
noncomputable abbrev Ee : Nm := ⟨16, L rfl⟩
noncomputable abbrev bX : Nm := ⟨17, L rfl⟩
noncomputable abbrev dI : Nm := ⟨18, L rfl⟩
noncomputable abbrev b9 : Nm := ⟨19, L rfl⟩
noncomputable abbrev eW : Nm := ⟨20, L rfl⟩
noncomputable abbrev cZ : Nm := ⟨21, L rfl⟩
noncomputable abbrev FC : Nm := ⟨22, L rfl⟩
noncomputable abbrev dm : Nm := ⟨23, L rfl⟩
noncomputable abbrev eX : Nm := ⟨24, L rfl⟩
noncomputable abbrev cb : Nm := ⟨25, L rfl⟩
noncomputable abbrev Hp : Nm := ⟨26, L rfl⟩
noncomputable abbrev aW : Nm := ⟨27, L rfl⟩
noncomputable abbrev fM : Nm := ⟨28, L rfl⟩
noncomputable abbrev dW : Nm := ⟨29, L rfl⟩
noncomputable abbrev gA : Nm := ⟨30, L rfl⟩
noncomputable abbrev aA : Nm := ⟨31, L rfl⟩
noncomputable abbrev bM : Nm := ⟨32, L rfl⟩
noncomputable abbrev bf : Nm := ⟨33, L rfl⟩
noncomputable abbrev eY : Nm := ⟨34, L rfl⟩
noncomputable abbrev cc : Nm := ⟨35, L rfl⟩
noncomputable abbrev cQ : Nm := ⟨36, L rfl⟩
noncomputable abbrev cR : Nm := ⟨37, L rfl⟩
noncomputable abbrev bj : Nm := ⟨38, L rfl⟩
noncomputable abbrev bD : Nm := ⟨39, L rfl⟩
noncomputable abbrev dF : Nm := ⟨40, L rfl⟩
noncomputable abbrev nZ : Nm := ⟨41, L rfl⟩
noncomputable abbrev n4 : Nm := ⟨42, L rfl⟩
noncomputable abbrev bN : Nm := ⟨43, L rfl⟩
noncomputable abbrev fB : Nm := ⟨44, L rfl⟩
noncomputable abbrev dz : Nm := ⟨45, L rfl⟩
noncomputable abbrev bY : Nm := ⟨46, L rfl⟩
noncomputable abbrev gB : Nm := ⟨47, L rfl⟩
noncomputable abbrev bZ : Nm := ⟨48, L rfl⟩
noncomputable abbrev lX : Nm := ⟨49, L rfl⟩
noncomputable abbrev a9 : Nm := ⟨50, L rfl⟩
noncomputable abbrev ar : Nm := ⟨51, L rfl⟩
noncomputable abbrev aC : Nm := ⟨52, L rfl⟩
noncomputable abbrev Sv : Nm := ⟨53, L rfl⟩
noncomputable abbrev c0 : Nm := ⟨54, L rfl⟩
noncomputable abbrev w6 : Nm := ⟨55, L rfl⟩
noncomputable abbrev cJ : Nm := ⟨56, L rfl⟩
noncomputable abbrev mJ : Nm := ⟨57, L rfl⟩
noncomputable abbrev ay : Nm := ⟨58, L rfl⟩
noncomputable abbrev U1 : Nm := ⟨59, L rfl⟩
noncomputable abbrev ag : Nm := ⟨60, L rfl⟩
noncomputable abbrev cw : Nm := ⟨61, L rfl⟩
noncomputable abbrev cn : Nm := ⟨62, L rfl⟩
noncomputable abbrev TH : Nm := ⟨63, L rfl⟩
noncomputable abbrev BO : Nm := ⟨64, L rfl⟩
noncomputable abbrev bE : Nm := ⟨65, L rfl⟩
noncomputable abbrev gZ : Nm := ⟨66, L rfl⟩
noncomputable abbrev a5 : Nm := ⟨67, L rfl⟩
noncomputable abbrev eZ : Nm := ⟨68, L rfl⟩
noncomputable abbrev g0 : Nm := ⟨69, L rfl⟩
noncomputable abbrev dA : Nm := ⟨70, L rfl⟩
noncomputable abbrev jo : Nm := ⟨71, L rfl⟩
noncomputable abbrev e7 : Nm := ⟨72, L rfl⟩
noncomputable abbrev cq : Nm := ⟨73, L rfl⟩
noncomputable abbrev dJ : Nm := ⟨74, L rfl⟩
noncomputable abbrev b5 : Nm := ⟨75, L rfl⟩
noncomputable abbrev TJ : Nm := ⟨76, L rfl⟩
noncomputable abbrev iD : Nm := ⟨77, L rfl⟩
noncomputable abbrev TK : Nm := ⟨78, L rfl⟩
noncomputable abbrev e8 : Nm := ⟨79, L rfl⟩
noncomputable abbrev f5 : Nm := ⟨80, L rfl⟩
noncomputable abbrev NB : Nm := ⟨81, L rfl⟩
noncomputable abbrev ej : Nm := ⟨82, L rfl⟩
noncomputable abbrev dC : Nm := ⟨83, L rfl⟩
noncomputable abbrev fH : Nm := ⟨84, L rfl⟩
noncomputable abbrev kH : Nm := ⟨85, L rfl⟩
noncomputable abbrev bO : Nm := ⟨86, L rfl⟩
noncomputable abbrev bw : Nm := ⟨87, L rfl⟩
noncomputable abbrev cU : Nm := ⟨88, L rfl⟩
noncomputable abbrev g6 : Nm := ⟨89, L rfl⟩
noncomputable abbrev aY : Nm := ⟨90, L rfl⟩
noncomputable abbrev U2 : Nm := ⟨91, L rfl⟩
noncomputable abbrev U3 : Nm := ⟨92, L rfl⟩
noncomputable abbrev vd : Nm := ⟨93, L rfl⟩
noncomputable abbrev n5 : Nm := ⟨94, L rfl⟩
noncomputable abbrev aK : Nm := ⟨95, L rfl⟩
noncomputable abbrev dK : Nm := ⟨96, L rfl⟩
noncomputable abbrev TL : Nm := ⟨97, L rfl⟩
noncomputable abbrev fN : Nm := ⟨98, L rfl⟩
noncomputable abbrev kI : Nm := ⟨99, L rfl⟩
noncomputable abbrev cK : Nm := ⟨100, L rfl⟩
noncomputable abbrev gM : Nm := ⟨101, L rfl⟩
noncomputable abbrev c8 : Nm := ⟨102, L rfl⟩
noncomputable abbrev fP : Nm := ⟨103, L rfl⟩
noncomputable abbrev qX : Nm := ⟨104, L rfl⟩
noncomputable abbrev ae : Nm := ⟨105, L rfl⟩
noncomputable abbrev dS : Nm := ⟨106, L rfl⟩
noncomputable abbrev BP : Nm := ⟨107, L rfl⟩
noncomputable abbrev c5 : Nm := ⟨108, L rfl⟩
noncomputable abbrev dT : Nm := ⟨109, L rfl⟩
noncomputable abbrev gN : Nm := ⟨110, L rfl⟩
noncomputable abbrev bq : Nm := ⟨111, L rfl⟩
noncomputable abbrev bg : Nm := ⟨112, L rfl⟩
noncomputable abbrev dM : Nm := ⟨113, L rfl⟩
noncomputable abbrev LR : Nm := ⟨114, L rfl⟩
noncomputable abbrev jA : Nm := ⟨115, L rfl⟩
noncomputable abbrev w7 : Nm := ⟨116, L rfl⟩
noncomputable abbrev d7 : Nm := ⟨117, L rfl⟩
noncomputable abbrev d8 : Nm := ⟨118, L rfl⟩
noncomputable abbrev dN : Nm := ⟨119, L rfl⟩
noncomputable abbrev cL : Nm := ⟨120, L rfl⟩
noncomputable abbrev eH : Nm := ⟨121, L rfl⟩
noncomputable abbrev eI : Nm := ⟨122, L rfl⟩
noncomputable abbrev dX : Nm := ⟨123, L rfl⟩
noncomputable abbrev c6 : Nm := ⟨124, L rfl⟩
noncomputable abbrev BQ : Nm := ⟨125, L rfl⟩
noncomputable abbrev fQ : Nm := ⟨126, L rfl⟩
noncomputable abbrev iE : Nm := ⟨127, L rfl⟩
noncomputable abbrev aT : Nm := ⟨128, L rfl⟩
noncomputable abbrev w8 : Nm := ⟨129, L rfl⟩
noncomputable abbrev mM : Nm := ⟨130, L rfl⟩
noncomputable abbrev aU : Nm := ⟨131, L rfl⟩
noncomputable abbrev d9 : Nm := ⟨132, L rfl⟩
noncomputable abbrev cM : Nm := ⟨133, L rfl⟩
noncomputable abbrev e9 : Nm := ⟨134, L rfl⟩
noncomputable abbrev eu : Nm := ⟨135, L rfl⟩
noncomputable abbrev dP : Nm := ⟨136, L rfl⟩
noncomputable abbrev ew : Nm := ⟨137, L rfl⟩
noncomputable abbrev du : Nm := ⟨138, L rfl⟩
noncomputable abbrev fE : Nm := ⟨139, L rfl⟩
noncomputable abbrev gC : Nm := ⟨140, L rfl⟩
noncomputable abbrev gD : Nm := ⟨141, L rfl⟩
noncomputable abbrev fb : Nm := ⟨142, L rfl⟩
noncomputable abbrev f6 : Nm := ⟨143, L rfl⟩
noncomputable abbrev fc : Nm := ⟨144, L rfl⟩
noncomputable abbrev f7 : Nm := ⟨145, L rfl⟩
noncomputable abbrev eB : Nm := ⟨146, L rfl⟩
noncomputable abbrev eD : Nm := ⟨147, L rfl⟩
noncomputable abbrev dY : Nm := ⟨148, L rfl⟩
noncomputable abbrev ie : Nm := ⟨149, L rfl⟩
noncomputable abbrev fS : Nm := ⟨150, L rfl⟩
noncomputable abbrev kJ : Nm := ⟨151, L rfl⟩
noncomputable abbrev aa : Nm := ⟨152, L rfl⟩
noncomputable abbrev br : Nm := ⟨153, L rfl⟩
noncomputable abbrev bF : Nm := ⟨154, L rfl⟩
noncomputable abbrev f9 : Nm := ⟨155, L rfl⟩
noncomputable abbrev fe : Nm := ⟨156, L rfl⟩
noncomputable abbrev qY : Nm := ⟨157, L rfl⟩
noncomputable abbrev Sw : Nm := ⟨158, L rfl⟩
noncomputable abbrev fT : Nm := ⟨159, L rfl⟩
noncomputable abbrev aF : Nm := ⟨160, L rfl⟩
noncomputable abbrev TM : Nm := ⟨161, L rfl⟩
noncomputable abbrev TN : Nm := ⟨162, L rfl⟩
noncomputable abbrev aI : Nm := ⟨163, L rfl⟩
noncomputable abbrev dv : Nm := ⟨164, L rfl⟩
noncomputable abbrev aG : Nm := ⟨165, L rfl⟩
noncomputable abbrev aE : Nm := ⟨166, L rfl⟩
noncomputable abbrev tp : Nm := ⟨167, L rfl⟩
noncomputable abbrev jq : Nm := ⟨168, L rfl⟩
noncomputable abbrev gb : Nm := ⟨169, L rfl⟩
noncomputable abbrev gO : Nm := ⟨170, L rfl⟩
noncomputable abbrev aO : Nm := ⟨171, L rfl⟩
noncomputable abbrev af : Nm := ⟨172, L rfl⟩
noncomputable abbrev aM : Nm := ⟨173, L rfl⟩
noncomputable abbrev au : Nm := ⟨174, L rfl⟩
noncomputable abbrev ah : Nm := ⟨175, L rfl⟩
noncomputable abbrev aD : Nm := ⟨176, L rfl⟩
noncomputable abbrev cj : Nm := ⟨177, L rfl⟩
noncomputable abbrev TO : Nm := ⟨178, L rfl⟩
noncomputable abbrev aV : Nm := ⟨179, L rfl⟩
noncomputable abbrev fI : Nm := ⟨180, L rfl⟩
noncomputable abbrev NC : Nm := ⟨181, L rfl⟩
noncomputable abbrev di : Nm := ⟨182, L rfl⟩
noncomputable abbrev Sy : Nm := ⟨183, L rfl⟩
end Nm
noncomputable def bz (n : Nm) : Str := ⟨(CB n).toArray⟩
theorem zb : (List.range 184).all (fun i => (List.range 184).all fun j => i == j || !(RD 64 (CC.getD i 0) == RD 64 (CC.getD j 0))) = true := by decide +kernel
theorem Ge {a b : Nm} (h : CB a = CB b) : a = b := by
 have h1 := List.all_eq_true.mp zb a.1 (List.mem_range.mpr a.2)
 have h2 := List.all_eq_true.mp h1 b.1 (List.mem_range.mpr b.2)
 unfold CB at h
 simp only [h, beq_self_eq_true, Bool.not_true, Bool.or_false, beq_iff_eq] at h2
 exact Fin.ext h2
theorem iU {a b : Nm} (h : bz a = bz b) : a = b := by
 apply Ge
 have := congrArg (fun s => s.cps.toList) h
 simpa [bz] using this
theorem J8 {p : Nm → Bool} (h : (List.finRange 184).all p = true) (a : Nm) : p a = true := List.all_eq_true.mp h a (List.mem_finRange a)
noncomputable def u_ (n : Nat) : Str := ⟨(RD 64 n).toArray⟩
noncomputable def q_ (l : List Nat) : Str := ⟨l.toArray⟩
noncomputable def en (P : Params) (x i : Nat) (v : Value) : DictEntry := ⟨PyData.keyHash P (u_ x), .str (u_ x) i, v⟩
noncomputable def us (x i : Nat) : Value := .str (u_ x) i
noncomputable def i0 (x : Int) : Value := .int x 0
noncomputable def rf (a : Nat) : Value := .ref a
noncomputable def cO (l : List Value) : Obj := ⟨.type "code", none, .fields (.mk l), .mk []⟩
noncomputable def tO (l : List Value) : Obj := ⟨.type "tuple", none, .seq (.mk l) 0, .mk []⟩
noncomputable def lO (l : List Value) : Obj := ⟨.type "list", none, .seq (.mk l) 0, .mk []⟩
noncomputable def dO (n : Nat) (l : List DictEntry) : Obj := ⟨.type "dict", none, .dict (.mk l) n, .mk []⟩
noncomputable def dw : Nat := 2357460733860917196365705647
noncomputable def gU : Nat := 9765811225669184462998389703302629259880
noncomputable def vo : Nat := 152988731634681420106107942258317835175164520
noncomputable def Gf : Nat := 53902074141372383
noncomputable def HD : Nat := 955164000339729526764204268
noncomputable def Oh : Nat := 421105403244511
noncomputable def Ox : Nat := 1058809711066642708961
noncomputable def OI : Nat := 119035453484689906267359
noncomputable def OQ : Nat := 19582557649073068274103874004218422578707130952
noncomputable def CE : Nat := 2220488392065177419009714760
noncomputable def CF : Nat := 771057640337422448223
noncomputable def CG : Nat := 1068462553476523128415
noncomputable def CH : Nat := 1021909468891517056607
noncomputable def CI : Nat := 8352390834288096863
noncomputable def CJ : Nat := 8423850637597898335
noncomputable def CK : Nat := 8775755450101036639
noncomputable def J9 : Nat := 30344074158132277796980072755167
noncomputable def Ka : Nat := 133454983862861831018029446609853876543483871
noncomputable def Kb : Nat := 113039831549272488013791
noncomputable def Kc : Nat := 4479185100425797988183817959083408389219
noncomputable def Ke : Nat := 4494405369511484639996017943148261
noncomputable def Kf : Nat := 120316720105952070152690
noncomputable def Kg : Nat := 15400540173645566409830642
noncomputable def Kh : Nat := 252322450205008960056265832048
noncomputable def Ki : Nat := 2327263831487485434329985386022201079425681404402
noncomputable def Kj : Nat := 142044911589811726831360962111669222281654770
noncomputable def Kk : Nat := 142044911589449141602151696827598851395891698
noncomputable def Kl : Nat := 297889770430398135594238129410841738250188650049778
noncomputable def Km : Nat := 18181748683495901034414203150293744153482096882
noncomputable def Kn : Nat := 18181748683449490125075417193932736680104423666
noncomputable def Ko : Nat := 297889770429636446208649489731886080364500854878946
noncomputable def Kq : Nat := 67732291979527064133583164614693960289
noncomputable def Kr : Nat := 38129890614994153088235365604511881733060265053369058
noncomputable def Ks : Nat := 624720127835863585814634604914614396020648431217377360481
noncomputable def Kt : Nat := 297889770429798546069812019510449131918786905715443
noncomputable def NR : Nat := 157555939226294922693441803508378965757991995242437954779942709832
noncomputable def NS : Nat := 91642648890345421961232822110756888286340085942111882668616
noncomputable def NT : Nat := 2959232444507010566436536193574636243919572692545175550799042747525704
noncomputable def NU : Nat := 23352716734300499626318286553221788130049827381360887170616268122696
noncomputable def NV : Nat := 182443099486722652222872317299953088628445369532703613214476429896
noncomputable def NW : Nat := 703502545210048393972036583774175826105189397058917984840
noncomputable def NX : Nat := 22719350510671693466523004498481164552843086739321742223162876324424
noncomputable def NY : Nat := 13092672716360977155334636537528902568890304198536818304039975749711420556824857713797704
noncomputable def NZ : Nat := 2933982122564589514960212291754293941526258491024325118826755067701832
noncomputable def N0 : Nat := 91642077580586379487296678781133670495010004320145238092360
noncomputable def N3 : Nat := 17082249159714306179635007329436924862665026120
noncomputable def N4 : Nat := 17082227045348140305989629828798862978572315208
noncomputable def N5 : Nat := 297893313701199317193263570274423523939716488231280
noncomputable def N6 : Nat := 1424333916082552664587227874636277837882769802935015903604206152
noncomputable def N7 : Nat := 2327263831478912632927377872367857267388334697032
noncomputable def N8 : Nat := 38129890614950504580031958150124965525101194916358728
noncomputable def N9 : Nat := 4689063693563540207767683839814969782042206180184978531
noncomputable def Oa : Nat := 4880625998740190628329680242730517108870012299405126216
noncomputable def Ob : Nat := 79964176363359283253793076928509862155963627997557045815880
noncomputable def Oc : Nat := 737539348218639958676244929277774336476757176226710764620268905648067408259656
noncomputable def Od : Nat := 45015829359047653640651418362235478461473423510156300458079096344839154248
noncomputable def Oe : Nat := 45015829358932745794791164544044240546332473761100196017632211798315985480
noncomputable def Of : Nat := 94405036571985914710559350947555115095550960642608577385915941580011978368445000
noncomputable def Og : Nat := 5762026157958099666003381550366167769110683798899520980155781391489522952776
noncomputable def Oi : Nat := 5762026157943391461733269061637689315972642231020339611778580169534557350472
noncomputable def Oj : Nat := 624720127837650310857727681570205572879324865747683684851
noncomputable def Ol : Nat := 38129890615090795846123814965044650604201204931932659
noncomputable def Om : Nat := 38129890614993465114782161319090251059392270791651827
noncomputable def Oo : Nat := 4880625998740124953646103566133138768065021671122973171
noncomputable def Oq : Nat := 1310133065532774048885014226125298159910724742503619341210923507
noncomputable def Ot : Nat := 18181748683443978110320027382824395785467900403
noncomputable def Ou : Nat := 4880625998723410251969744216564928927341622207444726259
noncomputable def Ov : Nat := 1310133065532774048868299524448938810342514901780219877532676595
noncomputable def Ow : Nat := 351686166867561320627329315794837158445433701614674892635464978615022067
noncomputable def Oy : Nat := 21465220145725085087133130246274714404332831105266628475105419506163
noncomputable def Oz : Nat := 21465220145670292756457884094259391759555080255992897033394525614579
noncomputable def OA : Nat := 21465220145762482051956255512955703650972451712780284318459147104755
noncomputable def OB : Nat := 79964176362990533255131543407655976556853681489597507088883
noncomputable def OC : Nat := 21465220145688970016564399095430667632107945162055665716318485393907
noncomputable def OD : Nat := 5762026157948405100591976723087917683022078174743023770060318912393709924851
noncomputable def OE : Nat := 1546732119195417226617804405924743005356756939746561242650031031974316229732522045939
noncomputable def OF : Nat := 1310133065531262222666684342146571740467634462436953933332918771
noncomputable def OG : Nat := 94405036571744525708852123358852306616090335538882948858905526858165381393246792
noncomputable def OH : Nat := 21465220145670292756415647854476516536145236938872471901163217971784
noncomputable def OJ : Nat := 2327263831481534736005074138530360002851125408609
noncomputable def OK : Nat := 12083844681183517318247072554178240747850397486916454158574699201585868913853557320
noncomputable def OL : Nat := 167697032387998334811946475596942563572845884497805210711960140385
noncomputable def OM : Nat := 167697032387998334811946475600229048849072937422480183133978049121
noncomputable def ON : Nat := 197981711256447169238749027041984491470238237100709212454860613282305544828731461429832
noncomputable def OO : Nat := 297889770429641821001838793785249076039536783209313
noncomputable def OP : Nat := 94405036571795897205427021740254592190154882020432965736806296750662767890098760
noncomputable abbrev uj : Program := PySem.Challenge.pw_im0060_01
structure FP where
 a : Arguments
 b : List Stmt
 s : Scope
deriving Inhabited
noncomputable def Ng : Stmt → FP
 | .FunctionDef _ a b _ _ _ s _ _ _ => ⟨a, b, s⟩
 | _ => default
noncomputable def IT : Stmt → List Stmt
 | .ClassDef _ _ _ b _ _ _ _ _ _ _ => b
 | _ => []
noncomputable def DC : List Stmt → Nat → Stmt
 | [], _ => .Pass default
 | s :: _, 0 => s
 | _ :: r, n + 1 => DC r n
noncomputable def fp (i : Nat) : FP := Ng (DC uj.main.body i)
noncomputable def cp (i j : Nat) : FP := Ng (DC (IT (DC uj.main.body i)) j)
noncomputable def fO (name qual : Str) (f : FP) (dfl mod : Value) (code : Nat) : Obj :=
 ⟨.type "function", none, .func { name := name, qualname := qual, params := f.a, body := .stmts f.b, scope := f.s, globals := 3, closure := [], defaults := dfl, kwdefaults := .none, doc := .none, pyModule := mod, annotations := none, code := .ref code, closureTuple := .none, builtins := 0 }, #[]⟩
noncomputable def VM (P : Params) : Obj := dO 159 [en P 53901559791857631 1 (us 65226668898941666 160), en P Oh 2 (.builtin "builtins.__doc__:str#opaque"), en P 113039760542812094607327 3 (.builtin "builtins.__package__:str#opaque"), en P 883130438894441148383 4 (.builtin "builtins.__loader__:shared#opaque"), en P 53901488956436447 5 (.builtin "builtins.__spec__#opaque"), en P 30344152280222117430921858166751 6 (.builtin "__build_class__"), en P 883131622350932045791 7 (.builtin "__import__"), en P 1896801 8 (.builtin "abs"), en P 1783393 9 (.builtin "all"), en P 1996641 10 (.builtin "any"), en P 28407560673 11 (.builtin "ascii"), en P 1815778 12 (.builtin "bin"), en P 1077897093424816421218 13 (.builtin "breakpoint"), en P 57336327839625443 14 (.builtin "callable"), en P 1881187 15 (.builtin "chr"), en P 447941971769315 16 (.builtin "compile"), en P 505394375635684 17 (.builtin "delattr"), en P 1881316 18 (.builtin "dir"), en P 3466000708836 19 (.builtin "divmod"), en P 228096869 20 (.builtin "eval"), en P 209288293 21 (.builtin "exec"), en P 4011998361574 22 (.builtin "format"), en P 505394375766759 23 (.builtin "getattr"), en P 509512446113383 24 (.builtin "globals"), en P 505394375749864 25 (.builtin "hasattr"), en P 220000488 26 (.builtin "hash"), en P 1979112 27 (.builtin "hex"), en P 12905 28 (.builtin "id"), en P 31385728873 29 (.builtin "input"), en P 938756632654307293673 30 (.builtin "isinstance"), en P 1069029492115334035945 31 (.builtin "issubclass"), en P 240745065 32 (.builtin "iter"), en P 30815368417 33 (.builtin "aiter"), en P 1815276 34 (.builtin "len"), en P 3980566001644 35 (.builtin "locals"), en P 1978605 36 (.builtin "max"), en P 1815789 37 (.builtin "min"), en P 245248750 38 (.builtin "next"), en P 31391840097 39 (.builtin "anext"), en P 1913327 40 (.builtin "oct"), en P 1653103 41 (.builtin "ord"), en P 1964016 42 (.builtin "pow"), en P 31370934640 43 (.builtin "print"), en P 240923378 44 (.builtin "repr"), en P 27076163570 45 (.builtin "round"), en P 505394375766771 46 (.builtin "setattr"), en P 3463330969587 47 (.builtin "sorted"), en P 1800947 48 (.builtin "sum"), en P 243052790 49 (.builtin "vars"), en P 213628878 50 .none, en P 65205021183784517 51 .ellipsis, en P 249559292210508177048917063630 52 .notImplemented, en P 27354935494 53 (.bool false), en P 213743956 54 (.bool true), en P 228325346 55 (.type "bool"), en P 1104918722286511157997 56 (.type "memoryview"), en P 8774080344635555042 57 (.type "bytearray"), en P 31083805922 58 (.type "bytes"), en P 119090516107785573791331 59 (.type "classmethod"), en P 531265142618083 60 (.type "complex"), en P 244905188 61 (.type "dict"), en P 7343549747291846501 62 (.type "enumerate"), en P 3944367207654 63 (.type "filter"), en P 31343769190 64 (.type "float"), en P 8416048435984857446 65 (.type "frozenset"), en P 68631062118136176 66 (.type "property"), en P 1914729 67 (.type "int"), en P 245167340 68 (.type "list"), en P 1847533 69 (.type "map"), en P 4012518322543 70 (.type "object"), en P 27329802482 71 (.type "range"), en P 56743180225065714 72 (.type "reversed"), en P 1913587 73 (.type "set"), en P 27321333363 74 (.type "slice"), en P 15243586061796001044789875 75 (.type "staticmethod"), en P 1882739 76 (.type "str"), en P 30815304435 77 (.type "super"), en P 27340323572 78 (.type "tuple"), en P 213662964 79 (.type "type"), en P 1848570 80 (.type "zip"), en P 6899408724578349023 81 (.bool true), en P 2144608328427979956675211458 82 (.type "BaseException"), en P 75048805497310074797475301384395747522 83 (.type "BaseExceptionGroup"), en P 7989288599893376069 84 (.type "Exception"), en P 2259775788271917090767352519 85 (.type "GeneratorExit"), en P 606887058592124963826847896089555659 86 (.type "KeyboardInterrupt"), en P 1077545064881324883155 87 (.type "SystemExit"), en P 36405087185495366414458704001345 88 (.type "ArithmeticError"), en P 284414743637478513485316684225 89 (.type "AssertionError"), en P 284414743636832862044436642369 90 (.type "AttributeError"), en P 135619518107300329536194 91 (.type "BufferError"), en P 64668425610438597 92 (.type "EOFError"), en P 135619518107372557711049 93 (.type "ImportError"), en P 135619518107235915659212 94 (.type "LookupError"), en P 135619518107544356352717 95 (.type "MemoryError"), en P 8277558478201647310 96 (.type "NameError"), en P 505222075083215 97 (.type "OSError"), en P 284414743636823261214370542290 98 (.type "ReferenceError"), en P 17359298317677543288453842 99 (.type "RuntimeError"), en P 73688181029732760979861761720974047827 100 (.type "StopAsyncIteration"), en P 2144608327354443055251585619 101 (.type "StopIteration"), en P 135619518107505443716307 102 (.type "SyntaxError"), en P 135619518107128560418003 103 (.type "SystemError"), en P 8277558478201699540 104 (.type "TypeError"), en P 1059527485209827815638 105 (.type "ValueError"), en P 456806780154071 106 (.type "Warning"), en P 76347001401565549172022971204879775302 107 (.type "FloatingPointError"), en P 2221990184672867535505947471 108 (.type "OverflowError"), en P 596460948448825339435709122012295898 109 (.type "ZeroDivisionError"), en P 15695761450822405373902018 110 (.type "BytesWarning"), en P 69030688887910131414683259145360782020 111 (.type "DeprecationWarning"), en P 32916397518115102358488844138309 112 (.type "EncodingWarning"), en P 2009057465705267410314803910 113 (.type "FutureWarning"), en P 2009057465705267925698229961 114 (.type "ImportWarning"), en P 38860823094090088344862957532350705683709293613527760 115 (.type "PendingDeprecationWarning"), en P 32916397518115101184524226982610 116 (.type "ResourceWarning"), en P 257159355610274228345274874578 117 (.type "RuntimeWarning"), en P 2009057465705268058584235219 118 (.type "SyntaxWarning"), en P 257159355610274228037612107605 119 (.type "UnicodeWarning"), en P 122623136334550039886293 120 (.type "UserWarning"), en P 36405087185308585851808749712962 121 (.type "BlockingIOError"), en P 596460948449585602396400739990271043 122 (.type "ChildProcessError"), en P 36405087185597249725605128943555 123 (.type "ConnectionError"), en P 36405087185643732455593560716486 124 (.type "FileExistsError"), en P 596460948447313111942092348597155014 125 (.type "FileNotFoundError"), en P 4659851159744550605411261016258377 126 (.type "InterruptedError"), en P 596460948450491209621379057095571913 127 (.type "IsADirectoryError"), en P 76347001401662874831536519308233226190 128 (.type "NotADirectoryError"), en P 36405087185597249721757909955280 129 (.type "PermissionError"), en P 76347001401489238093061647269290047824 130 (.type "ProcessLookupError"), en P 17359298317743790443164884 131 (.type "TimeoutError"), en P 4659851159756447964869175788779337 132 (.type "IndentationError"), en P 160111266683298230276514338163358344402412767 133 (.type "_IncompleteInputError"), en P 1059527485214894405449 134 (.type "IndexError"), en P 64668425611277003 135 (.type "KeyError"), en P 9772416179360778026059241039415813421005 136 (.type "ModuleNotFoundError"), en P 9772416179360603788730312093072824809422 137 (.type "NotImplementedError"), en P 2623262993335139085089472075953563181683566263504 138 (.type "PythonFinalizationError"), en P 284414743637478513450990236370 139 (.type "RecursionError"), en P 596460948448506524053248295145355093 140 (.type "UnboundLocalError"), en P 17359298317677235625686869 141 (.type "UnicodeError"), en P 36405087185514311276915750336834 142 (.type "BrokenPipeError"), en P 20494242135378448966838595156105550829079738307 143 (.type "ConnectionAbortedError"), en P 20494242135378448657179973433975883185073665987 144 (.type "ConnectionRefusedError"), en P 1250869270963227866633116906101536422868931 145 (.type "ConnectionResetError"), en P 64668425610899668 146 (.type "TabError"), en P 76347001401273902792403668249563789141 147 (.type "UnicodeDecodeError"), en P 76347001401273902793052749545858561877 148 (.type "UnicodeEncodeError"), en P 160111266682689403905225237760896967613511509 149 (.type "UnicodeTranslateError"), en P 279578587030284385373723884613 150 (.type "ExceptionGroup"), en P 4659851159763521999107421464540997 151 (.type "OSError"), en P 505222075082697 152 (.type "OSError"), en P 232355951 153 (.builtin "open"), en P 245005041 154 (.builtin "builtins.quit#opaque"), en P 245005413 155 (.builtin "builtins.exit#opaque"), en P 8417684340975876067 156 (.builtin "builtins.copyright#opaque"), en P 509789475535203 157 (.builtin "builtins.credits#opaque"), en P 448183808881900 158 (.builtin "builtins.license#opaque"), en P 236663528 159 (.builtin "builtins.help#opaque")]
noncomputable def Vb (P : Params) : Obj := dO 2 [en P 65226668898941666 162 (rf 4), en P 53901867955744735 163 (rf 5)]
noncomputable def VN : Obj := ⟨.none, .none, (.dict (.mk []) 0), (.mk [])⟩
noncomputable def VO (P : Params) : Obj := dO 37 [en P 53901559791857631 165 (us HD 1458), en P Oh 166 .none, en P 113039760542812094607327 167 .none, en P 883130438894441148383 168 (.builtin "__main__.__loader__#opaque"), en P 53901488956436447 169 .none, en P 30344151541145318921183520387039 170 (rf 6), en P 14469218985635115783729119 171 (rf 4), en P 53901559540068319 173 (us dw 172), en P 883122557733039566815 174 .none, en P 29219126239 193 (rf 21), en P 1157061 196 .none, en P 36729176356849050818767274670195 202 (rf 22), en P 17513836086727747049159137 256 (rf 27), en P 3982730327268 268 (rf 32), en P 8352390871225610984 292 (rf 37), en P Ox 298 (rf 42), en P 65187086474229605 428 (rf 43), en P 161536625931963493248271217587268140098401010 531 (rf 46), en P 1068029186710500472820 556 (rf 48), en P 2239819544968299487509999860 563 (rf 49), en P 245248724 604 (rf 73), en P OI 611 (rf 84), en P OQ 737 (rf 166), en P 137896750988398635578594 751 (rf 178), en P 213547348 826 (rf 230), en P 15387708175247208622143333 843 (rf 236), en P CE 1457 (rf 762), en P 98630384216267371869791 1484 (rf 767), en P 697410323391069058655 1486 (us 1312 1485), en P 12627152105421994366367327 1503 (rf 790), en P CF 1509 (rf 797), en P CG 1520 (rf 804), en P CH 1528 (rf 811), en P CI 1538 (rf 818), en P CJ 1546 (rf 825), en P CK 1559 (rf 832), en P 1962220 1565 (rf 837)]
noncomputable def T3 : Obj := tO [(us 9 197), (us 10 198), (us 12 199), (us 32 200), (us 13 201)]
noncomputable def T5 : Obj := tO [(us 97 204), (us 98 205), (us 99 206), (us 100 207), (us 101 208), (us 102 209), (us 103 210), (us 104 211), (us 105 212), (us 106 213), (us 107 214), (us 108 215), (us 109 216), (us 110 217), (us 111 218), (us 112 219), (us 113 220), (us 114 221), (us 115 222), (us 116 223), (us 117 224), (us 118 225), (us 119 226), (us 120 227), (us 121 228), (us 122 229), (us 65 230), (us 66 231), (us 67 232), (us 68 233), (us 69 234), (us 70 235), (us 71 236), (us 72 237), (us 73 238), (us 74 239), (us 75 240), (us 76 241), (us 77 242), (us 78 243), (us 79 244), (us 80 245), (us 81 246), (us 82 247), (us 83 248), (us 84 249), (us 85 250), (us 86 251), (us 87 252), (us 88 253), (us 89 254), (us 90 255)]
noncomputable def T6 : Obj := cO [(us Ox 293), (us Ox 294), (us dw 295), (i0 10), (i0 1), (i0 0), (i0 0), (i0 3), (rf 38), (.bool true), (i0 181), (rf 39), .none, .none, .none, (rf 40), (i0 296), (i0 10), (us dw 297)]
noncomputable def T7 : Obj := fO (u_ Ox) (u_ Ox) (fp 7) .none (us 77037409353305828913407556062501632616 194) 41
noncomputable def T8 (P : Params) : Obj := dO 8 [en P 448083713914820 532 (.int 0 533), en P 1068959721505206858819 534 (.int 1 535), en P 36729176356849050818767274670163 536 (.int 2 537), en P 58413373311187539 538 (.int 3 539), en P 3565269104453 540 (.int 4 541), en P 58413374657803973 542 (.int 5 543), en P 513980308879299 544 (.int 6 545), en P 1059527485209823719632 546 (.int 7 547)]
noncomputable def T9 : Obj := tO [(.int 3 539), (.int 4 541), (.int 5 543)]
noncomputable def Ua : Obj := cO [(us Gf 578), (us 1852061164990093336933970644 579), (us dw 580), (i0 19), (i0 2), (i0 0), (i0 0), (i0 3), (rf 57), (.bool true), (i0 181), (rf 58), .none, (rf 59), (rf 60), (rf 61), (i0 583), (i0 19), (us dw 584)]
noncomputable def Ub : Obj := fO (u_ Gf) (u_ 1852061164990093336933970644) (cp 13 0) .none (us vo 564) 62
noncomputable def Uc : Obj := cO [(us 211317490 586), (us 7260813681575736020 587), (us dw 588), (i0 23), (i0 2), (i0 0), (i0 0), (i0 3), (rf 64), (.bool true), (i0 181), (rf 65), .none, (rf 66), (rf 67), (rf 68), (i0 592), (i0 23), (us dw 593)]
noncomputable def Ud : Obj := fO (u_ 211317490) (u_ 7260813681575736020) (cp 13 1) .none (us vo 564) 69
noncomputable def Ue (P : Params) : Obj := dO 4 [en P 883123151916293124063 573 (us vo 564), en P J9 577 (.int 17 576), en P Gf 585 (rf 63), en P 211317490 594 (rf 70), en P Ka 597 (rf 71), en P 53902072520191967 599 (rf 74), en P Kb 601 (rf 75), en P Oh 602 .none]
noncomputable def Ug : Obj := ⟨(.type "type"), .none, (.cls { name := (u_ 245248724), bases := [(.type "object")], mro := [(rf 73), (.type "object")], ns := 72, qualname := (u_ 245248724), hasDict := true, slotNames := [], subclasses := [], abstract := false }), (.mk [some (rf 50), none, some (us 245248724 566), some (us 245248724 574), some (.builtin "object.__new__"), some (.bool true)])⟩
noncomputable def Uh : Obj := cO [(us OI 605), (us OI 606), (us dw 607), (i0 27), (i0 1), (i0 0), (i0 0), (i0 3), (rf 78), (.bool true), (i0 181), (rf 79), .none, (rf 80), (rf 81), (rf 82), (i0 609), (i0 27), (us dw 610)]
noncomputable def Ui : Obj := fO (u_ OI) (u_ OI) (fp 14) .none (us vo 564) 83
noncomputable def Uj : Obj := cO [(us Gf 626), (us NR 627), (us dw 628), (i0 32), (i0 2), (i0 0), (i0 0), (i0 3), (rf 92), (.bool true), (i0 181), (rf 93), .none, (rf 94), (rf 95), (rf 96), (i0 631), (i0 32), (us dw 632)]
noncomputable def Uk : Obj := fO (u_ Gf) (u_ NR) (cp 15 1) .none (us vo 564) 97
noncomputable def OV : Obj := cO [(us 31352222450 634), (us NS 635), (us dw 636), (i0 38), (i0 1), (i0 0), (i0 0), (i0 3), (rf 99), (.bool true), (i0 181), (rf 100), .none, (rf 101), (rf 102), (rf 103), (i0 638), (i0 38), (us dw 639)]
noncomputable def OW : Obj := fO (u_ 31352222450) (u_ NS) (cp 15 2) .none (us vo 564) 104
noncomputable def OX : Obj := cO [(us 1012394501969689540719 641), (us NT 642), (us dw 643), (i0 47), (i0 2), (i0 0), (i0 0), (i0 3), (rf 106), (.bool true), (i0 181), (rf 107), .none, (rf 108), (rf 109), (rf 110), (i0 647), (i0 47), (us dw 648)]
noncomputable def OY : Obj := fO (u_ 1012394501969689540719) (u_ NT) (cp 15 3) .none (us vo 564) 111
noncomputable def OZ : Obj := cO [(us 7989288598043883615 650), (us NU 651), (us dw 652), (i0 51), (i0 2), (i0 0), (i0 0), (i0 3), (rf 113), (.bool true), (i0 181), (rf 114), .none, (rf 115), (rf 116), (rf 117), (i0 660), (i0 51), (us dw 661)]
noncomputable def O6 : Obj := fO (u_ 7989288598043883615) (u_ NU) (cp 15 4) .none (us vo 564) 118
noncomputable def O8 : Obj := cO [(us 62416317172217840 663), (us NV 664), (us dw 665), (i0 62), (i0 1), (i0 0), (i0 0), (i0 3), (rf 120), (.bool true), (i0 181), (rf 121), .none, (rf 122), (rf 123), (rf 124), (i0 669), (i0 62), (us dw 670)]
noncomputable def O9 : Obj := fO (u_ 62416317172217840) (u_ NV) (cp 15 5) .none (us vo 564) 125
noncomputable def Pa : Obj := cO [(us 240677987 672), (us NW 673), (us dw 674), (i0 66), (i0 1), (i0 0), (i0 0), (i0 3), (rf 127), (.bool true), (i0 181), (rf 128), .none, (rf 129), (rf 130), (rf 131), (i0 678), (i0 66), (us dw 679)]
noncomputable def Pb : Obj := fO (u_ 240677987) (u_ NW) (cp 15 6) .none (us vo 564) 132
noncomputable def Pc : Obj := tO [.none]
noncomputable def Pd : Obj := cO [(us 7772605219985715954 681), (us NX 682), (us dw 683), (i0 75), (i0 2), (i0 0), (i0 0), (i0 3), (rf 135), (.bool true), (i0 181), (rf 136), .none, (rf 137), (rf 138), (rf 139), (i0 688), (i0 75), (us dw 689)]
noncomputable def Pe : Obj := fO (u_ 7772605219985715954) (u_ NX) (cp 15 7) (rf 134) (us vo 564) 140
noncomputable def Pf : Obj := cO [(us Kc 691), (us NY 692), (us dw 693), (i0 101), (i0 2), (i0 0), (i0 0), (i0 3), (rf 142), (.bool true), (i0 181), (rf 143), .none, (rf 144), (rf 145), (rf 146), (i0 697), (i0 101), (us dw 698)]
noncomputable def Pg : Obj := fO (u_ Kc) (u_ NY) (cp 15 8) .none (us vo 564) 147
noncomputable def Ph : Obj := tO [(.bool false)]
noncomputable def Pj : Obj := cO [(us 1003756016285699830883 700), (us NZ 701), (us dw 702), (i0 106), (i0 3), (i0 0), (i0 0), (i0 3), (rf 150), (.bool true), (i0 181), (rf 151), .none, (rf 152), (rf 153), (rf 154), (i0 709), (i0 106), (us dw 710)]
noncomputable def Pk : Obj := fO (u_ 1003756016285699830883) (u_ NZ) (cp 15 9) (rf 149) (us vo 564) 155
noncomputable def Pm : Obj := cO [(us 31352026997 712), (us N0 713), (us dw 714), (i0 125), (i0 2), (i0 0), (i0 0), (i0 3), (rf 157), (.bool true), (i0 181), (rf 158), .none, (rf 159), (rf 160), (rf 161), (i0 717), (i0 125), (us dw 718)]
noncomputable def Pn : Obj := fO (u_ 31352026997) (u_ N0) (cp 15 10) .none (us vo 564) 162
noncomputable def Po (P : Params) : Obj := dO 4 [en P 883123151916293124063 619 (us vo 564), en P J9 623 (.int 29 622), en P 529404374068053937003840279051596383 625 (.int 10240 624), en P Gf 633 (rf 98), en P 31352222450 640 (rf 105), en P 1012394501969689540719 649 (rf 112), en P 7989288598043883615 662 (rf 119), en P 62416317172217840 671 (rf 126), en P 240677987 680 (rf 133), en P 7772605219985715954 690 (rf 141), en P Kc 699 (rf 148), en P 1003756016285699830883 711 (rf 156), en P 31352026997 719 (rf 163), en P Ka 730 (rf 164), en P 53902072520191967 732 (rf 167), en P Kb 734 (rf 168), en P Oh 735 .none]
noncomputable def Pp : Obj := ⟨(.type "type"), .none, (.cls { name := (u_ OQ), bases := [(.type "object")], mro := [(rf 166), (.type "object")], ns := 165, qualname := (u_ OQ), hasDict := true, slotNames := [], subclasses := [], abstract := false }), (.mk [some (rf 85), none, some (us OQ 612), some (us OQ 620), some (.builtin "object.__new__"), some (.bool true)])⟩
noncomputable def Pq : Obj := tO [.none]
noncomputable def Pr : Obj := cO [(us Gf 856), (us N3 857), (us dw 858), (i0 184), (i0 3), (i0 0), (i0 0), (i0 3), (rf 255), (.bool true), (i0 181), (rf 256), .none, (rf 257), (rf 258), (rf 259), (i0 862), (i0 184), (us dw 863)]
noncomputable def Pu : Obj := fO (u_ Gf) (u_ N3) (cp 21 0) (rf 254) (us gU 827) 260
noncomputable def Pw : Obj := cO [(us 53902004360736735 865), (us N4 866), (us dw 867), (i0 193), (i0 1), (i0 0), (i0 0), (i0 35), (rf 262), (.bool true), (i0 181), (rf 263), .none, (rf 264), (rf 265), (rf 266), (i0 869), (i0 193), (us dw 870)]
noncomputable def Px : Obj := fO (u_ 53902004360736735) (u_ N4) (cp 21 1) .none (us gU 827) 267
noncomputable def Pz : Obj := fO (u_ N5) (u_ 94406159479325386963881314434151672450126404913765536430542815160271448935983688) (cp 21 4) .none (us gU 827) 289
noncomputable def PA : Obj := cO [(us Ke 910), (us N6 911), (us dw 912), (i0 286), (i0 1), (i0 0), (i0 0), (i0 3), (rf 291), (.bool true), (i0 181), (rf 292), .none, (rf 293), (rf 294), (rf 295), (i0 917), (i0 286), (us dw 918)]
noncomputable def PB : Obj := fO (u_ Ke) (u_ N6) (cp 21 5) .none (us gU 827) 296
noncomputable def PC : Obj := cO [(us 7343549811154301156 920), (us N7 921), (us dw 922), (i0 304), (i0 1), (i0 0), (i0 0), (i0 3), (rf 298), (.bool true), (i0 181), (rf 299), .none, (rf 300), (rf 301), (rf 302), (i0 926), (i0 304), (us dw 927)]
noncomputable def PD : Obj := fO (u_ 7343549811154301156) (u_ N7) (cp 21 6) .none (us gU 827) 303
noncomputable def PE : Obj := fO (u_ 32297273626065612125600514652005) (u_ 10235414574454359070009244934005018021920039554045493900438088) (cp 21 7) .none (us gU 827) 310
noncomputable def PF : Obj := cO [(us Kf 936), (us N8 937), (us dw 938), (i0 327), (i0 1), (i0 0), (i0 0), (i0 3), (rf 312), (.bool true), (i0 181), (rf 313), .none, (rf 314), (rf 315), (rf 316), (i0 942), (i0 327), (us dw 943)]
noncomputable def PG : Obj := fO (u_ Kf) (u_ N8) (cp 21 8) .none (us gU 827) 317
noncomputable def PH : Obj := fO (u_ N9) (u_ 1486023601413555020715689096003805151057621992651810160246193025092456608698090089032) (cp 21 9) .none (us gU 827) 324
noncomputable def PI : Obj := cO [(us Kg 952), (us Oa 953), (us dw 954), (i0 350), (i0 1), (i0 0), (i0 0), (i0 3), (rf 326), (.bool true), (i0 181), (rf 327), .none, (rf 328), (rf 329), (rf 330), (i0 958), (i0 350), (us dw 959)]
noncomputable def PJ : Obj := fO (u_ Kg) (u_ Oa) (cp 21 10) .none (us gU 827) 331
noncomputable def PK : Obj := fO (u_ 32297273626065612125427642184179) (u_ 10235414574454359069954459462104376978053243038766385492879944) (cp 21 11) .none (us gU 827) 338
noncomputable def PL : Obj := cO [(us Kh 968), (us Ob 969), (us dw 970), (i0 367), (i0 1), (i0 0), (i0 0), (i0 3), (rf 340), (.bool true), (i0 181), (rf 341), .none, (rf 342), (rf 343), (rf 344), (i0 973), (i0 367), (us dw 974)]
noncomputable def PM : Obj := fO (u_ Kh) (u_ Ob) (cp 21 12) .none (us gU 827) 345
noncomputable def PN : Obj := fO (u_ 15400540173618528170668276) (u_ 4880625998731621868303858323115229230374403278028106312) (cp 21 13) .none (us gU 827) 352
noncomputable def PO : Obj := cO [(us Ki 1000), (us Oc 1001), (us dw 1002), (i0 438), (i0 1), (i0 0), (i0 0), (i0 3), (rf 368), (.bool true), (i0 181), (rf 369), .none, (rf 370), (rf 371), (rf 372), (i0 1005), (i0 438), (us dw 1006)]
noncomputable def PQ : Obj := fO (u_ Ki) (u_ Oc) (cp 21 16) .none (us gU 827) 373
noncomputable def PR : Obj := cO [(us Kj 1008), (us Od 1009), (us dw 1010), (i0 449), (i0 1), (i0 0), (i0 0), (i0 3), (rf 375), (.bool true), (i0 181), (rf 376), .none, (rf 377), (rf 378), (rf 379), (i0 1013), (i0 449), (us dw 1014)]
noncomputable def PS : Obj := fO (u_ Kj) (u_ Od) (cp 21 17) .none (us gU 827) 380
noncomputable def PT : Obj := cO [(us Kk 1016), (us Oe 1017), (us dw 1018), (i0 460), (i0 1), (i0 0), (i0 0), (i0 3), (rf 382), (.bool true), (i0 181), (rf 383), .none, (rf 384), (rf 385), (rf 386), (i0 1022), (i0 460), (us dw 1023)]
noncomputable def PU : Obj := fO (u_ Kk) (u_ Oe) (cp 21 18) .none (us gU 827) 387
noncomputable def PV : Obj := cO [(us Kl 1025), (us Of 1026), (us dw 1027), (i0 481), (i0 1), (i0 0), (i0 0), (i0 3), (rf 389), (.bool true), (i0 181), (rf 390), .none, (rf 391), (rf 392), (rf 393), (i0 1030), (i0 481), (us dw 1031)]
noncomputable def PW : Obj := fO (u_ Kl) (u_ Of) (cp 21 19) .none (us gU 827) 394
noncomputable def PX : Obj := cO [(us Km 1033), (us Og 1034), (us dw 1035), (i0 492), (i0 1), (i0 0), (i0 0), (i0 3), (rf 396), (.bool true), (i0 181), (rf 397), .none, (rf 398), (rf 399), (rf 400), (i0 1038), (i0 492), (us dw 1039)]
noncomputable def PY : Obj := fO (u_ Km) (u_ Og) (cp 21 20) .none (us gU 827) 401
noncomputable def PZ : Obj := cO [(us Kn 1041), (us Oi 1042), (us dw 1043), (i0 503), (i0 1), (i0 0), (i0 0), (i0 3), (rf 403), (.bool true), (i0 181), (rf 404), .none, (rf 405), (rf 406), (rf 407), (i0 1047), (i0 503), (us dw 1048)]
noncomputable def P0 : Obj := fO (u_ Kn) (u_ Oi) (cp 21 21) .none (us gU 827) 408
noncomputable def P1 : Obj := fO (u_ Oj) (u_ 197981711257013405007078963958367104677235701585181744983615950868684285503667407383112) (cp 21 22) .none (us gU 827) 415
noncomputable def P2 : Obj := fO (u_ Ol) (u_ 12083844681214144630758323625113453840139380364111429810137809535730080365698837064) (cp 21 23) .none (us gU 827) 422
noncomputable def P4 : Obj := fO (u_ Om) (u_ 12083844681183299290756848679151547795184030213950468845082825238704780342895798856) (cp 21 24) .none (us gU 827) 429
noncomputable def P5 : Obj := fO (u_ Oo) (u_ 1546732119198105248046540855980569356051549691832147965798154935353841523336466885192) (cp 21 25) .none (us gU 827) 436
noncomputable def P6 : Obj := fO (u_ Oq) (u_ 415197741725367807040275918730213834389279450305045289536620948711115432186381279267740936776) (cp 21 26) .none (us gU 827) 443
noncomputable def P7 : Obj := fO (u_ Ot) (u_ 5762026157941644634529984873859179662573050427897217184125500155991434685000) (cp 21 27) .none (us gU 827) 450
noncomputable def P8 : Obj := fO (u_ Ou) (u_ 1546732119192808147643372675566683760643755893268505195632791514935810463257773435464) (cp 21 28) .none (us gU 827) 457
noncomputable def P9 : Obj := fO (u_ Ov) (u_ 415197741725367807034978818327045653975393854897251490972978178545752011768350219189047487048) (cp 21 29) .none (us gU 827) 464
noncomputable def Qa : Obj := fO (u_ Ow) (u_ 111453795130407338002219899117993908002768690244558895787702813439689285537050623788186317905697401416) (cp 21 30) .none (us gU 827) 471
noncomputable def Qb : Obj := fO (u_ Oy) (u_ 6802599800439871473152294341790464047328194637001501380481179093785329909035674866808539000826440) (cp 21 31) .none (us gU 827) 478
noncomputable def Qc : Obj := fO (u_ Oz) (u_ 6802599800422507090435199489143830087097061823257616980304026255249953677239482376150541143337544) (cp 21 32) .none (us gU 827) 485
noncomputable def Qd : Obj := fO (u_ OA) (u_ 6802599800451723044378481523061136839817647216397869976428539985663593989843107278661189366934088) (cp 21 33) .none (us gU 827) 492
noncomputable def Qe : Obj := fO (u_ OB) (u_ 25341659040825235846922401191969891792245921651811684301303903748746571575220226888002120) (cp 21 34) .none (us gU 827) 499
noncomputable def Qf : Obj := fO (u_ OC) (u_ 6802599800428426150431360115403699270218197976495193524601769653349848528850902936398220949154376) (cp 21 35) .none (us gU 827) 506
noncomputable def Qg : Obj := fO (u_ OD) (u_ 1826058979413513569061348098833803792510207022014771289335574078357143373347974445363818469368918673943112) (cp 21 36) .none (us gU 827) 513
noncomputable def Qh : Obj := fO (u_ OE) (u_ 490178974822587977603023300722895953919103182902409982758186225578235713641709896428052317766495157130081435085384) (cp 21 37) .none (us gU 827) 520
noncomputable def Qi : Obj := fO (u_ OF) (u_ 415197741724888690186999255826078987786188146152382466227647671854935039928094646583113771592) (cp 21 38) .none (us gU 827) 527
noncomputable def Qj : Obj := cO [(us Ko 1169), (us OG 1170), (us dw 1171), (i0 575), (i0 1), (i0 0), (i0 0), (i0 3), (rf 529), (.bool true), (i0 181), (rf 530), .none, (rf 531), (rf 532), (rf 533), (i0 1174), (i0 575), (us dw 1175)]
noncomputable def Qk : Obj := fO (u_ Ko) (u_ OG) (cp 21 39) .none (us gU 827) 534
noncomputable def Ql : Obj := cO [(us Kq 1177), (us OH 1178), (us dw 1179), (i0 602), (i0 1), (i0 0), (i0 0), (i0 3), (rf 536), (.bool true), (i0 181), (rf 537), .none, (rf 538), (rf 539), (rf 540), (i0 1186), (i0 602), (us dw 1187)]
noncomputable def Qm : Obj := fO (u_ Kq) (u_ OH) (cp 21 40) .none (us gU 827) 541
noncomputable def Qn : Obj := fO (u_ OJ) (u_ 737539348216754107100407213741033645439303050068132695694529020811221740513864) (cp 21 41) .none (us gU 827) 548
noncomputable def Qo : Obj := cO [(us Kr 1197), (us OK 1198), (us dw 1199), (i0 670), (i0 1), (i0 0), (i0 0), (i0 3), (rf 550), (.bool true), (i0 181), (rf 551), .none, (rf 552), (rf 553), (rf 554), (i0 1202), (i0 670), (us dw 1203)]
noncomputable def Qq : Obj := fO (u_ Kr) (u_ OK) (cp 21 42) .none (us gU 827) 555
noncomputable def Qr : Obj := fO (u_ OL) (u_ 53145310940784728814512737505159812815462952128389011119597793473893271865368858206253840820808) (cp 21 43) .none (us gU 827) 562
noncomputable def Qs : Obj := fO (u_ OM) (u_ 53145310940784728814512737506201341573725567614343263918565625537582362467136519357065698961992) (cp 21 44) .none (us gU 827) 569
noncomputable def Qt : Obj := cO [(us Ks 1221), (us ON 1222), (us dw 1223), (i0 732), (i0 1), (i0 0), (i0 0), (i0 3), (rf 571), (.bool true), (i0 181), (rf 572), .none, (rf 573), (rf 574), (rf 575), (i0 1226), (i0 732), (us dw 1227)]
noncomputable def Qu : Obj := fO (u_ Ks) (u_ ON) (cp 21 45) .none (us gU 827) 576
noncomputable def Qv : Obj := fO (u_ OO) (u_ 94405036571746229048805254329517505842582327670205407771599167104621405587860040) (cp 21 46) .none (us gU 827) 583
noncomputable def Qw : Obj := cO [(us Kt 1237), (us OP 1238), (us dw 1239), (i0 771), (i0 1), (i0 0), (i0 0), (i0 3), (rf 585), (.bool true), (i0 181), (rf 586), .none, (rf 587), (rf 588), (rf 589), (i0 1242), (i0 771), (us dw 1243)]
noncomputable def Qx : Obj := fO (u_ Kt) (u_ OP) (cp 21 47) .none (us gU 827) 590
noncomputable def Qy (P : Params) : Obj := dO 4 [en P 883123151916293124063 851 (us gU 827), en P J9 855 (.int 182 854), en P Gf 864 (rf 261), en P 53902004360736735 871 (rf 268), en P 10371186754836535536276978958489368639459 886 (rf 275), en P 2358134851155292679122434019 901 (rf 283), en P N5 909 (rf 290), en P Ke 919 (rf 297), en P 7343549811154301156 928 (rf 304), en P 32297273626065612125600514652005 935 (rf 311), en P Kf 944 (rf 318), en P N9 951 (rf 325), en P Kg 960 (rf 332), en P 32297273626065612125427642184179 967 (rf 339), en P Kh 975 (rf 346), en P 15400540173618528170668276 983 (rf 353), en P 529158531091405923781398542920971875 991 (rf 360), en P 15400540173579216601346292 999 (rf 367), en P Ki 1007 (rf 374), en P Kj 1015 (rf 381), en P Kk 1024 (rf 388), en P Kl 1032 (rf 395), en P Km 1040 (rf 402), en P Kn 1049 (rf 409), en P Oj 1056 (rf 416), en P Ol 1063 (rf 423), en P Om 1070 (rf 430), en P Oo 1077 (rf 437), en P Oq 1084 (rf 444), en P Ot 1091 (rf 451), en P Ou 1098 (rf 458), en P Ov 1105 (rf 465), en P Ow 1112 (rf 472), en P Oy 1119 (rf 479), en P Oz 1126 (rf 486), en P OA 1133 (rf 493), en P OB 1140 (rf 500), en P OC 1147 (rf 507), en P OD 1154 (rf 514), en P OE 1161 (rf 521), en P OF 1168 (rf 528), en P Ko 1176 (rf 535), en P Kq 1188 (rf 542), en P OJ 1196 (rf 549), en P Kr 1204 (rf 556), en P OL 1212 (rf 563), en P OM 1220 (rf 570), en P Ks 1228 (rf 577), en P OO 1236 (rf 584), en P Kt 1244 (rf 591), en P 529158531092323144178770079257327586 1252 (rf 598), en P 4880625998731621868340768995539437336476859442535379181 1262 (rf 605), en P 529158531092327830141554724886509539 1270 (rf 612), en P 142044911589572737344230513612095566244444131 1278 (rf 619), en P 15400540173645222797604835 1286 (rf 626), en P 8669733373387007894397441489691165292515 1294 (rf 633), en P 32297273626092834344272412768227 1302 (rf 640), en P 8669733373384435297892118317372567943139 1310 (rf 647), en P 15400540173579326202640356 1318 (rf 654), en P 18181748683449490125039042132311563718148862690 1326 (rf 661), en P 4134051024141056160496882997065700 1334 (rf 668), en P 142044911589449141601867516658684095010517857 1344 (rf 675), en P 1310133065531274877014125469539684555065723249214376677350388577 1352 (rf 682), en P 351686166867961486771064399076403626068612590845478042780959177312940770 1360 (rf 689), en P 1546732119190993509677725887891132524981076741501473560572080327067617023612096673764 1368 (rf 696), en P 1546732119190993509677725887921445001377364285141079797953539309883847605038381332452 1376 (rf 703), en P 2747548178655949115398940617784403328661035865980297209226247035237217 1384 (rf 710), en P 53145310941013912810302191650830597594715531337533318878185624877785587826128183424762599256802 1392 (rf 717), en P 1310133065531274877014125476165385262586421453545573910023320417 1400 (rf 724), en P 351686166867961486771064399076404474158303153494848197174204959448216290 1408 (rf 731), en P 1546732119190993509677725887891132524981076741501473560572273160337665766557295900644 1416 (rf 738), en P 1546732119190993509677725887921445001377364285141079797953732143153896347983580559332 1424 (rf 745), en P 2747548178655949115398940617784409954361743386678501540423479708169057 1432 (rf 752), en P 529158531090058954416448514563897314 1440 (rf 759), en P Ka 1450 (rf 760), en P 53902072520191967 1452 (rf 763), en P Kb 1454 (rf 764), en P Oh 1455 .none]
noncomputable def Qz : Obj := ⟨(.type "type"), .none, (.cls { name := (u_ CE), bases := [(.type "object")], mro := [(rf 762), (.type "object")], ns := 761, qualname := (u_ CE), hasDict := true, slotNames := [], subclasses := [], abstract := false }), (.mk [some (rf 247), none, some (us CE 844), some (us CE 852), some (.builtin "object.__new__"), some (.bool true)])⟩
noncomputable def QA : Obj := ⟨(.type "list"), .none, (.seq (.mk [(us 6076 1460), (us 60 1461), (us 62 1462), (us 47 1463), (us 32 1464), (us 10 1465), (us 98 1466), (us 66 1467), (us 13556 1468), (us 1668724 1469), (us 1140308 1470), (us 131635132 1471), (us 68196284 1472), (us 35350842022107068 1473), (us 221583292 1474), (us 120 1475), (us 49 1476), (us 33 1477), (us 5805 1478), (us 131995580 1479), (us 26764747130869692 1480), (.str (q_ [201]) 1481), (us 4413 1482), (us 1028412 1483)]) 0), (.mk [])⟩
noncomputable def QB : Obj := lO []
noncomputable def QC : Obj := lO []
noncomputable def QD : Obj := tO [(us 62 1487), (rf 768), (rf 769), (.bool false)]
noncomputable def QE : Obj := lO []
noncomputable def QF : Obj := lO []
noncomputable def QG : Obj := tO [(us 7968 1488), (rf 771), (rf 772), (.bool false)]
noncomputable def QH : Obj := tO [(.int 2 1490), (us 81417865540624346946118564476539692763518302044970781717235 1491)]
noncomputable def QI : Obj := lO [(rf 774)]
noncomputable def QJ : Obj := lO []
noncomputable def QK : Obj := tO [(us 7983 1489), (rf 775), (rf 776), (.bool true)]
noncomputable def QL : Obj := tO [(.int 5 1493), (us 144627182302458029542450296742390010950269537 1494)]
noncomputable def QM : Obj := lO [(rf 778)]
noncomputable def QN : Obj := lO [(us 107 1495), (us 49 1496)]
noncomputable def QO : Obj := lO [(rf 780)]
noncomputable def QP : Obj := tO [(us 16746771850 1492), (rf 779), (rf 781), (.bool false)]
noncomputable def QQ : Obj := tO [(.int 1 1498), (us 201580871403847492116696585238073637603570965106562916129259542861876076834167539201909 1499)]
noncomputable def QR : Obj := lO [(rf 783)]
noncomputable def QS : Obj := lO []
noncomputable def QT : Obj := tO [(us 1019951 1497), (rf 784), (rf 785), (.bool false)]
noncomputable def QU : Obj := tO [(.int 1 1501), (us 45440379699131179400979760252385838125062894271882662370900232682145070181 1502)]
noncomputable def QV : Obj := lO [(rf 787)]
noncomputable def QW : Obj := tO [(us 32 1500), (rf 788), .none, (.bool false)]
noncomputable def QX : Obj := lO [(rf 770), (rf 773), (rf 777), (rf 782), (rf 786), (rf 789)]
noncomputable def QY : Obj := cO [(us CF 1504), (us CF 1505), (us dw 1506), (i0 1293), (i0 0), (i0 0), (i0 0), (i0 3), (rf 791), (.bool true), (i0 181), (rf 792), .none, (rf 793), (rf 794), (rf 795), (i0 1507), (i0 1293), (us dw 1508)]
noncomputable def QZ : Obj := fO (u_ CF) (u_ CF) (fp 26) .none (us HD 1458) 796
noncomputable def Q0 : Obj := cO [(us CG 1510), (us CG 1511), (us dw 1512), (i0 1295), (i0 1), (i0 0), (i0 0), (i0 3), (rf 798), (.bool true), (i0 181), (rf 799), .none, (rf 800), (rf 801), (rf 802), (i0 1518), (i0 1295), (us dw 1519)]
noncomputable def Q1 : Obj := fO (u_ CG) (u_ CG) (fp 27) .none (us HD 1458) 803
noncomputable def Q2 : Obj := cO [(us CH 1521), (us CH 1522), (us dw 1523), (i0 1301), (i0 2), (i0 0), (i0 0), (i0 3), (rf 805), (.bool true), (i0 181), (rf 806), .none, (rf 807), (rf 808), (rf 809), (i0 1526), (i0 1301), (us dw 1527)]
noncomputable def Q3 : Obj := fO (u_ CH) (u_ CH) (fp 28) .none (us HD 1458) 810
noncomputable def Q4 : Obj := cO [(us CI 1529), (us CI 1530), (us dw 1531), (i0 1303), (i0 3), (i0 0), (i0 0), (i0 3), (rf 812), (.bool true), (i0 181), (rf 813), .none, (rf 814), (rf 815), (rf 816), (i0 1536), (i0 1303), (us dw 1537)]
noncomputable def Q5 : Obj := fO (u_ CI) (u_ CI) (fp 29) .none (us HD 1458) 817
noncomputable def Q6 : Obj := cO [(us CJ 1539), (us CJ 1540), (us dw 1541), (i0 1306), (i0 2), (i0 0), (i0 0), (i0 3), (rf 819), (.bool true), (i0 181), (rf 820), .none, (rf 821), (rf 822), (rf 823), (i0 1544), (i0 1306), (us dw 1545)]
noncomputable def Q7 : Obj := fO (u_ CJ) (u_ CJ) (fp 30) .none (us HD 1458) 824
noncomputable def Q8 : Obj := cO [(us CK 1547), (us CK 1548), (us dw 1549), (i0 1310), (i0 3), (i0 0), (i0 0), (i0 3), (rf 826), (.bool true), (i0 181), (rf 827), .none, (rf 828), (rf 829), (rf 830), (i0 1557), (i0 1310), (us dw 1558)]
noncomputable def Q9 : Obj := fO (u_ CK) (u_ CK) (fp 31) .none (us HD 1458) 831
noncomputable def Ra : Obj := cO [(us 1962220 1560), (us 1962220 1561), (us dw 1562), (i0 1330), (i0 1), (i0 0), (i0 0), (i0 3), (rf 833), (.bool true), (i0 181), (rf 834), .none, .none, .none, (rf 835), (i0 1563), (i0 1330), (us dw 1564)]
noncomputable def Rb : Obj := fO (u_ 1962220) (u_ 1962220) (fp 32) .none (us HD 1458) 836
noncomputable def KK (P : Params) : Frag := [(0, VM P), (1, Vb P), (2, VN), (3, VO P), (22, T3), (27, T5), (41, T6), (42, T7), (48, T8 P), (49, T9), (62, Ua), (63, Ub), (69, Uc), (70, Ud), (72, Ue P), (73, Ug), (83, Uh), (84, Ui), (97, Uj), (98, Uk), (104, OV), (105, OW), (111, OX), (112, OY), (118, OZ), (119, O6), (125, O8), (126, O9), (132, Pa), (133, Pb), (134, Pc), (140, Pd), (141, Pe), (147, Pf), (148, Pg), (149, Ph), (155, Pj), (156, Pk), (162, Pm), (163, Pn), (165, Po P), (166, Pp), (254, Pq), (260, Pr), (261, Pu), (267, Pw), (268, Px), (290, Pz), (296, PA), (297, PB), (303, PC), (304, PD), (311, PE), (317, PF), (318, PG), (325, PH), (331, PI), (332, PJ), (339, PK), (345, PL), (346, PM), (353, PN), (373, PO), (374, PQ), (380, PR), (381, PS), (387, PT), (388, PU), (394, PV), (395, PW), (401, PX), (402, PY), (408, PZ), (409, P0), (416, P1), (423, P2), (430, P4), (437, P5), (444, P6), (451, P7), (458, P8), (465, P9), (472, Qa), (479, Qb), (486, Qc), (493, Qd), (500, Qe), (507, Qf), (514, Qg), (521, Qh), (528, Qi), (534, Qj), (535, Qk), (541, Ql), (542, Qm), (549, Qn), (555, Qo), (556, Qq), (563, Qr), (570, Qs), (576, Qt), (577, Qu), (584, Qv), (590, Qw), (591, Qx), (761, Qy P), (762, Qz), (767, QA), (768, QB), (769, QC), (770, QD), (771, QE), (772, QF), (773, QG), (774, QH), (775, QI), (776, QJ), (777, QK), (778, QL), (779, QM), (780, QN), (781, QO), (782, QP), (783, QQ), (784, QR), (785, QS), (786, QT), (787, QU), (788, QV), (789, QW), (790, QX), (796, QY), (797, QZ), (803, Q0), (804, Q1), (810, Q2), (811, Q3), (817, Q4), (818, Q5), (824, Q6), (825, Q7), (831, Q8), (832, Q9), (836, Ra), (837, Rb)]
noncomputable def Dt (st : SharedT → Thread → Option (SharedT × Thread)) (ok : Thread → Bool) : Nat → SharedT → Thread → Option SharedT
 | 0, _, _ => none
 | n + 1, s, t => match through t with
  | true => some s
  | false => match ok t with
   | false => none
   | true => match st s t with
    | some r => Dt st ok n r.1 r.2
    | none => none
theorem xr {tb : String → Option Builtin} {p : Program} {w : World} {n₀ : Nat} {ann : Option Value} : ∀ {n : Nat} {s s' : SharedT} {t : Thread}, Dt (stepT (denote tb) p w) (stepOk n₀ ann) n s t = some s' → topRun tb p w n₀ ann n s.abs t = some s'.abs
 | 0, _, _, _, h => by cases h
 | n + 1, s, s', t, h => by
  unfold Dt at h
  unfold topRun
  cases ht : through t with
  | true => rw [ht] at h; cases h; rfl
  | false =>
   rw [ht] at h
   cases hk : stepOk n₀ ann t with
   | false => rw [hk] at h; cases h
   | true =>
    rw [hk] at h
    cases hs : stepT (denote tb) p w s t with
    | none => rw [hs] at h; cases h
    | some r => obtain ⟨s₂, t₂⟩ := r; rw [hs] at h; rw [stepT_spec hs]; exact xr h
noncomputable def Nt : Nat → List Obj → BT → BT
 | _, [], T => T
 | i, o :: r, T => Nt (i + 1) r (T.ins i o)
noncomputable def S0 (w : World) (os : OsState) : SharedT := ⟨Nt 0 (boot_heap w.params).objs.toList .nil, 11, (boot_heap w.params).life, Array.mk [], boot_drawn, boot_toks, os⟩
theorem H4 (w : World) (os : OsState) : (S0 w os).abs = ⟨boot_heap w.params, Array.mk [], boot_drawn, boot_toks, os⟩ := by kernel_rfl
theorem Aj (P : Params) : (boot_heap P).nsMap mainGlobals "__annotations__" = some (.ref 6) := by kernel_rfl
theorem Ew (P : Params) : (boot_heap P).isNs mainGlobals = true := by kernel_rfl
theorem Ey (P : Params) : (boot_heap P).objs.size = 11 := by kernel_rfl
theorem FO {p q : Program} {loose : List Str} {Xt : Shared → Bool} {α : Type} {Yf : Shared → α} {Ya : World → α} {N : Nat} (e : opening p = plainProg p.main.scope.names) (hN : Nat.ble 600 N = true) (f : ∀ s, fenceModules? p s = some s)
  (run : ∀ w os, (Dt (stepT (denote treeTable) p w) (stepOk 11 (some (.ref 6))) N (S0 w os) (topStub p)).map (fun s => (staticsOk (importedModules p.main.body) (boot_heap w.params) s.abs.heap && namesBound p s.abs.heap && gensDone s.abs && laidKept (boot_heap w.params) s.abs.heap, openSeen q loose (importedModules p.main.body) Xt true s.abs, Yf s.abs)) = some (true, openGood q loose, Ya w)) :
  LeftO p q loose Xt Yf Ya N := fun w => by
 obtain ⟨⟨h, gs, d, k, os⟩, e1, e2⟩ := Option.map_eq_some_iff.mp (boot_open e hN f w)
 obtain ⟨rfl, rfl, rfl, rfl⟩ : h = boot_heap w.params ∧ gs = Array.mk [] ∧ d = boot_drawn ∧ k = boot_toks := by simpa using e2
 obtain ⟨s, r1, r2⟩ := Option.map_eq_some_iff.mp (run w os)
 have r := xr r1
 rw [H4] at r
 obtain ⟨l1, l2⟩ := Prod.mk.inj r2
 unfold openEnds
 rw [e1]
 show (topFrom treeTable p w N _).map _ = _
 have t : topFrom treeTable p w N ⟨boot_heap w.params, Array.mk [], boot_drawn, boot_toks, os⟩ = some s.abs := by
  unfold topFrom
  dsimp only
  rw [Aj, Ew, Ey, r]
  show (match staticsOk _ _ _ && _ && _ && _ with | true => _ | false => _) = _
  rw [l1]
 rw [t]
 exact congrArg some l2
noncomputable def qv : Program := { uj with main := { uj.main with body := [DC uj.main.body 32] } }
noncomputable def NH : List Str := (uj.main.scope.names.map (·.1)).dropLast
abbrev L1 : OpenLaw := PySem.Challenge.rw_im0060_01
noncomputable abbrev SM : Shared → Bool := fun _ => true
noncomputable def SR : List Addr := [0,1,2,3,22,27,41,42,48,49,62,63,69,70,72,73,83,84,97,98,104,105,111,112,118,119,125,126,132,133,134,140,141,147,148,149,155,156,162,163,165,166,254,260,261,267,268,290,296,297,303,304,311,317,318,325,331,332,339,345,346,353,373,374,380,381,387,388,394,395,401,402,408,409,416,423,430,437,444,451,458,465,472,479,486,493,500,507,514,521,528,534,535,541,542,549,555,556,563,570,576,577,584,590,591,761,762,767,768,769,770,771,772,773,774,775,776,777,778,779,780,781,782,783,784,785,786,787,788,789,790,796,797,803,804,810,811,817,818,824,825,831,832,836,837]
noncomputable def Mi (s : Shared) : List (Option Obj) := SR.map s.heap.get?
noncomputable def Mh (w : World) : List (Option Obj) := (KK w.params).map fun p => some p.2
noncomputable def We (h₀ : Heap) (s : Shared) : Bool := staticsOk (importedModules uj.main.body) h₀ s.heap && namesBound uj s.heap && gensDone s && laidKept h₀ s.heap
noncomputable def Seen (w : World) (os : OsState) : Prop := (Dt (stepT (denote treeTable) uj w) (stepOk 11 (some (.ref 6))) 20000 (S0 w os) (topStub uj)).map (fun s => (staticsOk (importedModules uj.main.body) (boot_heap w.params) s.abs.heap && namesBound uj s.abs.heap && gensDone s.abs && laidKept (boot_heap w.params) s.abs.heap, openSeen qv NH (importedModules uj.main.body) SM true s.abs, Mi s.abs)) = some (true, openGood qv NH, Mh w)
theorem La (w : World) (os : OsState) : Seen (w.withFollow "special-get-raises" false) os := by
 unfold Seen
 rw [PySem.W.Fast.te10156331382660048174, PySem.W.Fast.te11892475500146522536, PySem.W.Fast.te14364793385576792824, PySem.W.Fast.te6613529449190102663, PySem.W.Fast.te4187177175401517315]
 kernel_rfl
theorem Lb (w : World) (os : OsState) : Seen (w.withFollow "special-get-raises" true) os := by
 unfold Seen
 rw [PySem.W.Fast.te10156331382660048174, PySem.W.Fast.te11892475500146522536, PySem.W.Fast.te14364793385576792824, PySem.W.Fast.te6613529449190102663, PySem.W.Fast.te4187177175401517315]
 kernel_rfl
theorem DA (w : World) : ∀ os, Seen w os := byRow2 "special-get-raises" (P := fun w => ∀ os, Seen w os) La Lb w
theorem left : LeftO uj qv NH SM Mi Mh 20000 := FO (by kernel_rfl) (by rfl) (fun s => by kernel_rfl) DA
theorem Vx : sreFenced L1.prog.main = true := by kernel_rfl
theorem hd2 : ((moduleNames L1.prog.main.body).isEmpty || lookedIntoSs (moduleNames L1.prog.main.body) L1.prog.main.body) = true := by kernel_rfl
theorem Vy : namesResolve L1.prog = true := (congrFun PySem.W.Fast.te8377067652309620493 _).trans (by kernel_rfl)
theorem Vz : L1.prog.boundNames.all (fun n => !worldNames.contains n) = true := by kernel_rfl
theorem Tt : readsOut L1.prog L1.prog.main.body "vars" = false := by rw [PySem.W.Fast.te13343964577679436407]; kernel_rfl
theorem Tu : readsOut L1.prog L1.prog.main.body "dir" = false := by rw [PySem.W.Fast.te13343964577679436407]; kernel_rfl
theorem Tv : readsOut L1.prog L1.prog.main.body "locals" = false := by rw [PySem.W.Fast.te13343964577679436407]; kernel_rfl
theorem Tw : (!(importedModules L1.prog.main.body).all cThrough.contains) = false := by kernel_rfl
theorem Tx : noRoadLSs { strict := false, foot := none, bare := [] } L1.prog.main.body = true := (congrFun (congrFun PySem.W.Fast.te8326940854005059898 _) _).trans (by kernel_rfl)
theorem VA : noRoadLSs { strict := !(importedModules L1.prog.main.body).all cThrough.contains, foot := none, bare := (["vars", "dir", "locals"] : List Str).filter (readsOut L1.prog L1.prog.main.body) } L1.prog.main.body = true := by
 have e : (["vars", "dir", "locals"] : List Str).filter (readsOut L1.prog L1.prog.main.body) = [] := by
  rw [List.filter_cons, Tt, List.filter_cons, Tu, List.filter_cons, Tv]; rfl
 rw [e, Tw]; exact Tx
theorem VC : (namesMeet L1.prog L1.prog.main.body fun _ n => attrL n) = true := by
 rw [PySem.W.Fast.te17119622794617984870, PySem.W.Fast.te17868728402115742887]; kernel_rfl
theorem GB : looksOpen L1.prog = true := look_both (look_both (look_both (look_both (look_both Vx hd2) Vy) Vz) VA) VC
theorem K6 : L1.row.partSaid = true := by
 unfold OpenRow.partSaid
 iterate 13 (refine look_both ?_ ?_; rotate_left; kernel_rfl)
 exact GB
theorem s_row : L1.row.wellSaid = true := by
 unfold OpenRow.wellSaid
 exact look_both (look_both K6 (by kernel_rfl)) (by kernel_rfl)
theorem VD : (namesMeet L1.prog L1.footing fun sc n => sc.kind == .module || sc.names.lookup n != some .globalExplicit) = true := by
 rw [PySem.W.Fast.te17119622794617984870]; kernel_rfl
theorem VE : (namesMeet L1.prog L1.above (fun _ n => !L1.own.contains n)) = true := by
 rw [PySem.W.Fast.te17119622794617984870]; kernel_rfl
theorem VF : (namesMeet L1.prog L1.footing (fun sc n => (!(["type", "isinstance", "issubclass", "getattr", "hasattr"] : List Str).contains n || sc.names.lookup n == some .globalImplicit) &&
  (L1.may != some n || sc.kind == .module || sc.names.lookup n == some .globalImplicit))) = true := by
 rw [PySem.W.Fast.te17119622794617984870]; kernel_rfl
theorem VG : L1.bound'.all (fun n => !builtinNamed n || L1.about == [n] || !L1.reads n) = true := by
 rw [PySem.W.Fast.te6984425678791042302, PySem.W.Fast.named_eq]; kernel_rfl
theorem TB : L1.namesIt = true := (congrFun PySem.W.Fast.te16286561074155671207 _).trans (by kernel_rfl)
theorem TC : noRoadLSs { strict := true, foot := some L1.bound', writes := L1.writes, may := L1.may } L1.footing = true :=
 (congrFun (congrFun PySem.W.Fast.te8326940854005059898 _) _).trans (by kernel_rfl)
theorem Dz : L1.wellSaid = true := by
 unfold OpenLaw.wellSaid
 refine look_both (look_both (look_both (look_both (look_both (look_both (look_both (look_both (look_both (look_both (look_both (look_both (look_both (look_both (look_both (look_both (look_both (look_both s_row (by kernel_rfl)) (by kernel_rfl)) (by kernel_rfl)) (by kernel_rfl)) (by kernel_rfl)) TC) (by kernel_rfl)) TB) (by kernel_rfl)) VG) (by kernel_rfl)) (by kernel_rfl)) VF) (by kernel_rfl)) (by kernel_rfl)) (by rw [PySem.W.Fast.named_eq]; kernel_rfl)) VE) VD
inductive Cl where | txt | ak | tok
deriving DecidableEq, Inhabited
inductive Bi where | len | ord | chr | sum | max | min | lx | range | bool
deriving DecidableEq, Inhabited
inductive Fn where
 | iN | gF | mU | hU
 | xt | rG | xu | iH | kY | gS | hK | iG | oO | oN
 | t9 | jt | xD | bl | jR | fj | cu | i8 | i7 | b8 | gk | gj | bx
 | iX | tAN | tAAN | zG | tADQ | tASQ | zF | tAAV | zP
 | tEnt | tCRR | ua
 | tS | tSLt | tSEO | tSEN | tSES | tSESD | tSE | tSED | tSEDD | tSELt | tSEEO | tSEEN | tSDES | tSDE | tSDED | DK | DL | tSDEE
 | ly | n7 | fF | qk | ql | tF | lSeek | lClose | law | xq
deriving DecidableEq, Inhabited
inductive AV where
 | none | bool (b : Bool) | int (i : Int) | str (s : List Nat)
 | tup (vs : List AV) | lst (vs : List AV) | cH (es : List (Nm × AV))
 | pD (n : Nat) | aQ (n : Nat) | fn (f : Fn) | cls (c : Cl) | bi (b : Bi) | ba (f : Fn) (self : AV) | inst (c : Cl) (n : Nat)
deriving Inhabited
inductive AO where
 | list (vs : List AV) | dict (es : List (Nm × AV)) | ak (lT lS : Nat) (rb aq : List Nat) (ended : Bool) | txt (t : List Nat) (done : Bool)
deriving Inhabited
noncomputable def lk {α : Type} : List (Nm × α) → Nm → Option α
 | [], _ => Option.none
 | p :: r, n => if p.1 = n then some p.2 else lk r n
noncomputable def pt {α : Type} : List (Nm × α) → Nm → α → List (Nm × α)
 | [], n, v => [(n, v)]
 | p :: r, n, v => if p.1 = n then (p.1, v) :: r else p :: pt r n v
theorem c9 {α : Type} {p : Nm × α} {r : List (Nm × α)} {n : Nm} : lk (p :: r) n = if p.1 = n then some p.2 else lk r n := rfl
theorem jD {α : Type} {p : Nm × α} {r : List (Nm × α)} {n : Nm} {v : α} : pt (p :: r) n v = if p.1 = n then (p.1, v) :: r else p :: pt r n v := rfl
noncomputable def bV : List Nat → List Nat → Bool
 | [], [] => true
 | a :: r, b :: q => Nat.beq a b && bV r q
 | _, _ => false
noncomputable def JK {α : Type} : List (Nm × α) → List Nat → Option α
 | [], _ => Option.none
 | p :: r, s => cond (bV (CB p.1) s) (some p.2) (JK r s)
noncomputable def Rg {α : Type} : List (Nm × α) → List Nat → α → Option (List (Nm × α))
 | [], _, _ => Option.none
 | p :: r, s, v => cond (bV (CB p.1) s) (some ((p.1, v) :: r)) ((Rg r s v).map (p :: ·))
structure St where
 H : List AO
 V : List (Nm × AV)
 O : List Nat := []
deriving Inhabited
inductive Fl where | nx | bk | rt (v : AV)
deriving Inhabited
inductive Kd where | loc | k8 | cI
deriving DecidableEq, Inhabited
inductive oX where | add | sub | mul | fdiv | mod
deriving DecidableEq
inductive oZ where | eq | ne | lt | le | gt | ge | is | isn | isin | nin
deriving DecidableEq
mutual
inductive Ex where
 | c (v : AV) | v (x : Nm) | g (x : Nm) | no | bad
 | at (e : Ex) (a : Nm) | ix (e i : Ex) | sl (e lo hi : Ex)
 | bin (o : oX) (a b : Ex) | cmp (a : Ex) (r : jJ) | and (es : dZ) | or (es : dZ) | not (e : Ex) | neg (e : Ex) | ite (t a b : Ex)
 | tup (es : dZ) | lst (es : dZ) (frz : Bool) | cH (ks : rX) (frz : Bool)
 | call (f : Ex) (as : dZ) | aw (o : Ex) (m : Nm) (as : dZ)
 | comp (ks : List (Nm × Kd)) (elt : Ex) (t : List Nm) (it : Ex) (cs : dZ)
inductive dZ where | nil | cons (e : Ex) (r : dZ)
inductive jJ where | nil | cons (o : oZ) (e : Ex) (r : jJ)
inductive rX where | nil | cons (k : Nm) (e : Ex) (r : rX)
end
inductive Tg where | v (x : Nm) | at (e : Ex) (a : Nm) | ix (e i : Ex) | bad
mutual
inductive Sx where
 | exp (e : Ex) | asg (t : Tg) (e : Ex) | qx (x : Nm) (e : Ex) | iO (ts : List Tg) (e : Ex) | aug (t : Tg) (o : oX) (e : Ex)
 | ite (t : Ex) (a b : cT) | mW (t : Ex) (b : cT) | fr (ts : List Nm) (tup : Bool) (e : Ex) (b : cT)
 | ret (e : Ex) | brk | pass | xZ (e : Ex) | bad
inductive cT where | nil | cons (s : Sx) (r : cT)
end
structure bS where
 call : Fn → List AV → List AO → Option (AV × List AO × List Nat)
 glob : Nm → Option AV
 ba : Cl → Nm → Option Fn
 b6 : Cl → Nm → Option AV
 init : Cl → Fn
 fuel : Nat
noncomputable def jQ (s : List Nat) : Nat := s.count 10
noncomputable def fA : List Nat → Nat
 | [] => 0
 | c :: r => match Nat.beq c 10 with | true => 0 | false => fA r + 1
noncomputable def aB (lT lS : Nat) (rb aq : List Nat) (ended : Bool) : List (Nm × AV) :=
 [(.aT, .ba .iG (.inst .ak lS)), (.dK, .lst [.int 0]), (.cn, .inst .txt lT), (.a9, .str (cond ended [] (rb.reverse ++ aq))), (.aC, .int (cond ended 0 ((rb.length + aq.length : Nat) : Int))), (.ar, .int (cond ended 0 (rb.length : Int))), (.dA, .lst []), (.bg, .int (cond ended (jQ rb : Int) 0)), (.bq, .int (cond ended (fA rb : Int) 0)), (.aR, .none)]
noncomputable def AO.fl : AO → Option (List (Nm × AV))
 | .dict aN => some aN
 | .ak lT lS b a e => some (aB lT lS b a e)
 | .txt t d => some [(.af, .str t), (.ae, .int (cond d (t.length : Int) 0))]
 | .list _ => Option.none
noncomputable def a8 (s : List Nat) : List Nat := (Txt.lower ⟨s.toArray⟩).cps.toList
theorem nn {α : Type} {x : α} {P : Prop} (h : none = some x) : P := nomatch h
noncomputable def bd {α β : Type} (o : Option α) (f : α → Option β) : Option β := match o with
 | some x => f x
 | Option.none => Option.none
@[simp] theorem Sn {α β : Type} (a : α) (f : α → Option β) : bd (some a) f = f a := rfl
@[simp] theorem Sm {α β : Type} (f : α → Option β) : bd Option.none f = Option.none := rfl
theorem ai {α β : Type} {o : Option α} {f : α → Option β} {r : β} {P : Prop} (h : bd o f = some r) (k : ∀ x, f x = some r → o = some x → P) : P := by
 cases o with
 | none => cases h
 | some x => exact k x h rfl
theorem az {α β : Type} {o : Option α} {f : α → Option β} {r : Option β} {x : α} (e : o = some x) (h : f x = r) : bd o f = r := e ▸ h
noncomputable def alt {α β : Type} (o : Option α) (f : α → Option β) (b : Option β) : Option β := match o with
 | some x => f x
 | Option.none => b
@[simp] theorem Mq {α β : Type} (a : α) (f : α → Option β) (b : Option β) : alt (some a) f b = f a := rfl
@[simp] theorem Mp {α β : Type} (f : α → Option β) (b : Option β) : alt Option.none f b = b := rfl
theorem bL {α β : Type} {o : Option α} {f : α → Option β} {b : Option β} {r : β} {P : Prop} (h : alt o f b = some r) (k : ∀ x, f x = some r → o = some x → P) (k' : b = some r → P) : P := by
 cases o with
 | none => exact k' h
 | some x => exact k x h rfl
noncomputable def ia {α : Type} (b : Bool) (r : α) : Option α := cond b (some r) Option.none
@[simp] theorem iff_true {α : Type} (r : α) : ia true r = some r := rfl
@[simp] theorem iff_false {α : Type} (r : α) : ia false r = Option.none := rfl
theorem fZ {α : Type} {b : Bool} {r r' : α} {P : Prop} (h : ia b r = some r') (k : b = true → r = r' → P) : P := by
 cases b with
 | true => exact k rfl (Option.some.inj h)
 | false => cases h
theorem bC {α : Type} {b : Bool} {x y : Option α} {r : α} {P : Prop} (h : cond b x y = some r) (k : x = some r → b = true → P) (k' : y = some r → b = false → P) : P := by
 cases b with
 | true => exact k h rfl
 | false => exact k' h rfl
theorem gQ {α β : Type} {o : Option α} {f : α → β} {r : β} {P : Prop} (h : o.map f = some r) (k : ∀ x, f x = r → o = some x → P) : P := by
 cases o with
 | none => cases h
 | some x => exact k x (Option.some.inj h) rfl
noncomputable def je : AV → Option Int | .int i => some i | _ => Option.none
noncomputable def gx : AV → Option (List Nat) | .str i => some i | _ => Option.none
noncomputable def xW : AV → Option Bool | .bool i => some i | _ => Option.none
noncomputable def jK : AV → Option Unit | .none => some () | _ => Option.none
noncomputable def pJ : AV → Option (List AV) | .tup i => some i | _ => Option.none
noncomputable def vY : AV → Option (List AV) | .lst i => some i | _ => Option.none
noncomputable def z7 : AV → Option (List (Nm × AV)) | .cH i => some i | _ => Option.none
noncomputable def dU : AV → Option Nat | .aQ i => some i | _ => Option.none
noncomputable def o6 : AV → Option (Cl × Nat) | .inst c n => some (c, n) | _ => Option.none
noncomputable def lg : AV → Option Unit | .bi b => (match b with | .bool => some () | _ => Option.none) | _ => Option.none
section
variable {i : Int} {s : List Nat} {b : Bool} {vs : List AV} {es : List (Nm × AV)} {n : Nat} {c : Cl} {x : Bi} {f : Fn}
@[simp] theorem RT : je (.int i) = some i := rfl
@[simp] theorem RX : je (.str s) = Option.none := rfl
@[simp] theorem Mt : je .none = Option.none := rfl
@[simp] theorem Ms : je (.bool b) = Option.none := rfl
@[simp] theorem RY : je (.tup vs) = Option.none := rfl
@[simp] theorem RV : je (.lst vs) = Option.none := rfl
@[simp] theorem RU : je (.aQ n) = Option.none := rfl
@[simp] theorem Sf : gx (.str s) = some s := rfl
@[simp] theorem Sb : gx (.int i) = Option.none := rfl
@[simp] theorem My : gx .none = Option.none := rfl
@[simp] theorem Mx : gx (.bool b) = Option.none := rfl
@[simp] theorem Sg : gx (.tup vs) = Option.none := rfl
@[simp] theorem Se : gx (.lst vs) = Option.none := rfl
@[simp] theorem Sd : gx (.aQ n) = Option.none := rfl
@[simp] theorem Mr : xW (.bool b) = some b := rfl
@[simp] theorem Mw : jK .none = some () := rfl
@[simp] theorem R6 : jK (.int i) = Option.none := rfl
@[simp] theorem R9 : jK (.str s) = Option.none := rfl
@[simp] theorem Mu : jK (.bool b) = Option.none := rfl
@[simp] theorem Sa : jK (.tup vs) = Option.none := rfl
@[simp] theorem R8 : jK (.lst vs) = Option.none := rfl
@[simp] theorem R7 : jK (.aQ n) = Option.none := rfl
@[simp] theorem Mv : jK (.inst c n) = Option.none := rfl
@[simp] theorem Sl : pJ (.tup vs) = some vs := rfl
@[simp] theorem Sh : pJ (.int i) = Option.none := rfl
@[simp] theorem Sk : pJ (.str s) = Option.none := rfl
@[simp] theorem Sj : pJ (.lst vs) = Option.none := rfl
@[simp] theorem Si : pJ (.aQ n) = Option.none := rfl
@[simp] theorem R3 : vY (.lst vs) = some vs := rfl
@[simp] theorem RZ : vY (.int i) = Option.none := rfl
@[simp] theorem R4 : vY (.str s) = Option.none := rfl
@[simp] theorem R5 : vY (.tup vs) = Option.none := rfl
@[simp] theorem R0 : vY (.aQ n) = Option.none := rfl
@[simp] theorem RO : z7 (.cH es) = some es := rfl
@[simp] theorem RP : z7 (.aQ n) = Option.none := rfl
@[simp] theorem RQ : z7 (.lst vs) = Option.none := rfl
@[simp] theorem RS : z7 (.tup vs) = Option.none := rfl
@[simp] theorem LF : dU (.aQ n) = some n := rfl
@[simp] theorem LG : dU (.lst vs) = Option.none := rfl
@[simp] theorem LH : dU (.tup vs) = Option.none := rfl
@[simp] theorem LD : o6 (.inst c n) = some (c, n) := rfl
@[simp] theorem Hd : lg (.bi .bool) = some () := rfl
end
section
variable {P : AV → Prop} {x : AV}
@[elab_as_elim] theorem uw {i : Int} (h : je x = some i) (k : P (.int i)) : P x := by cases x <;> first | exact nn h | exact Option.some.inj h ▸ k
@[elab_as_elim] theorem Aa {i : List Nat} (h : gx x = some i) (k : P (.str i)) : P x := by cases x <;> first | exact nn h | exact Option.some.inj h ▸ k
@[elab_as_elim] theorem uu {i : Bool} (h : xW x = some i) (k : P (.bool i)) : P x := by cases x <;> first | exact nn h | exact Option.some.inj h ▸ k
@[elab_as_elim] theorem ux {i : Unit} (h : jK x = some i) (k : P .none) : P x := by cases x <;> first | exact nn h | exact k
@[elab_as_elim] theorem Ip {i : List AV} (h : pJ x = some i) (k : P (.tup i)) : P x := by cases x <;> first | exact nn h | exact Option.some.inj h ▸ k
@[elab_as_elim] theorem Io {i : List AV} (h : vY x = some i) (k : P (.lst i)) : P x := by cases x <;> first | exact nn h | exact Option.some.inj h ▸ k
@[elab_as_elim] theorem Im {i : List (Nm × AV)} (h : z7 x = some i) (k : P (.cH i)) : P x := by cases x <;> first | exact nn h | exact Option.some.inj h ▸ k
@[elab_as_elim] theorem z9 {i : Nat} (h : dU x = some i) (k : P (.aQ i)) : P x := by cases x <;> first | exact nn h | exact Option.some.inj h ▸ k
@[elab_as_elim] theorem En {i : Cl × Nat} (h : o6 x = some i) (k : P (.inst i.1 i.2)) : P x := by cases x <;> first | exact nn h | (cases h; exact k)
@[elab_as_elim] theorem xX {i : Unit} (h : lg x = some i) (k : P (.bi .bool)) : P x := by
 cases x with
 | bi b => cases b <;> first | exact k | exact nn h
 | _ => exact nn h
end
noncomputable def AO.ls : AO → Option (List AV) | .list vs => some vs | .dict _ => Option.none | .ak .. => Option.none | .txt .. => Option.none
noncomputable def AO.ds : AO → Option (List (Nm × AV)) | .list _ => Option.none | .dict vs => some vs | .ak .. => Option.none | .txt .. => Option.none
@[simp] theorem SD {vs : List AV} : (AO.list vs).ls = some vs := rfl
@[simp] theorem Sp {vs : List (Nm × AV)} : (AO.dict vs).ds = some vs := rfl
@[simp] theorem SA {vs : List (Nm × AV)} : (AO.dict vs).ls = Option.none := rfl
@[elab_as_elim] theorem NI {P : AO → Prop} {o : AO} {vs : List AV} (h : o.ls = some vs) (k : P (.list vs)) : P o := by cases o <;> first | exact nn h | exact Option.some.inj h ▸ k
@[elab_as_elim] theorem M9 {P : AO → Prop} {o : AO} {vs : List (Nm × AV)} (h : o.ds = some vs) (k : P (.dict vs)) : P o := by cases o <;> first | exact nn h | exact Option.some.inj h ▸ k
noncomputable def eJ (H : List AO) (n : Nat) : Option (List AV) := bd H[n]? AO.ls
noncomputable def gq (H : List AO) (n : Nat) : Option (List (Nm × AV)) := bd H[n]? AO.ds
noncomputable def hW (H : List AO) (n : Nat) : Option (List (Nm × AV)) := bd H[n]? AO.fl
theorem om {H : List AO} {n : Nat} {vs : List AV} (h : eJ H n = some vs) : H[n]? = some (.list vs) := ai h fun _ h e => e.trans (NI h rfl)
theorem sG {H : List AO} {n : Nat} {vs : List (Nm × AV)} (h : gq H n = some vs) : H[n]? = some (.dict vs) := ai h fun _ h e => e.trans (M9 h rfl)
theorem g8 {H : List AO} {n : Nat} {vs : List AV} (h : H[n]? = some (.list vs)) : eJ H n = some vs := az h rfl
theorem EU {H : List AO} {n : Nat} {vs : List (Nm × AV)} (h : H[n]? = some (.dict vs)) : gq H n = some vs := az h rfl
noncomputable def RN {α : Type} : List α → Option Unit | [] => some () | _ :: _ => Option.none
noncomputable def jb {α : Type} : List α → Option α | [] => Option.none | x :: r => bd (RN r) fun _ => some x
noncomputable def xV {α : Type} : List α → Option (α × α) | [] => Option.none | x :: r => bd (jb r) fun y => some (x, y)
noncomputable def Hc {α : Type} : List α → Option (α × α × α) | [] => Option.none | x :: r => bd (xV r) fun y => some (x, y)
section
variable {α : Type} {a b c d : α} {r : List α}
@[simp] theorem UJ : jb [a] = some a := rfl
@[simp] theorem UL : xV [a, b] = some (a, b) := rfl
@[simp] theorem UM : Hc [a, b, c] = some (a, b, c) := rfl
@[simp] theorem UI : jb ([] : List α) = Option.none := rfl
@[simp] theorem UK : jb (a :: b :: r) = Option.none := rfl
theorem iM {l : List α} {x : α} (h : jb l = some x) : l = [x] := by
 cases l with
 | nil => cases h
 | cons a r => cases r <;> cases h; rfl
theorem z6 {l : List α} {x : α × α} (h : xV l = some x) : l = [x.1, x.2] := by
 cases l with
 | nil => cases h
 | cons a r => exact ai h fun y q e => by rw [iM e, ← Option.some.inj q]
theorem Il {l : List α} {x : α × α × α} (h : Hc l = some x) : l = [x.1, x.2.1, x.2.2] := by
 cases l with
 | nil => cases h
 | cons a r => exact ai h fun y q e => by rw [z6 e, ← Option.some.inj q]
end
noncomputable def bt (H : List AO) (x : AV) : Option Bool := match x with
 | .none => some false
 | .bool b => some b
 | .int i => some (!(i == 0))
 | .str s => some (!s.isEmpty)
 | .lst vs => some (!vs.isEmpty)
 | .aQ n => alt (eJ H n) (fun vs => some (!vs.isEmpty)) (bd (gq H n) fun aN => some (!aN.isEmpty))
 | .ba .. => some true
 | .tup _ => Option.none
 | .cH _ => Option.none
 | .pD _ => Option.none
 | .fn _ => Option.none
 | .cls _ => Option.none
 | .bi _ => Option.none
 | .inst .. => Option.none
section
variable {H : List AO} {b : Bool} {i : Int} {s : List Nat} {vs : List AV} {n : Nat} {f : Fn} {x : AV}
@[simp] theorem HQ : bt H .none = some false := rfl
@[simp] theorem HO : bt H (.bool b) = some b := rfl
@[simp] theorem Lv : bt H (.int i) = some (!(i == 0)) := rfl
@[simp] theorem Ly : bt H (.str s) = some (!s.isEmpty) := rfl
@[simp] theorem Lx : bt H (.lst vs) = some (!vs.isEmpty) := rfl
@[simp] theorem Lw : bt H (.aQ n) = alt (eJ H n) (fun vs => some (!vs.isEmpty)) (bd (gq H n) fun aN => some (!aN.isEmpty)) := rfl
@[simp] theorem HP : bt H (.ba f x) = some true := rfl
end
noncomputable def i2 {α : Type} (x y : AV) (f : Int → Int → Option α) (e : Option α) : Option α := alt (je x) (fun a => bd (je y) (f a)) e
noncomputable def s2 {α : Type} (x y : AV) (f : List Nat → List Nat → Option α) (e : Option α) : Option α := alt (gx x) (fun a => bd (gx y) (f a)) e
noncomputable def ng (o : oX) (x y : AV) : Option (AV × List Nat) := match o with
 | .add => i2 x y (fun a b => some (.int (a + b), [])) (s2 x y (fun a b => some (.str (a ++ b), [a.length + b.length])) Option.none)
 | .sub => i2 x y (fun a b => some (.int (a - b), [])) Option.none
 | .mod => i2 x y (fun a b => ia (decide (0 < b) && decide (b < 100000)) (.int (Int.fmod a b), [])) Option.none
 | .fdiv => i2 x y (fun a b => ia (decide (0 < b) && decide (b < 100000)) (.int (Int.fdiv a b), [])) Option.none
 | .mul => Option.none
noncomputable def TU (x y : AV) (e : Option Bool) : Option Bool := alt (jK x) (fun _ => alt (jK y) (fun _ => some true) (bd (gx y) fun _ => some false)) (alt (gx x) (fun a => alt (jK y) (fun _ => some false) (bd (gx y) fun b => some (bV a b))) e)
noncomputable def Tf (x y : AV) : Option Bool := TU x y (i2 x y (fun a b => some (a == b)) Option.none)
noncomputable def qd (x : AV) : List AV → Option Bool
 | [] => some false
 | y :: r => bd (Tf y x) fun b => bd (qd x r) fun c => some (b || c)
noncomputable def HG : List Nat → List Nat → Bool
 | [], _ => true
 | a :: r, b :: q => Nat.beq a b && HG r q
 | _ :: _, [] => false
noncomputable def Uq (a : List Nat) : List Nat → Bool
 | [] => a.isEmpty
 | b :: q => HG a (b :: q) || Uq a q
noncomputable def Ef : List Nat → List Nat → Bool
 | [], _ => true
 | _ :: _, [] => false
 | a :: r, b :: q => if a = b then Ef r q else decide (a < b)
noncomputable def rn (f : AV → Option AV) : List AV → Option (List AV)
 | [] => some []
 | x :: r => bd (f x) fun y => bd (rn f r) fun q => some (y :: q)
noncomputable def JZ (f : AV → Option AV) : List (Nm × AV) → Option (List (Nm × AV))
 | [] => some []
 | p :: r => bd (f p.2) fun y => bd (JZ f r) fun q => some ((p.1, y) :: q)
noncomputable def AZ : AV → Option AV
 | .none => some .none
 | .bool b => some (.bool b)
 | .int i => some (.int i)
 | .str s => some (.str s)
 | _ => Option.none
noncomputable def gp (H : List AO) : Nat → Bool → AV → Option AV
 | 0, _, v => AZ v
 | k + 1, d, v =>
  alt (pJ v) (fun vs => (rn (gp H k d) vs).map .tup)
  (alt (alt (vY v) some (bd (dU v) fun n => eJ H n)) (fun vs => (rn (gp H k d) vs).map .lst)
  (alt (alt (z7 v) some (bd (dU v) fun n => gq H n)) (fun aN => cond d ((JZ (gp H k false) aN).map .cH) Option.none)
  (AZ v)))
noncomputable def TG (x : AV) : Bool := (jK x).isSome
noncomputable def uB (o : oZ) (x y : AV) : Option Bool := match o with
 | .is => bd (jK y) fun _ => some (TG x)
 | .isn => bd (jK y) fun _ => some (!TG x)
 | .eq => TU x y (i2 x y (fun a b => some (a == b)) (bd (xW x) fun a => bd (xW y) fun b => some (a == b)))
 | .ne => i2 x y (fun a b => some (!(a == b))) (s2 x y (fun a b => some (!bV a b)) Option.none)
 | .lt => i2 x y (fun a b => some (decide (a < b))) Option.none
 | .le => i2 x y (fun a b => some (decide (a ≤ b))) (s2 x y (fun a b => some (Ef a b)) Option.none)
 | .gt => i2 x y (fun a b => some (decide (b < a))) Option.none
 | .ge => i2 x y (fun a b => some (decide (b ≤ a))) Option.none
 | .isin => alt (pJ y) (fun vs => qd x vs) (bd (gx y) fun b => bd (gx x) fun a => bd (jb a) fun c => some (b.any (Nat.beq c)))
 | .nin => Option.none
noncomputable def Hn : oZ → Bool | .eq => true | _ => false
open Classical in
noncomputable def jT (H : List AO) (o : oZ) (a b : AV) : Option Bool :=
 alt (uB o a b) some (cond (Hn o) (bd (gp H 6 true a) fun x => bd (gp H 6 true b) fun y => if x = y then some true else Option.none) Option.none)
noncomputable def idx (i : Int) (n : Nat) : Option Nat := cond (decide (0 ≤ i)) (ia (decide (i.toNat < n)) i.toNat) (ia (decide (0 ≤ i + n)) (i + n).toNat)
noncomputable def TF (i : Int) (n : Nat) : Option Nat := ia (decide (0 ≤ i) && decide (i.toNat < n)) i.toNat
noncomputable def dn (i : Int) (n : Nat) : Nat := clipAt n i
noncomputable def eQ {α : Type} (l : List α) (lo hi : Nat) : List α := (l.take hi).drop lo
noncomputable def zu (H : List AO) (x : AV) : Option (List AV) := alt (vY x) some (bd (dU x) fun n => eJ H n)
noncomputable def lW (H : List AO) (x k : AV) : Option AV := alt (je k)
 (fun i => alt (gx x) (fun s => (idx i s.length).map fun j => .str [s.getD j 0]) (alt (pJ x) (fun vs => (idx i vs.length).map fun j => vs.getD j .none) (bd (zu H x) fun vs => (idx i vs.length).map fun j => vs.getD j .none)))
 (bd (gx k) fun s => alt (z7 x) (fun es => JK es s) (bd (dU x) fun n => bd (gq H n) fun es => JK es s))
noncomputable def S3 (d : Nat) (n : Nat) (x : AV) : Option Nat := alt (jK x) (fun _ => some d) (bd (je x) fun i => some (dn i n))
noncomputable def ID {α : Type} (n : Nat) (lo hi : AV) (f : Nat → Nat → α) : Option α := bd (S3 0 n lo) fun a => bd (S3 n n hi) fun b => some (f a b)
noncomputable def zw (H : List AO) (x lo hi : AV) : Option AV := alt (gx x) (fun s => ID s.length lo hi fun a b => .str (eQ s a b)) (bd (zu H x) fun vs => ID vs.length lo hi fun a b => .lst (eQ vs a b))
noncomputable def D9 (G : bS) (aN : List (Nm × AV)) (c : Cl) (n : Nat) (a : Nm) : Option AV := match G.ba c a with
 | some f => (match G.b6 c a with
  | some _ => Option.none
  | Option.none => (match lk aN a with
   | some _ => Option.none
   | Option.none => some (.ba f (.inst c n))))
 | Option.none => (match G.b6 c a with
  | some v => (match lk aN a with
   | some _ => Option.none
   | Option.none => some v)
  | Option.none => lk aN a)
theorem Mz {G : bS} {aN : List (Nm × AV)} {c : Cl} {n : Nat} {a : Nm} {f : Fn} (h : G.ba c a = some f) (h2 : G.b6 c a = Option.none) (h3 : lk aN a = Option.none) : D9 G aN c n a = some (.ba f (.inst c n)) := by
 unfold D9; rw [h, h2, h3]
theorem Ep {G : bS} {aN : List (Nm × AV)} {c : Cl} {n : Nat} {a : Nm} {v : AV} (h : G.ba c a = Option.none) (h2 : G.b6 c a = some v) (h3 : lk aN a = Option.none) : D9 G aN c n a = some v := by
 unfold D9; rw [h, h2, h3]
theorem Ad {G : bS} {aN : List (Nm × AV)} {c : Cl} {n : Nat} {a : Nm} (h : G.ba c a = Option.none) (h2 : G.b6 c a = Option.none) : D9 G aN c n a = lk aN a := by
 unfold D9; rw [h, h2]
theorem Ir {G : bS} {aN : List (Nm × AV)} {c : Cl} {n : Nat} {a : Nm} {r : AV} {P : AV → Prop} (h : D9 G aN c n a = some r) (k1 : ∀ f, G.ba c a = some f → lk aN a = Option.none → P (.ba f (.inst c n)))
  (k2 : ∀ v, G.b6 c a = some v → lk aN a = Option.none → P v) (k3 : ∀ v, G.ba c a = Option.none → G.b6 c a = Option.none → lk aN a = some v → P v) : P r := by
 unfold D9 at h
 generalize e1 : G.ba c a = m at h
 generalize e2 : G.b6 c a = d at h
 generalize e3 : lk aN a = l at h
 cases m <;> cases d <;> cases l <;> cases h
 ·exact k3 _ e1 e2 e3
 ·exact k2 _ e2 e3
 ·exact k1 _ e1 e3
noncomputable def sd (G : bS) (H : List AO) (x : AV) (a : Nm) : Option AV := bd (o6 x) fun q => bd (hW H q.2) fun aN => D9 G aN q.1 q.2 a
noncomputable def iI : List AV → Option (List (List Nat))
 | [] => some []
 | x :: r => bd (gx x) fun s => (iI r).map (s :: ·)
noncomputable def qe : List AV → Option (List Int)
 | [] => some []
 | x :: r => bd (je x) fun i => (qe r).map (i :: ·)
noncomputable def Ea (H : List AO) (b : Bi) (as : List AV) : Option (AV × List Nat) := match b with
 | .len => bd (jb as) fun x => alt (gx x) (fun s => some (.int s.length, [])) (alt (zu H x) (fun vs => some (.int vs.length, [])) (bd (pJ x) fun vs => some (.int vs.length, [])))
 | .ord => bd (jb as) fun x => bd (gx x) fun s => bd (jb s) fun c => some (.int c, [])
 | .chr => bd (jb as) fun x => bd (je x) fun i => ia (decide (0 ≤ i) && decide (i < 55296)) (.str [i.toNat], [])
 | .sum => bd (jb as) fun x => bd (vY x) fun vs => (qe vs).map fun l => (.int l.sum, [])
 | .max => bd (xV as) fun p => i2 p.1 p.2 (fun a b => some (.int (max a b), [])) Option.none
 | .min => bd (xV as) fun p => i2 p.1 p.2 (fun a b => some (.int (min a b), [])) Option.none
 | .lx => bd (xV as) fun p => bd (xW p.1) fun _ => bd (lg p.2) fun _ => some (.bool true, [])
 | .range => bd (jb as) fun x => bd (je x) fun i => ia (decide (0 ≤ i)) (.pD i.toNat, [i.toNat])
 | .bool => Option.none
noncomputable def c7 (c : Nat) (s : List Nat) : Int := (List.range s.length).foldl (fun (l : Int) (i : Nat) => if s[i]? = some c then (i : Int) else l) (-1)
inductive SO where | lower | join | count | rfind | replace
noncomputable def SO.nm : SO → Nm | .lower => .g6 | .join => .f5 | .count => .mJ | .rfind => .mM | .replace => .iE
noncomputable def i6 (m : Nm) : Option SO := [SO.lower, SO.join, SO.count, SO.rfind, SO.replace].find? fun o => Nat.beq o.nm.1 m.1
theorem DG {m : Nm} {o : SO} (h : i6 m = some o) : m = o.nm := Fin.ext (Nat.eq_of_beq_eq_true (List.find?_some (p := fun o : SO => Nat.beq o.nm.1 m.1) h)).symm
@[simp] theorem t8 : i6 .g6 = some .lower := rfl
@[simp] theorem vK : i6 .f5 = some .join := rfl
@[simp] theorem HK : i6 .mJ = some .count := rfl
@[simp] theorem HL : i6 .mM = some .rfind := rfl
@[simp] theorem Eg : i6 .iE = some .replace := rfl
noncomputable def upTo (s : List Nat) (p : AV × AV × AV) (f : Nat → Nat → AV) : Option (AV × List Nat) := bd (gx p.1) fun t => bd (jb t) fun c => bd (je p.2.1) fun a => bd (je p.2.2) fun b => ia (decide (a = 0) && (decide (0 ≤ b) && decide (b ≤ s.length))) (f c b.toNat, [])
noncomputable def NA (H : List AO) (s : List Nat) (x : AV) : Option (AV × List Nat) := bd (zu H x) fun vs => cond s.isEmpty ((iI vs).map fun l => (.str l.flatten, [l.flatten.length])) Option.none
noncomputable def HJ (H : List AO) (o : SO) (s : List Nat) (as : List AV) : Option (AV × List Nat) := match o with
 | .lower => ia as.isEmpty (.str (a8 s), [(a8 s).length])
 | .join => bd (jb as) (NA H s)
 | .count => bd (Hc as) fun p => upTo s p fun c b => .int ((s.take b).count c)
 | .rfind => bd (Hc as) fun p => upTo s p fun c b => .int (c7 c (s.take b))
 | .replace => bd (xV as) fun p => bd (gx p.1) fun t => bd (gx p.2) fun _ => bd t.head? fun c => ia (!s.any (Nat.beq c)) (.str s, [s.length])
noncomputable def js (H : List AO) (m : Nm) (s : List Nat) (as : List AV) : Option (AV × List Nat) := bd (i6 m) fun o => HJ H o s as
inductive LO where | append | pop
noncomputable def LO.nm : LO → Nm | .append => .aA | .pop => .BP
noncomputable def kK (m : Nm) : Option LO := [LO.append, LO.pop].find? fun o => Nat.beq o.nm.1 m.1
theorem Cf {m : Nm} {o : LO} (h : kK m = some o) : m = o.nm := Fin.ext (Nat.eq_of_beq_eq_true (List.find?_some (p := fun o : LO => Nat.beq o.nm.1 m.1) h)).symm
@[simp] theorem fh : kK .aA = some .append := rfl
@[simp] theorem LU : kK .BP = some .pop := rfl
noncomputable def NJ (o : LO) (vs as : List AV) : Option (AV × List AV × List Nat) := match o with
 | .append => bd (jb as) fun x => some (.none, vs ++ [x], [vs.length + 1])
 | .pop => bd (jb as) fun x => bd (je x) fun i => ia (decide (i = 0) && !vs.isEmpty) (vs.headD .none, vs.tail, [])
noncomputable def FU (m : Nm) (vs as : List AV) : Option (AV × List AV × List Nat) := bd (kK m) fun o => NJ o vs as
noncomputable def lp (p : Fl × St) (k : St → Option (Fl × St)) : Option (Fl × St) := match p.1 with
 | .nx => k p.2
 | .bk => some (.nx, p.2)
 | .rt v => some (.rt v, p.2)
@[simp] theorem U8 {σ : St} {k : St → Option (Fl × St)} : lp (.nx, σ) k = k σ := rfl
@[simp] theorem U7 {σ : St} {k : St → Option (Fl × St)} : lp (.bk, σ) k = some (.nx, σ) := rfl
@[simp] theorem U9 {v : AV} {σ : St} {k : St → Option (Fl × St)} : lp (.rt v, σ) k = some (.rt v, σ) := rfl
noncomputable def fk : Nat → (St → Option (Bool × St)) → (St → Option (Fl × St)) → St → Option (Fl × St)
 | 0, _, _, _ => Option.none
 | n + 1, t, b, σ => bd (t σ) fun p => cond p.1 (bd (b p.2) fun q => lp q (fk n t b)) (some (.nx, p.2))
noncomputable def jO (asg : AV → St → Option St) (b : St → Option (Fl × St)) : List AV → St → Option (Fl × St)
 | [], σ => some (.nx, σ)
 | v :: vs, σ => bd (asg v σ) fun σ1 => bd (b σ1) fun q => lp q (jO asg b vs)
noncomputable def lV (x : AV) : Option (List AV) := match x with
 | .str s => some (s.map fun c => .str [c])
 | .tup vs => some vs
 | .lst vs => some vs
 | .pD n => some ((List.range n).map fun (i : Nat) => .int i)
 | .none => Option.none
 | .bool _ => Option.none
 | .int _ => Option.none
 | .cH _ => Option.none
 | .aQ _ => Option.none
 | .fn _ => Option.none
 | .cls _ => Option.none
 | .bi _ => Option.none
 | .ba .. => Option.none
 | .inst .. => Option.none
@[simp] theorem LP {s : List Nat} : lV (.str s) = some (s.map fun c => .str [c]) := rfl
@[simp] theorem LQ {vs : List AV} : lV (.tup vs) = some vs := rfl
@[simp] theorem LM {vs : List AV} : lV (.lst vs) = some vs := rfl
@[simp] theorem LN {n : Nat} : lV (.pD n) = some ((List.range n).map fun (i : Nat) => .int i) := rfl
noncomputable def v7 : List Nm → List AV → List (Nm × AV) → Option (List (Nm × AV))
 | [], vs, V => bd (RN vs) fun _ => some V
 | x :: xs, vs, V => match vs with
  | [] => Option.none
  | v :: vs => v7 xs vs (pt V x v)
noncomputable def gI (ts : List Nm) (tup : Bool) (v : AV) (σ : St) : Option St := cond tup (bd (pJ v) fun vs => bd (v7 ts vs σ.V) fun V => some { σ with V := V }) (bd (jb ts) fun x => some { σ with V := pt σ.V x v })
noncomputable def iw (asg : AV → St → Option St) (t : St → Option (Bool × St)) (b : St → Option (AV × St)) : List AV → St → Option (List AV × St)
 | [], σ => some ([], σ)
 | v :: vs, σ => bd (asg v σ) fun σ1 => bd (t σ1) fun p => cond p.1 (bd (b p.2) fun x => bd (iw asg t b vs x.2) fun y => some (x.1 :: y.1, y.2)) (iw asg t b vs p.2)
noncomputable def lG (o : Option (AV × List AO × List Nat)) (σ : St) (f : AV → Option AV) : Option (AV × St) := bd o fun q => bd (f q.1) fun v => some (v, { σ with H := q.2.1, O := q.2.2 ++ σ.O })
noncomputable def eE (G : bS) (f : AV) (as : List AV) (σ : St) : Option (AV × St) := match f with
 | .fn f => lG (G.call f as σ.H) σ some
 | .ba f s => lG (G.call f (s :: as) σ.H) σ some
 | .cls c => lG (G.call (G.init c) (.inst c σ.H.length :: as) (σ.H ++ [.dict []])) σ fun v => bd (jK v) fun _ => some (.inst c σ.H.length)
 | .bi b => bd (Ea σ.H b as) fun q => some (q.1, { σ with O := q.2 ++ σ.O })
 | .none => Option.none
 | .bool _ => Option.none
 | .int _ => Option.none
 | .str _ => Option.none
 | .tup _ => Option.none
 | .lst _ => Option.none
 | .cH _ => Option.none
 | .pD _ => Option.none
 | .aQ _ => Option.none
 | .inst .. => Option.none
section
variable {G : bS} {f : Fn} {s : AV} {c : Cl} {b : Bi} {as : List AV} {σ : St} {r : AV × List AO × List Nat} {g : AV → Option AV}
@[simp] theorem LV : lG (some r) σ g = bd (g r.1) fun v => some (v, { σ with H := r.2.1, O := r.2.2 ++ σ.O }) := rfl
@[simp] theorem M3 : eE G (.fn f) as σ = lG (G.call f as σ.H) σ some := rfl
@[simp] theorem IQ : eE G (.ba f s) as σ = lG (G.call f (s :: as) σ.H) σ some := rfl
@[simp] theorem LK : eE G (.cls c) as σ = lG (G.call (G.init c) (.inst c σ.H.length :: as) (σ.H ++ [.dict []])) σ fun v => bd (jK v) fun _ => some (.inst c σ.H.length) := rfl
@[simp] theorem M1 : eE G (.bi b) as σ = bd (Ea σ.H b as) fun q => some (q.1, { σ with O := q.2 ++ σ.O }) := rfl
end
noncomputable def l0 (G : bS) (aN : List (Nm × AV)) (c : Cl) (n : Nat) (m : Nm) : Option (Sum AV (AV × Nm)) := match G.b6 c m with
 | some _ => Option.none
 | Option.none => (match G.ba c m with
  | some f => (match lk aN m with | some _ => Option.none | Option.none => some (.inl (.ba f (.inst c n))))
  | Option.none => (match lk aN m with | some v => some (.inl v) | Option.none => Option.none))
theorem vm {G : bS} {aN : List (Nm × AV)} {c : Cl} {n : Nat} {a : Nm} {f : Fn} (h : G.ba c a = some f) (h2 : G.b6 c a = Option.none) (h3 : lk aN a = Option.none) : l0 G aN c n a = some (.inl (.ba f (.inst c n))) := by
 unfold l0; rw [h, h2, h3]
theorem Cy {G : bS} {aN : List (Nm × AV)} {c : Cl} {n : Nat} {a : Nm} {v : AV} (h : G.ba c a = Option.none) (h2 : G.b6 c a = Option.none) (h3 : lk aN a = some v) : l0 G aN c n a = some (.inl v) := by
 unfold l0; rw [h, h2, h3]
theorem Cw {G : bS} {aN : List (Nm × AV)} {c : Cl} {i : Nat} {m : Nm} {x : Sum AV (AV × Nm)} {P : Sum AV (AV × Nm) → Prop} (h : l0 G aN c i m = some x)
  (k : ∀ f, G.ba c m = some f → lk aN m = none → P (.inl (.ba f (.inst c i)))) (k' : ∀ v, G.ba c m = none → G.b6 c m = none → lk aN m = some v → P (.inl v)) : P x := by
 unfold l0 at h
 generalize e1 : G.b6 c m = a at h
 generalize e2 : G.ba c m = b at h
 generalize e3 : lk aN m = d at h
 cases a with
 | some _ => cases h
 | none =>
  cases b <;> cases d <;> cases h
  ·exact k' _ e2 e1 e3
  ·exact k _ e2 e3
noncomputable def gu (G : bS) (H : List AO) (v : AV) (m : Nm) : Option (Sum AV (AV × Nm)) := alt (o6 v) (fun q => bd (hW H q.2) fun aN => l0 G aN q.1 q.2 m)
 (alt (gx v) (fun s => bd (i6 m) fun _ => some (.inr (.str s, m))) (bd (dU v) fun n => bd (kK m) fun _ => bd (eJ H n) fun _ => some (.inr (.aQ n, m))))
noncomputable def Am (p : AV × Nm) (as : List AV) (σ : St) : Option (AV × St) := alt (gx p.1) (fun s => bd (js σ.H p.2 s as) fun q => some (q.1, { σ with O := q.2 ++ σ.O }))
 (bd (dU p.1) fun n => bd (eJ σ.H n) fun vs => bd (FU p.2 vs as) fun q => some (q.1, { σ with H := σ.H.set n (.list q.2.1), O := q.2.2 ++ σ.O }))
noncomputable def ip (G : bS) (f : Sum AV (AV × Nm)) (as : List AV) (σ : St) : Option (AV × St) := match f with
 | .inl f => eE G f as σ
 | .inr p => Am p as σ
@[simp] theorem LI {G : bS} {f : AV} {as : List AV} {σ : St} : ip G (.inl f) as σ = eE G f as σ := rfl
@[simp] theorem LJ {G : bS} {p : AV × Nm} {as : List AV} {σ : St} : ip G (.inr p) as σ = Am p as σ := rfl
noncomputable def isTup (l : List Nm) : Bool := (jb l).isNone
noncomputable def Jz : Option Kd → Bool | some .k8 => true | some .loc => false | some .cI => false | Option.none => false
noncomputable def g7 (ks : List (Nm × Kd)) (V : List (Nm × AV)) : List (Nm × AV) := V.filter fun p => Jz (lk ks p.1)
mutual
noncomputable def pureE : Ex → Bool
 | .c _ | .v _ | .g _ => true
 | .ix a b => pureE a && pureE b
 | .tup es => pureEs es
 | _ => false
noncomputable def pureEs : dZ → Bool
 | .nil => true
 | .cons e r => pureE e && pureEs r
end
noncomputable def u9 : dZ → Bool
 | .nil => true
 | .cons .. => false
noncomputable def BK (H : List AO) (p : Bool) (x : AV) : Option (List AV) := alt (dU x) (fun n => cond p (eJ H n) Option.none) (lV x)
noncomputable section
mutual
noncomputable def ev (G : bS) : Ex → St → Option (AV × St)
 | .c v, σ => some (v, σ)
 | .v x, σ => bd (lk σ.V x) fun v => some (v, σ)
 | .g x, σ => bd (G.glob x) fun v => some (v, σ)
 | .no, σ => some (.none, σ)
 | .bad, _ => Option.none
 | .at e a, σ => bd (ev G e σ) fun p => bd (sd G p.2.H p.1 a) fun r => some (r, p.2)
 | .ix e i, σ => bd (ev G e σ) fun p => bd (ev G i p.2) fun q => bd (lW q.2.H p.1 q.1) fun r => some (r, q.2)
 | .sl e lo hi, σ => bd (ev G e σ) fun p => bd (ev G lo p.2) fun q => bd (ev G hi q.2) fun u => bd (zw u.2.H p.1 q.1 u.1) fun r => some (r, u.2)
 | .bin o a b, σ => bd (ev G a σ) fun p => bd (ev G b p.2) fun q => bd (ng o p.1 q.1) fun r => some (r.1, { q.2 with O := r.2 ++ q.2.O })
 | .cmp a r, σ => bd (ev G a σ) fun p => bd (sq G p.1 r p.2) fun q => some (.bool q.1, q.2)
 | .and es, σ => o5 G es σ
 | .or es, σ => SG G es σ
 | .not e, σ => bd (ev G e σ) fun p => bd (bt p.2.H p.1) fun b => some (.bool (!b), p.2)
 | .neg e, σ => bd (ev G e σ) fun p => bd (je p.1) fun i => some (.int (-i), p.2)
 | .ite t a b, σ => bd (cW G t σ) fun p => cond p.1 (ev G a p.2) (ev G b p.2)
 | .tup es, σ => bd (pU G es σ) fun p => some (.tup p.1, { p.2 with O := p.1.length :: p.2.O })
 | .lst es f, σ => bd (pU G es σ) fun p => cond f (some (.lst p.1, { p.2 with O := p.1.length :: p.2.O })) (some (.aQ p.2.H.length, { p.2 with H := p.2.H ++ [.list p.1], O := p.1.length :: p.2.O }))
 | .cH ks f, σ => bd (yj G ks σ) fun p => cond f (some (.cH p.1, { p.2 with O := p.1.length :: p.2.O })) (some (.aQ p.2.H.length, { p.2 with H := p.2.H ++ [.dict p.1], O := p.1.length :: p.2.O }))
 | .call f as, σ => bd (ev G f σ) fun p => bd (pU G as p.2) fun q => eE G p.1 q.1 q.2
 | .aw o m as, σ => bd (ev G o σ) fun p => bd (gu G p.2.H p.1 m) fun f => bd (pU G as p.2) fun q => ip G f q.1 q.2
 | .comp ks elt t it cs, σ => bd (ev G it σ) fun p => bd (BK p.2.H (pureE elt && u9 cs) p.1) fun vs => bd (iw (gI t (isTup t)) (j7 G cs) (ev G elt) vs { p.2 with V := g7 ks p.2.V }) fun q => some (.lst q.1, { q.2 with V := p.2.V, O := q.1.length :: q.2.O })
noncomputable def pU (G : bS) : dZ → St → Option (List AV × St)
 | .nil, σ => some ([], σ)
 | .cons e r, σ => bd (ev G e σ) fun p => bd (pU G r p.2) fun q => some (p.1 :: q.1, q.2)
noncomputable def yj (G : bS) : rX → St → Option (List (Nm × AV) × St)
 | .nil, σ => some ([], σ)
 | .cons k e r, σ => bd (ev G e σ) fun p => bd (yj G r p.2) fun q => some ((k, p.1) :: q.1, q.2)
noncomputable def sq (G : bS) : AV → jJ → St → Option (Bool × St)
 | _, .nil, _ => Option.none
 | x, .cons o e r, σ => bd (ev G e σ) fun p => bd (jT p.2.H o x p.1) fun b => match r with
  | .nil => some (b, p.2)
  | .cons .. => cond b (sq G p.1 r p.2) (some (false, p.2))
noncomputable def o5 (G : bS) : dZ → St → Option (AV × St)
 | .nil, _ => Option.none
 | .cons e r, σ => bd (ev G e σ) fun p => match r with
  | .nil => some p
  | .cons .. => bd (bt p.2.H p.1) fun b => cond b (o5 G r p.2) (some p)
noncomputable def SG (G : bS) : dZ → St → Option (AV × St)
 | .nil, _ => Option.none
 | .cons e r, σ => bd (ev G e σ) fun p => match r with
  | .nil => some p
  | .cons .. => bd (bt p.2.H p.1) fun b => cond b (some p) (SG G r p.2)
noncomputable def cW (G : bS) : Ex → St → Option (Bool × St)
 | .not e, σ => bd (cW G e σ) fun p => some (!p.1, p.2)
 | .and es, σ => uq G es σ
 | .or es, σ => KD G es σ
 | .ite t a b, σ => bd (cW G t σ) fun p => cond p.1 (cW G a p.2) (cW G b p.2)
 | .cmp a r, σ => bd (ev G a σ) fun p => sq G p.1 r p.2
 | .c v, σ => bd (bt σ.H v) fun b => some (b, σ)
 | .v x, σ => bd (lk σ.V x) fun v => bd (bt σ.H v) fun b => some (b, σ)
 | .g x, σ => bd (G.glob x) fun v => bd (bt σ.H v) fun b => some (b, σ)
 | .at e a, σ => bd (ev G e σ) fun p => bd (sd G p.2.H p.1 a) fun r => bd (bt p.2.H r) fun b => some (b, p.2)
 | .ix e i, σ => bd (ev G e σ) fun p => bd (ev G i p.2) fun q => bd (lW q.2.H p.1 q.1) fun r => bd (bt q.2.H r) fun b => some (b, q.2)
 | .call f as, σ => bd (ev G f σ) fun p => bd (pU G as p.2) fun q => bd (eE G p.1 q.1 q.2) fun r => bd (bt r.2.H r.1) fun b => some (b, r.2)
 | .aw o m as, σ => bd (ev G o σ) fun p => bd (gu G p.2.H p.1 m) fun f => bd (pU G as p.2) fun q => bd (ip G f q.1 q.2) fun r => bd (bt r.2.H r.1) fun b => some (b, r.2)
 | _, _ => Option.none
noncomputable def uq (G : bS) : dZ → St → Option (Bool × St)
 | .nil, σ => some (true, σ)
 | .cons e r, σ => bd (cW G e σ) fun p => cond p.1 (uq G r p.2) (some (false, p.2))
noncomputable def KD (G : bS) : dZ → St → Option (Bool × St)
 | .nil, σ => some (false, σ)
 | .cons e r, σ => bd (cW G e σ) fun p => cond p.1 (some (true, p.2)) (KD G r p.2)
noncomputable def j7 (G : bS) : dZ → St → Option (Bool × St)
 | .nil, σ => some (true, σ)
 | .cons e r, σ => bd (cW G e σ) fun p => cond p.1 (j7 G r p.2) (some (false, p.2))
end
noncomputable def tW (x k r : AV) (σ : St) : Option St := bd (dU x) fun n => alt (gx k) (fun s => bd (gq σ.H n) fun aN => bd (Rg aN s r) fun kvs' => some { σ with H := σ.H.set n (.dict kvs') })
 (bd (je k) fun j => bd (eJ σ.H n) fun vs => bd (TF j vs.length) fun p => some { σ with H := σ.H.set n (.list (vs.set p r)) })
noncomputable def setAt (G : bS) (x : AV) (a : Nm) (r : AV) (σ : St) : Option St := bd (o6 x) fun q => bd (gq σ.H q.2) fun aN => cond ((G.ba q.1 a).isNone && (G.b6 q.1 a).isNone) (some { σ with H := σ.H.set q.2 (.dict (pt aN a r)), O := (aN.length + 1) :: σ.O }) Option.none
noncomputable def iO (G : bS) (t : Tg) (v : AV) (σ : St) : Option St := match t with
 | .v x => some { σ with V := pt σ.V x v }
 | .at e a => bd (ev G e σ) fun p => setAt G p.1 a v p.2
 | .ix e i => bd (ev G e σ) fun p => bd (ev G i p.2) fun q => tW p.1 q.1 v q.2
 | .bad => Option.none
noncomputable def i4 (G : bS) : List Tg → List AV → St → Option St
 | [], vs, σ => bd (RN vs) fun _ => some σ
 | t :: ts, vs, σ => match vs with
  | [] => Option.none
  | v :: vs => bd (iO G t v σ) (i4 G ts vs)
noncomputable def BG : AV → Bool | .none => true | .str _ => true | _ => false
@[simp] theorem LL : BG .none = true := rfl
@[simp] theorem Nw {s : List Nat} : BG (.str s) = true := rfl
noncomputable def MB (G : bS) (t : Tg) (o : oX) (σ : St) (e : St → Option (AV × St)) : Option St := match t with
 | .v x => bd (lk σ.V x) fun a => bd (e σ) fun p => bd (ng o a p.1) fun r => some { p.2 with V := pt p.2.V x r.1, O := r.2 ++ p.2.O }
 | .at e1 a => bd (ev G e1 σ) fun p => bd (sd G p.2.H p.1 a) fun x => bd (e p.2) fun q => bd (ng o x q.1) fun r => setAt G p.1 a r.1 { q.2 with O := r.2 ++ q.2.O }
 | .ix e1 i => bd (ev G e1 σ) fun p => bd (ev G i p.2) fun k => bd (lW k.2.H p.1 k.1) fun x => bd (e k.2) fun q => bd (ng o x q.1) fun r => tW p.1 k.1 r.1 { q.2 with O := r.2 ++ q.2.O }
 | .bad => Option.none
noncomputable def CR (p : Fl × St) (k : St → Option (Fl × St)) : Option (Fl × St) := match p.1 with
 | .nx => k p.2
 | .bk => some p
 | .rt _ => some p
@[simp] theorem TZ {σ : St} {k : St → Option (Fl × St)} : CR (.nx, σ) k = k σ := rfl
@[simp] theorem TY {σ : St} {k : St → Option (Fl × St)} : CR (.bk, σ) k = some (.bk, σ) := rfl
@[simp] theorem T2 {v : AV} {σ : St} {k : St → Option (Fl × St)} : CR (.rt v, σ) k = some (.rt v, σ) := rfl
mutual
noncomputable def ex (G : bS) : Sx → St → Option (Fl × St)
 | .exp e, σ => bd (ev G e σ) fun p => cond (BG p.1) (some (.nx, p.2)) Option.none
 | .asg t e, σ => bd (ev G e σ) fun p => bd (iO G t p.1 p.2) fun σ2 => some (.nx, σ2)
 | .qx x e, σ => bd (ev G e σ) fun p => some (.nx, { p.2 with V := pt p.2.V x p.1 })
 | .iO ts e, σ => bd (ev G e σ) fun p => bd (pJ p.1) fun vs => bd (i4 G ts vs p.2) fun σ2 => some (.nx, σ2)
 | .aug t o e, σ => bd (MB G t o σ (ev G e)) fun σ2 => some (.nx, σ2)
 | .ite t a b, σ => bd (cW G t σ) fun p => cond p.1 (b0 G a p.2) (b0 G b p.2)
 | .mW t b, σ => fk G.fuel (cW G t) (b0 G b) σ
 | .fr ts tup e b, σ => bd (ev G e σ) fun p => bd (lV p.1) fun vs => jO (gI ts tup) (b0 G b) vs p.2
 | .ret e, σ => bd (ev G e σ) fun p => some (.rt p.1, p.2)
 | .brk, σ => some (.bk, σ)
 | .pass, σ => some (.nx, σ)
 | .xZ e, σ => bd (cW G e σ) fun p => cond p.1 (some (.nx, p.2)) Option.none
 | .bad, _ => Option.none
noncomputable def b0 (G : bS) : cT → St → Option (Fl × St)
 | .nil, σ => some (.nx, σ)
 | .cons s r, σ => bd (ex G s σ) fun p => CR p (b0 G r)
end
end
noncomputable def dD : Nat := 1000000
theorem cX {n : Nat} (h : n ≤ dD) : n ≤ sizeLine := Nat.le_trans h (by rw [sizeLine_eq]; decide)
theorem iL {n : Nat} (h : n ≤ dD) : (n : Int) < 2 ^ 63 := by unfold dD at h; omega
structure aP where
 prog : Program
 w : World
 K : Frag
 fa : Fn → Addr
 ca : Cl → Addr
noncomputable def aP.hB (S : aP) : Addr → Option Obj := fun a => S.K.lookup a
noncomputable def Hg : Bi → Value
 | .len => .builtin "len" | .ord => .builtin "ord" | .chr => .builtin "chr" | .sum => .builtin "sum" | .max => .builtin "max" | .min => .builtin "min"
 | .lx => .builtin "isinstance" | .range => .type "range" | .bool => .type "bool"
structure Wd where
 P : Addr → Option Obj
 ρ : List Addr
noncomputable def jf (S : aP) (o : Obj) (ps : List (Str × Value)) : Prop :=
 o.ExactDict ∧ ∃ es ep, o.data = .dict es ep ∧ KeysOf (strKind S.prog S.w) es ∧ Pairs (strKind S.prog S.w) es.toList ps ∧ (ps.map (·.1)).Nodup
theorem jf.at {S : aP} {o : Obj} {ps : List (Str × Value)} {h : Heap} {a : Addr} (d : jf S o ps) (e : h.get? a = some o) : h.DictOf (strKind S.prog S.w) a ps := by
 obtain ⟨x, es, ep, y, r⟩ := d
 exact ⟨o, es, ep, e, x, y, r⟩
theorem jf.of {P : Prop} {S : aP} {ps : List (Str × Value)} {h : Heap} {a : Addr} (d : h.DictOf (strKind S.prog S.w) a ps) (k : ∀ o, h.get? a = some o → jf S o ps → P) : P := by
 obtain ⟨o, es, ep, e, x, y, r⟩ := d
 exact k o e ⟨x, es, ep, y, r⟩
theorem jf.mV {S : aP} {o : Obj} {ps : List (Str × Value)} (d : jf S o ps) : o.isFreed = false := by
 obtain ⟨_, _, _, y, _⟩ := d
 exact Obj.isFreed_of_dict y
mutual
noncomputable def VR (S : aP) (W : Wd) : AV → Value → Prop
 | .none, v => v = .none
 | .bool b, v => v = .bool b
 | .int i, v => ∃ t, v = .int i t
 | .str s, v => ∃ t, v = .str ⟨s.toArray⟩ t ∧ s.length ≤ dD
 | .tup vs, v => ∃ a items n d sl, v = .ref a ∧ W.P a = some ⟨.type "tuple", d, .seq items n, sl⟩ ∧ vs.length ≤ dD ∧ bP S W vs items.toList
 | .lst vs, v => ∃ a items n d sl, v = .ref a ∧ W.P a = some ⟨.type "list", d, .seq items n, sl⟩ ∧ vs.length ≤ dD ∧ bP S W vs items.toList
 | .cH aN, v => ∃ a o ps, v = .ref a ∧ W.P a = some o ∧ jf S o ps ∧ (a == sysModules) = false ∧ aN.length ≤ dD ∧ eN S W aN ps
 | .pD n, v => ∃ a t u w, v = .ref a ∧ W.P a = some { cls := .type "range", data := .fields #[.int 0 t, .int (n : Int) u, .int 1 w] } ∧ n ≤ dD
 | .aQ i, v => ∃ a, v = .ref a ∧ W.ρ[i]? = some a
 | .fn f, v => v = .ref (S.fa f)
 | .cls c, v => v = .ref (S.ca c)
 | .bi b, v => v = Hg b
 | .ba f s, v => ∃ a w, v = .ref a ∧ W.P a = some (methodObj (.ref (S.fa f)) w) ∧ VR S W s w
 | .inst c i, v => ∃ a d, v = .ref a ∧ W.P a = some (instObj (S.ca c) d) ∧ W.ρ[i]? = some d
noncomputable def bP (S : aP) (W : Wd) : List AV → List Value → Prop
 | [], vs => vs = []
 | a :: as, vs => ∃ v us, vs = v :: us ∧ VR S W a v ∧ bP S W as us
noncomputable def eN (S : aP) (W : Wd) : List (Nm × AV) → List (Str × Value) → Prop
 | [], vs => vs = []
 | (k, a) :: as, vs => ∃ v us, vs = (bz k, v) :: us ∧ VR S W a v ∧ eN S W as us
end
theorem aX {a b : Bool} (h : (a && b) = true) : a = true ∧ b = true := Bool.and_eq_true_iff.mp h
theorem eO {a b c : Bool} (h : (a && b && c) = true) : a = true ∧ b = true ∧ c = true := ⟨(aX (aX h).1).1, (aX (aX h).1).2, (aX h).2⟩
theorem ik {a b c d : Bool} (h : (a && b && c && d) = true) : a = true ∧ b = true ∧ c = true ∧ d = true := ⟨(eO (aX h).1).1, (eO (aX h).1).2.1, (eO (aX h).1).2.2, (aX h).2⟩
theorem r0 {a b c d e f : Bool} (h : (a && b && c && d && e && f) = true) : a = true ∧ b = true ∧ c = true ∧ d = true ∧ e = true ∧ f = true :=
 have x := eO h
 have y := ik x.1
 ⟨y.1, y.2.1, y.2.2.1, y.2.2.2, x.2.1, x.2.2⟩
section
variable {S : aP} {W W' : Wd} {v : Value}
theorem VR.none : VR S W .none .none := rfl
theorem VR.bool (b : Bool) : VR S W (.bool b) (.bool b) := rfl
theorem VR.int (i : Int) (t : Tok) : VR S W (.int i) (.int i t) := ⟨t, rfl⟩
theorem VR.str (s : List Nat) (t : Tok) (z : s.length ≤ dD) : VR S W (.str s) (.str ⟨s.toArray⟩ t) := ⟨t, rfl, z⟩
theorem VR.tup {a : Addr} {vs : List AV} {items : Array Value} {n : Nat} {d : Option Addr} {sl : Array (Option Value)} (e : W.P a = some ⟨.type "tuple", d, .seq items n, sl⟩) (z : vs.length ≤ dD) (r : bP S W vs items.toList) : VR S W (.tup vs) (.ref a) := ⟨a, items, n, d, sl, rfl, e, z, r⟩
theorem VR.lst {a : Addr} {vs : List AV} {items : Array Value} {n : Nat} {d : Option Addr} {sl : Array (Option Value)} (e : W.P a = some ⟨.type "list", d, .seq items n, sl⟩) (z : vs.length ≤ dD) (r : bP S W vs items.toList) : VR S W (.lst vs) (.ref a) := ⟨a, items, n, d, sl, rfl, e, z, r⟩
theorem VR.cH {a : Addr} {o : Obj} {aN : List (Nm × AV)} {ps : List (Str × Value)} (e : W.P a = some o) (d : jf S o ps) (n : (a == sysModules) = false) (z : aN.length ≤ dD) (r : eN S W aN ps) : VR S W (.cH aN) (.ref a) := ⟨a, o, ps, rfl, e, d, n, z, r⟩
theorem VR.pD {n : Nat} {a : Addr} {t u w : Tok} (e : W.P a = some { cls := .type "range", data := .fields #[.int 0 t, .int (n : Int) u, .int 1 w] }) (z : n ≤ dD) : VR S W (.pD n) (.ref a) := ⟨a, t, u, w, rfl, e, z⟩
theorem VR.aQ {i : Nat} {a : Addr} (e : W.ρ[i]? = some a) : VR S W (.aQ i) (.ref a) := ⟨a, rfl, e⟩
theorem VR.fn (f : Fn) : VR S W (.fn f) (.ref (S.fa f)) := rfl
theorem VR.cls (c : Cl) : VR S W (.cls c) (.ref (S.ca c)) := rfl
theorem VR.bi (b : Bi) : VR S W (.bi b) (Hg b) := rfl
theorem VR.ba {a : Addr} {f : Fn} {s : AV} {w : Value} (e : W.P a = some (methodObj (.ref (S.fa f)) w)) (r : VR S W s w) : VR S W (.ba f s) (.ref a) := ⟨a, w, rfl, e, r⟩
theorem VR.inst {a : Addr} {c : Cl} {i : Nat} {d : Addr} (e : W.P a = some (instObj (S.ca c) d)) (r : W.ρ[i]? = some d) : VR S W (.inst c i) (.ref a) := ⟨a, d, rfl, e, r⟩
theorem bP.nil : bP S W [] [] := rfl
theorem bP.cons {a : AV} {as : List AV} {vs : List Value} (x : VR S W a v) (r : bP S W as vs) : bP S W (a :: as) (v :: vs) := ⟨v, vs, rfl, x, r⟩
theorem eN.nil : eN S W [] [] := rfl
theorem eN.cons {k : Nm} {a : AV} {aN : List (Nm × AV)} {es : List (Str × Value)} (x : VR S W a v) (r : eN S W aN es) : eN S W ((k, a) :: aN) ((bz k, v) :: es) := ⟨v, es, rfl, x, r⟩
end
section
variable {S : aP} {W : Wd} {v : Value} {P : Value → Prop}
@[elab_as_elim] theorem VR.kM (h : VR S W .none v) (k : P .none) : P v := (h : v = .none) ▸ k
@[elab_as_elim] theorem VR.pL {b : Bool} (h : VR S W (.bool b) v) (k : P (.bool b)) : P v := (h : v = .bool b) ▸ k
@[elab_as_elim] theorem VR.MJ {b : Bi} (h : VR S W (.bi b) v) (k : P (Hg b)) : P v := (h : v = Hg b) ▸ k
@[elab_as_elim] theorem VR.Sr {b : Fn} (h : VR S W (.fn b) v) (k : P (.ref (S.fa b))) : P v := (h : v = .ref (S.fa b)) ▸ k
@[elab_as_elim] theorem VR.EK {b : Cl} (h : VR S W (.cls b) v) (k : P (.ref (S.ca b))) : P v := (h : v = .ref (S.ca b)) ▸ k
@[elab_as_elim] theorem VR.jW {i : Int} (h : VR S W (.int i) v) (k : ∀ t, P (.int i t)) : P v := Exists.elim h fun t e => e ▸ k t
@[elab_as_elim] theorem VR.gh {s : List Nat} (h : VR S W (.str s) v) (k : ∀ t, s.length ≤ dD → P (.str ⟨s.toArray⟩ t)) : P v := Exists.elim h fun t e => e.1 ▸ k t e.2
@[elab_as_elim] theorem VR.rS {vs : List AV} (h : VR S W (.tup vs) v) (k : ∀ a items n d sl, W.P a = some ⟨.type "tuple", d, .seq items n, sl⟩ → vs.length ≤ dD → bP S W vs items.toList → P (.ref a)) : P v := by
 obtain ⟨a, items, n, d, sl, e, w, z, r⟩ := h
 exact e ▸ k a items n d sl w z r
@[elab_as_elim] theorem VR.vi {vs : List AV} (h : VR S W (.lst vs) v) (k : ∀ a items n d sl, W.P a = some ⟨.type "list", d, .seq items n, sl⟩ → vs.length ≤ dD → bP S W vs items.toList → P (.ref a)) : P v := by
 obtain ⟨a, items, n, d, sl, e, w, z, r⟩ := h
 exact e ▸ k a items n d sl w z r
@[elab_as_elim] theorem VR.ya {aN : List (Nm × AV)} (h : VR S W (.cH aN) v) (k : ∀ a o ps, W.P a = some o → jf S o ps → (a == sysModules) = false → aN.length ≤ dD → eN S W aN ps → P (.ref a)) : P v := by
 obtain ⟨a, o, ps, e, w, d, n, z, r⟩ := h
 exact e ▸ k a o ps w d n z r
@[elab_as_elim] theorem VR.Gx {n : Nat} (h : VR S W (.pD n) v) (k : ∀ a t u w, W.P a = some { cls := .type "range", data := .fields #[.int 0 t, .int (n : Int) u, .int 1 w] } → n ≤ dD → P (.ref a)) : P v := by
 obtain ⟨a, t, u, w, e, x, z⟩ := h
 exact e ▸ k a t u w x z
@[elab_as_elim] theorem VR.y5 {i : Nat} (h : VR S W (.aQ i) v) (k : ∀ a, W.ρ[i]? = some a → P (.ref a)) : P v := Exists.elim h fun a e => e.1 ▸ k a e.2
@[elab_as_elim] theorem VR.oz {f : Fn} {s : AV} (h : VR S W (.ba f s) v) (k : ∀ a w, W.P a = some (methodObj (.ref (S.fa f)) w) → VR S W s w → P (.ref a)) : P v := by
 obtain ⟨a, w, e, x, z⟩ := h
 exact e ▸ k a w x z
@[elab_as_elim] theorem VR.sY {c : Cl} {i : Nat} (h : VR S W (.inst c i) v) (k : ∀ a d, W.P a = some (instObj (S.ca c) d) → W.ρ[i]? = some d → P (.ref a)) : P v := by
 obtain ⟨a, w, e, x, z⟩ := h
 exact e ▸ k a w x z
end
section
variable {S : aP} {W : Wd}
@[elab_as_elim] theorem bP.jc {P : List Value → Prop} {l : List Value} (h : bP S W [] l) (k : P []) : P l := (h : l = []) ▸ k
@[elab_as_elim] theorem bP.b7 {P : List Value → Prop} {a : AV} {as : List AV} {l : List Value} (h : bP S W (a :: as) l) (k : ∀ v vs, VR S W a v → bP S W as vs → P (v :: vs)) : P l := by
 obtain ⟨v, us, e, x, r⟩ := h
 exact e ▸ k v us x r
@[elab_as_elim] theorem eN.jc {P : List (Str × Value) → Prop} {l : List (Str × Value)} (h : eN S W [] l) (k : P []) : P l := (h : l = []) ▸ k
@[elab_as_elim] theorem eN.b7 {P : List (Str × Value) → Prop} {p : Nm × AV} {as : List (Nm × AV)} {l : List (Str × Value)} (h : eN S W (p :: as) l) (k : ∀ v vs, VR S W p.2 v → eN S W as vs → P ((bz p.1, v) :: vs)) : P l := by
 obtain ⟨v, us, e, x, r⟩ := h
 exact e ▸ k v us x r
end
structure Wd.Le (W W' : Wd) : Prop where
 P : ∀ a o, W.P a = some o → W'.P a = some o
 ρ : ∃ r, W'.ρ = W.ρ ++ r
theorem Wd.Le.refl (W : Wd) : W.Le W := ⟨fun _ _ h => h, [], by simp⟩
theorem Wd.Le.trans {W₁ W₂ W₃ : Wd} (x : W₁.Le W₂) (y : W₂.Le W₃) : W₁.Le W₃ :=
 ⟨fun a o h => y.P a o (x.P a o h), let ⟨r, e⟩ := x.ρ; let ⟨q, e'⟩ := y.ρ; ⟨r ++ q, by rw [e', e, List.append_assoc]⟩⟩
theorem Wd.Le.get {W W' : Wd} (x : W.Le W') {i : Nat} {a : Addr} (h : W.ρ[i]? = some a) : W'.ρ[i]? = some a := by
 obtain ⟨r, e⟩ := x.ρ
 rw [e, List.getElem?_append_left (List.getElem?_eq_some_iff.mp h).1]; exact h
mutual
noncomputable def D7 (Q : Nat → Prop) : AV → Prop
 | .tup vs => xU Q vs
 | .lst vs => xU Q vs
 | .cH aN => zU Q aN
 | .aQ i => Q i
 | .ba _ s => D7 Q s
 | .inst _ i => Q i
 | .none => True
 | .bool _ => True
 | .int _ => True
 | .str _ => True
 | .pD _ => True
 | .fn _ => True
 | .cls _ => True
 | .bi _ => True
noncomputable def xU (Q : Nat → Prop) : List AV → Prop
 | [] => True
 | a :: as => D7 Q a ∧ xU Q as
noncomputable def zU (Q : Nat → Prop) : List (Nm × AV) → Prop
 | [] => True
 | (_, a) :: as => D7 Q a ∧ zU Q as
end
section
variable {S : aP} {W W' : Wd} {Q : Nat → Prop}
theorem VR.map (hP : ∀ a o, W.P a = some o → W'.P a = some o) (hρ : ∀ i a, Q i → W.ρ[i]? = some a → W'.ρ[i]? = some a) (a : AV) : ∀ v, VR S W a v → D7 Q a → VR S W' a v :=
 AV.rec (motive_1 := fun a => ∀ v, VR S W a v → D7 Q a → VR S W' a v) (motive_2 := fun as => ∀ vs, bP S W as vs → xU Q as → bP S W' as vs) (motive_3 := fun as => ∀ vs, eN S W as vs → zU Q as → eN S W' as vs) (motive_4 := fun p => ∀ v, VR S W p.2 v → D7 Q p.2 → VR S W' p.2 v)
  (fun _ h _ => h) (fun _ _ h _ => h) (fun _ _ h _ => h) (fun _ _ h _ => h)
  (fun _ ih _ h c => h.rS fun _ _ _ _ _ e z r => .tup (hP _ _ e) z (ih _ r c)) (fun _ ih _ h c => h.vi fun _ _ _ _ _ e z r => .lst (hP _ _ e) z (ih _ r c)) (fun _ ih _ h c => h.ya fun _ _ _ e d n z r => .cH (hP _ _ e) d n z (ih _ r c))
  (fun _ _ h _ => h.Gx fun _ _ _ _ e z => .pD (hP _ _ e) z) (fun _ _ h c => h.y5 fun _ e => .aQ (hρ _ _ c e)) (fun _ _ h _ => h) (fun _ _ h _ => h) (fun _ _ h _ => h)
  (fun _ _ ih _ h c => h.oz fun _ _ e r => .ba (hP _ _ e) (ih _ r c)) (fun _ _ _ h c => h.sY fun _ _ e r => .inst (hP _ _ e) (hρ _ _ c r))
  (fun _ h _ => h) (fun _ _ ih1 ih2 _ h c => h.b7 fun _ _ x r => .cons (ih1 _ x c.1) (ih2 _ r c.2)) (fun _ h _ => h) (fun _ _ ih1 ih2 _ h c => h.b7 fun _ _ x r => .cons (ih1 _ x c.1) (ih2 _ r c.2)) (fun _ _ ih => ih) a
theorem VR.NG (hQ : ∀ i a, W.ρ[i]? = some a → Q i) (a : AV) : ∀ v, VR S W a v → D7 Q a :=
 AV.rec (motive_1 := fun a => ∀ v, VR S W a v → D7 Q a) (motive_2 := fun as => ∀ vs, bP S W as vs → xU Q as) (motive_3 := fun as => ∀ vs, eN S W as vs → zU Q as) (motive_4 := fun p => ∀ v, VR S W p.2 v → D7 Q p.2)
  (fun _ _ => trivial) (fun _ _ _ => trivial) (fun _ _ _ => trivial) (fun _ _ _ => trivial) (fun _ ih _ h => h.rS fun _ _ _ _ _ _ _ r => ih _ r) (fun _ ih _ h => h.vi fun _ _ _ _ _ _ _ r => ih _ r) (fun _ ih _ h => h.ya fun _ _ _ _ _ _ _ r => ih _ r)
  (fun _ _ _ => trivial) (fun _ _ h => h.y5 fun _ e => hQ _ _ e) (fun _ _ _ => trivial) (fun _ _ _ => trivial) (fun _ _ _ => trivial) (fun _ _ ih _ h => h.oz fun _ _ _ r => ih _ r) (fun _ _ _ h => h.sY fun _ _ _ r => hQ _ _ r)
  (fun _ _ => trivial) (fun _ _ ih1 ih2 _ h => h.b7 fun _ _ x r => ⟨ih1 _ x, ih2 _ r⟩) (fun _ _ => trivial) (fun _ _ ih1 ih2 _ h => h.b7 fun _ _ x r => ⟨ih1 _ x, ih2 _ r⟩) (fun _ _ ih => ih) a
theorem bP.map {as : List AV} {vs : List Value} (h : bP S W as vs) (f : ∀ a v, VR S W a v → VR S W' a v) : bP S W' as vs := by
 induction as generalizing vs with
 | nil => exact h
 | cons a r ih => exact h.b7 fun v vs x q => .cons (f _ _ x) (ih q)
theorem eN.map {as : List (Nm × AV)} {vs : List (Str × Value)} (h : eN S W as vs) (f : ∀ a v, VR S W a v → VR S W' a v) : eN S W' as vs := by
 induction as generalizing vs with
 | nil => exact h
 | cons a r ih => exact h.b7 fun v vs x q => .cons (f _ _ x) (ih q)
theorem VR.mono (L : W.Le W') {a : AV} {v : Value} (h : VR S W a v) : VR S W' a v := VR.map (Q := fun i => ∃ a, W.ρ[i]? = some a) L.P (fun _ _ _ e => L.get e) a v h (VR.NG (fun _ _ e => ⟨_, e⟩) a v h)
theorem bP.mono (L : W.Le W') {a : List AV} {v : List Value} (h : bP S W a v) : bP S W' a v := h.map fun _ _ x => x.mono L
theorem eN.mono (L : W.Le W') {a : List (Nm × AV)} {v : List (Str × Value)} (h : eN S W a v) : eN S W' a v := h.map fun _ _ x => x.mono L
theorem bP.length {as : List AV} {vs : List Value} (h : bP S W as vs) : as.length = vs.length := by
 induction as generalizing vs with
 | nil => exact h.jc rfl
 | cons a r ih => exact h.b7 fun _ _ _ q => congrArg (· + 1) (ih q)
theorem bP.size {as : List AV} {items : Array Value} (h : bP S W as items.toList) : items.size = as.length := h.length.symm
theorem eN.length {as : List (Nm × AV)} {vs : List (Str × Value)} (h : eN S W as vs) : as.length = vs.length := by
 induction as generalizing vs with
 | nil => exact h.jc rfl
 | cons a r ih => exact h.b7 fun _ _ _ q => congrArg (· + 1) (ih q)
theorem bP.get {as : List AV} {vs : List Value} (h : bP S W as vs) {i : Nat} (hi : i < as.length) : ∃ v, vs[i]? = some v ∧ VR S W (as.getD i .none) v := by
 induction as generalizing vs i with
 | nil => exact absurd hi (Nat.not_lt_zero _)
 | cons a r ih =>
  refine h.b7 fun v us x q => ?_
  cases i with
  | zero => exact ⟨v, rfl, x⟩
  | succ i => exact ih q (Nat.lt_of_succ_lt_succ hi)
theorem bP.append {as bs : List AV} {vs us : List Value} (h : bP S W as vs) (g : bP S W bs us) : bP S W (as ++ bs) (vs ++ us) := by
 induction as generalizing vs with
 | nil => exact h.jc g
 | cons a r ih => exact h.b7 fun v us x q => .cons x (ih q)
theorem bP.set {as : List AV} {vs : List Value} (h : bP S W as vs) {i : Nat} {a : AV} {v : Value} (g : VR S W a v) : bP S W (as.set i a) (vs.set i v) := by
 induction as generalizing vs i with
 | nil => exact h.jc .nil
 | cons b r ih =>
  refine h.b7 fun u us x q => ?_
  cases i with
  | zero => exact .cons g q
  | succ i => exact .cons x (ih q)
theorem bP.drop {as : List AV} {vs : List Value} (h : bP S W as vs) (i : Nat) : bP S W (as.drop i) (vs.drop i) := by
 induction as generalizing vs i with
 | nil => exact h.jc (by cases i <;> exact .nil)
 | cons b r ih =>
  cases i with
  | zero => exact h
  | succ i => exact h.b7 fun _ _ _ q => ih q i
theorem bP.take {as : List AV} {vs : List Value} (h : bP S W as vs) (i : Nat) : bP S W (as.take i) (vs.take i) := by
 induction as generalizing vs i with
 | nil => exact h.jc (by cases i <;> exact .nil)
 | cons b r ih =>
  cases i with
  | zero => exact .nil
  | succ i => exact h.b7 fun _ _ x q => .cons x (ih q i)
@[elab_as_elim] theorem bP.one {P : List Value → Prop} {a : AV} {l : List Value} (h : bP S W [a] l) (k : ∀ v, VR S W a v → P [v]) : P l := h.b7 fun v vs x r => r.jc (k v x)
@[elab_as_elim] theorem bP.two {P : List Value → Prop} {a b : AV} {l : List Value} (h : bP S W [a, b] l) (k : ∀ v u, VR S W a v → VR S W b u → P [v, u]) : P l := h.b7 fun v vs x r => r.one (k v · x)
@[elab_as_elim] theorem bP.three {P : List Value → Prop} {a b c : AV} {l : List Value} (h : bP S W [a, b, c] l) (k : ∀ v u w, VR S W a v → VR S W b u → VR S W c w → P [v, u, w]) : P l := h.b7 fun v vs x r => r.two (k v · · x)
end
structure Fm where
 env : Env
 ow : List Addr
noncomputable def OR (S : aP) (W : Wd) (ao : AO) (o : Obj) : Prop := (∃ vs items n, ao = .list vs ∧ o = { cls := .type "list", data := .seq items n } ∧ vs.length ≤ dD ∧ bP S W vs items.toList) ∨ (∃ aN ps, ao.fl = some aN ∧ jf S o ps ∧ aN.length ≤ dD ∧ eN S W aN ps)
section
variable {S : aP} {W W' : Wd} {ao : AO} {o : Obj}
theorem OR.list {vs : List AV} {items : Array Value} {n : Nat} (z : vs.length ≤ dD) (r : bP S W vs items.toList) : OR S W (.list vs) { cls := .type "list", data := .seq items n } := .inl ⟨vs, items, n, rfl, rfl, z, r⟩
theorem OR.dict {aN : List (Nm × AV)} {ps : List (Str × Value)} (e : ao.fl = some aN) (d : jf S o ps) (z : aN.length ≤ dD) (r : eN S W aN ps) : OR S W ao o := .inr ⟨aN, ps, e, d, z, r⟩
@[elab_as_elim] theorem OR.listE {P : Obj → Prop} {vs : List AV} (h : OR S W (.list vs) o) (k : ∀ items n, vs.length ≤ dD → bP S W vs items.toList → P { cls := .type "list", data := .seq items n }) : P o := by
 rcases h with ⟨vs', items, n, e, e', z, r⟩ | ⟨aN, ps, e, _⟩
 ·cases e; exact e' ▸ k items n z r
 ·exact nn e
theorem OR.wF {P : Prop} {aN : List (Nm × AV)} (h : OR S W ao o) (e : ao.fl = some aN) (k : ∀ ps, jf S o ps → aN.length ≤ dD → eN S W aN ps → P) : P := by
 rcases h with ⟨vs', items, n, e', _⟩ | ⟨kvs', ps, e', d, z, r⟩
 ·rw [e'] at e; exact nn e
 ·rw [e'] at e; cases e; exact k ps d z r
theorem OR.mono (L : W.Le W') (h : OR S W ao o) : OR S W' ao o := by
 rcases h with ⟨vs, items, n, e, e', z, r⟩ | ⟨aN, ps, e, d, z, r⟩
 ·exact .inl ⟨vs, items, n, e, e', z, r.mono L⟩
 ·exact .dict e d z (r.mono L)
theorem OR.mV (h : OR S W ao o) : o.isFreed = false := by
 rcases h with ⟨vs, items, n, e, e', z, r⟩ | ⟨aN, ps, e, d, z, r⟩
 ·rw [e']; rfl
 ·exact d.mV
end
structure bI (S : aP) (W : Wd) (F : Addr → Option Obj) (H : List AO) (h : Heap) : Prop where
 p : ∀ a o, W.P a = some o → h.get? a = some o
 f : ∀ a o, F a = some o → h.get? a = some o
 base : ∀ a o, S.hB a = some o → W.P a = some o
 len : W.ρ.length = H.length
 hs : ∀ (i : Nat) a ao, W.ρ[i]? = some a → H[i]? = some ao → ∃ o, h.get? a = some o ∧ OR S W ao o
 nd : W.ρ.Nodup
 ρp : ∀ a ∈ W.ρ, W.P a = none
 ρf : ∀ a ∈ W.ρ, F a = none
 pf : ∀ a o, W.P a = some o → F a = none
noncomputable def xQ (env : Env) (h : Heap) (m : Str → Option Value) (x : Str) (v : Value) : Prop :=
 (env.kindOf x = some .local ∧ m x = some v) ∨ (env.kindOf x = some .cell ∧ ∃ c, env.cells.lookup x = some c ∧ h.IsCell c (some v))
structure uk (S : aP) (W : Wd) (fm : Fm) (V : List (Nm × AV)) (h : Heap) : Prop where
 ns : ∃ m, h.Ns fm.env.locals m ∧ ∀ x av, lk V x = some av → ∃ v, VR S W av v ∧ xQ fm.env h m (bz x) v
 cell : ∀ x, fm.env.kindOf x = some .cell → ∃ c v, fm.env.cells.lookup x = some c ∧ h.IsCell c v
structure Inv (S : aP) (W : Wd) (F : Addr → Option Obj) (fm : Fm) (σ : St) (h : Heap) : Prop extends bI S W F σ.H h where
 own : ∀ a ∈ fm.ow, W.P a = none ∧ F a = none ∧ a ∉ W.ρ ∧ ∃ o, h.get? a = some o
 fr : ∀ x c, fm.env.kindOf x = some .cell → fm.env.cells.lookup x = some c → c ∈ fm.ow ∨ ∃ o, F c = some o
 vars : uk S W fm σ.V h
structure fX (S : aP) (fm : Fm) : Prop where
 kf : fm.env.scope.kind = .function
 gl : fm.env.globals = mainGlobals
 bu : fm.env.builtins = builtinsNs
 lo : fm.env.locals ∈ fm.ow
 cl : ∀ x c, fm.env.cells.lookup x = some c → c ≠ fm.env.locals
structure zR (S : aP) (fm : Fm) : Prop extends fX S fm where
 ce : ∀ x c, fm.env.kindOf x = some .cell → fm.env.cells.lookup x = some c → c ∈ fm.ow
 ci : ∀ x y c, fm.env.kindOf x = some .cell → fm.env.cells.lookup x = some c → fm.env.cells.lookup y = some c → x = y
structure Kp (s s' : Shared) : Prop where
 gens : s'.gens = s.gens
 os : s'.os = s.os
theorem Kp.refl (s : Shared) : Kp s s := ⟨rfl, rfl⟩
theorem Kp.trans {s₁ s₂ s₃ : Shared} (x : Kp s₁ s₂) (y : Kp s₂ s₃) : Kp s₁ s₃ := ⟨y.gens.trans x.gens, y.os.trans x.os⟩
structure Ro (n : Nat) (A : Around) : Prop where
 hd : A.handled = none
 dp : A.depth + 8 * (n + 1) ≤ 1000
 un : A.units + 64 * (n + 1) ≤ 9900
noncomputable def no : Value → Shared → Prop := fun _ _ => False
inductive bH {α : Type} (S : aP) (W : Wd) (F : Addr → Option Obj) (fm : Fm) (σ : St) (s₀ : Shared) (R : Wd → α → Prop) (a : α) (s : Shared) : Prop
 | mk (W' : Wd) : W.Le W' → R W' a → Inv S W' F fm σ s.heap → Kp s₀ s → bH S W F fm σ s₀ R a s
inductive o3 {α : Type} (S : aP) (W : Wd) (F : Addr → Option Obj) (H : List AO) (s₀ : Shared) (R : Wd → α → Prop) (a : α) (s : Shared) : Prop
 | mk (W' : Wd) : W.Le W' → R W' a → bI S W' F H s.heap → Kp s₀ s → o3 S W F H s₀ R a s
section
variable {α β : Type} {S : aP} {W W' : Wd} {F : Addr → Option Obj} {fm : Fm} {σ σ' : St} {s s' : Shared} {A : Around} {M : Model} {H : List AO} {h : Heap}
theorem bH.ret {R : Wd → α → Prop} {a : α} (I : Inv S W F fm σ s.heap) (r : R W a) : bH S W F fm σ s R a s := ⟨W, .refl W, r, I, .refl s⟩
theorem bH.lift {R : Wd → α → Prop} {a : α} {t : Shared} (L : W.Le W') (k : Kp s s') (p : bH S W' F fm σ s' R a t) : bH S W F fm σ s R a t := by
 cases p with | mk W₂ l r I q => exact ⟨W₂, L.trans l, r, I, k.trans q⟩
theorem bH.xn {R : Wd → α → Prop} {a : α} {t : Shared} {os : List Nat} (p : bH S W F fm σ s R a t) : bH S W F fm { σ with O := os } s R a t := by
 cases p with | mk W₂ l r I q => exact ⟨W₂, l, r, ⟨I.tobI, I.own, I.fr, I.vars⟩, q⟩
theorem bH.map {R : Wd → α → Prop} {R' : Wd → β → Prop} {a : α} {b : β} {t : Shared} (p : bH S W F fm σ s R a t) (f : ∀ W', W.Le W' → R W' a → R' W' b) : bH S W F fm σ s R' b t := by
 cases p with | mk W₂ l r I q => exact ⟨W₂, l, f _ l r, I, q⟩
theorem seq {t : Sem α} {R : Wd → α → Prop} {k : α → Shared → Prop}
  (h : wpAny M A t (bH S W F fm σ s R) no s)
  (f : ∀ W₁ a s₁, W.Le W₁ → R W₁ a → Inv S W₁ F fm σ s₁.heap → Kp s s₁ → k a s₁) : wpAny M A t k no s :=
 wpAny_mono h (fun a s₁ p => by cases p with | mk W₁ l r I q => exact f W₁ a s₁ l r I q) fun _ _ x => x
theorem iT {t : Sem α} {R : Wd → α → Prop} {E : Value → Shared → Prop} {s₀ : Shared} (L : W.Le W') (k : Kp s₀ s) (h : wpAny M A t (bH S W' F fm σ s R) E s) :
  wpAny M A t (bH S W F fm σ s₀ R) E s := wpAny_mono h (fun _ _ p => p.lift L k) fun _ _ x => x
theorem bH.tok {R : Wd → α → Prop} {a : α} {t : Tok} (I : Inv S W F fm σ s.heap) (r : R W a) : bH S W F fm σ s R a { s with toks := t } :=
 ⟨W, .refl W, r, I, rfl, rfl⟩
noncomputable def Ln (W : Wd) (F : Addr → Option Obj) (fm : Fm) (a : Addr) : Prop := (∃ o, W.P a = some o) ∨ (∃ o, F a = some o) ∨ a ∈ W.ρ ∨ a ∈ fm.ow
structure Un (W : Wd) (F : Addr → Option Obj) (fm : Fm) (a : Addr) : Prop where
 P : W.P a = none
 f : F a = none
 ρ : a ∉ W.ρ
 ow : a ∉ fm.ow
theorem Un.ne {a b : Addr} (u : Un W F fm a) (l : Ln W F fm b) : b ≠ a := fun z => by
 subst z
 rcases l with ⟨o, e⟩ | ⟨o, e⟩ | m | m
 ·rw [u.P] at e; cases e
 ·rw [u.f] at e; cases e
 ·exact u.ρ m
 ·exact u.ow m
theorem Md {h' : Heap} {a : Addr} {m : Str → Option Value} (q : h.Ns a m) (k : ∀ o, h.get? a = some o → h'.get? a = some o) : h'.Ns a m := Exists.elim q fun o r => Exists.elim r fun es r => Exists.elim r fun ep r => ⟨o, es, ep, k o r.1, r.2⟩
theorem mz {h' : Heap} {a : Addr} {v : Option Value} (q : h.IsCell a v) (k : ∀ o, h.get? a = some o → h'.get? a = some o) : h'.IsCell a v := Exists.elim q fun o r => ⟨o, k o r.1, r.2⟩
theorem bI.gP {h' : Heap} (I : bI S W F H h) (k : ∀ a o, (∃ o, W.P a = some o) ∨ (∃ o, F a = some o) ∨ a ∈ W.ρ → h.get? a = some o → h'.get? a = some o) : bI S W F H h' :=
 {I with
  p := fun a o e => k a o (.inl ⟨o, e⟩) (I.p a o e), f := fun a o e => k a o (.inr (.inl ⟨o, e⟩)) (I.f a o e), hs := fun i a ao e e' => Exists.elim (I.hs i a ao e e') fun o x => ⟨o, k a o (.inr (.inr (List.mem_of_getElem? e))) x.1, x.2⟩ }
theorem uk.gP {h' : Heap} {V : List (Nm × AV)} (q : uk S W fm V h) (k : ∀ o, h.get? fm.env.locals = some o → h'.get? fm.env.locals = some o) (c : ∀ x c o, fm.env.kindOf x = some .cell → fm.env.cells.lookup x = some c → h.get? c = some o → h'.get? c = some o) : uk S W fm V h' := by
 refine ⟨?_, fun x e => ?_⟩
 ·obtain ⟨m, n, q⟩ := q.ns
  refine ⟨m, Md n k, fun x av e => ?_⟩
  obtain ⟨v, r, z⟩ := q x av e
  exact ⟨v, r, z.imp id fun z => ⟨z.1, Exists.elim z.2 fun d y => ⟨d, y.1, mz y.2 fun o => c _ _ o z.1 y.1⟩⟩⟩
 ·obtain ⟨d, v, a, y⟩ := q.cell x e
  exact ⟨d, v, a, mz y fun o => c _ _ o e a⟩
theorem uk.mono {V : List (Nm × AV)} (L : W.Le W') (q : uk S W fm V h) : uk S W' fm V h :=
 ⟨Exists.elim q.ns fun m n => ⟨m, n.1, fun x av e => Exists.elim (n.2 x av e) fun v r => ⟨v, r.1.mono L, r.2⟩⟩, q.cell⟩
theorem Inv.lY (I : Inv S W F fm σ h) {x : Str} {c : Addr} (k : fm.env.kindOf x = some .cell) (l : fm.env.cells.lookup x = some c) : Ln W F fm c := (I.fr x c k l).elim (fun m => .inr (.inr (.inr m))) fun e => .inr (.inl e)
theorem Ln.VQ {a : Addr} (l : (∃ o, W.P a = some o) ∨ (∃ o, F a = some o) ∨ a ∈ W.ρ) : Ln W F fm a := l.imp id (.imp id .inl)
theorem Inv.gP {h' : Heap} (I : Inv S W F fm σ h) (ok : fm.env.locals ∈ fm.ow) (k : ∀ a o, Ln W F fm a → h.get? a = some o → h'.get? a = some o) : Inv S W F fm σ h' :=
 {tobI := I.tobI.gP fun a o l => k a o (.VQ l), fr := I.fr, vars := I.vars.gP (fun o => k _ o (.inr (.inr (.inr ok)))) fun _ _ o e l => k _ o (I.lY e l), own := fun a m => have y := I.own a m; ⟨y.1, y.2.1, y.2.2.1, Exists.elim y.2.2.2 fun o e => ⟨o, k a o (.inr (.inr (.inr m))) e⟩⟩ }
theorem bI.keeps {h' : Heap} (I : bI S W F H h) (k : ∀ a o, h.get? a = some o → h'.get? a = some o) : bI S W F H h' := I.gP fun a o _ => k a o
theorem Inv.keeps {h' : Heap} (I : Inv S W F fm σ h) (k : ∀ a o, h.get? a = some o → h'.get? a = some o) : Inv S W F fm σ h' :=
 {tobI := I.tobI.keeps k, fr := I.fr, vars := I.vars.gP (fun o => k _ o) fun _ _ o _ _ => k _ o, own := fun a m => have y := I.own a m; ⟨y.1, y.2.1, y.2.2.1, Exists.elim y.2.2.2 fun o e => ⟨o, k a o e⟩⟩ }
theorem bH.heap {R : Wd → α → Prop} {a : α} {h' : Heap} {t : Tok} (I : Inv S W F fm σ s.heap) (k : ∀ b o, s.heap.get? b = some o → h'.get? b = some o) (r : R W a) :
  bH S W F fm σ s R a { s with heap := h', toks := t } := ⟨W, .refl W, r, I.keeps k, rfl, rfl⟩
theorem Inv.lt (I : Inv S W F fm σ h) : ∀ a ∈ fm.ow, a < h.objs.size := fun a m => Exists.elim (I.own a m).2.2.2 fun _ e => Heap.lt_size e
theorem Inv.push (I : Inv S W F fm σ h) (o : Obj) : Inv S W F fm σ (h.push o) := I.keeps fun _ _ e => Heap.get?_push_of_some o e
theorem bI.push (I : bI S W F H h) (o : Obj) : bI S W F H (h.push o) := I.keeps fun _ _ e => Heap.get?_push_of_some o e
theorem Inv.xn (I : Inv S W F fm σ h) {o : List Nat} : Inv S W F fm { σ with O := o } h := ⟨I.tobI, I.own, I.fr, I.vars⟩
theorem Inv.ext {h' : Heap} {a : Addr} (I : Inv S W F fm σ h) (ok : fX S fm) (u : Un W F fm a) (sb : Heap.ExtBut a h h') : Inv S W F fm σ h' := I.gP ok.lo fun b o l => sb b o (u.ne l)
theorem Inv.other {h' : Heap} {a : Addr} (I : Inv S W F fm σ h) (ok : fX S fm) (u : Un W F fm a) (sb : Heap.SameBut a h h') : Inv S W F fm σ h' := I.gP ok.lo fun b _ l e => (sb.2 b (u.ne l)).trans e
theorem bI.Wa (I : bI S W F H h) {a : Addr} (m : a ∈ W.ρ) : a < h.objs.size := by
 obtain ⟨i, hi, rfl⟩ := List.mem_iff_getElem.mp m
 have hj : i < H.length := I.len ▸ hi
 obtain ⟨o, e, _⟩ := I.hs i _ H[i] (List.getElem?_eq_getElem hi) (List.getElem?_eq_getElem hj)
 exact Heap.lt_size e
theorem bI.above {a : Addr} (I : bI S W F H h) (g : h.objs.size ≤ a) : W.P a = none ∧ F a = none ∧ a ∉ W.ρ := by
 have no : ∀ {o}, h.get? a = some o → False := fun e => Nat.lt_irrefl _ (Nat.lt_of_lt_of_le (Heap.lt_size e) g)
 refine ⟨?_, ?_, fun m => Nat.lt_irrefl _ (Nat.lt_of_lt_of_le (I.Wa m) g)⟩
 ·cases e : W.P a with
  | none => rfl
  | some o => exact (no (I.p _ _ e)).elim
 ·cases e : F a with
  | none => rfl
  | some o => exact (no (I.f _ _ e)).elim
theorem Inv.above {a : Addr} (I : Inv S W F fm σ h) (g : h.objs.size ≤ a) : Un W F fm a :=
 have y := I.tobI.above g
 ⟨y.1, y.2.1, y.2.2, fun m => Nat.lt_irrefl _ (Nat.lt_of_lt_of_le (I.lt _ m) g)⟩
theorem Inv.un (I : Inv S W F fm σ h) : Un W F fm h.objs.size := I.above (Nat.le_refl _)
theorem Inv.fresh {h' : Heap} (I : Inv S W F fm σ h) (ok : fX S fm) (sb : Heap.ExtBut h.objs.size h h') : Inv S W F fm σ h' := I.ext ok I.un sb
noncomputable def Wd.put (W : Wd) (a : Addr) (o : Obj) : Wd := { W with P := fun b => if b = a then some o else W.P b }
theorem Wd.KR {a : Addr} {o : Obj} (n : W.P a = none) : W.Le (W.put a o) := ⟨fun b o' e => by
 show (if b = a then some o else W.P b) = some o'
 rw [if_neg (fun x => by rw [x, n] at e; cases e)]; exact e, [], by simp [Wd.put]⟩
theorem Wd.oE {a : Addr} {o : Obj} : (W.put a o).P a = some o := if_pos rfl
theorem Dk {a b : Addr} {o o' : Obj} {P : Prop} (q : (W.put a o).P b = some o') (k : b = a → o = o' → P) (k' : W.P b = some o' → P) : P := by
 by_cases z : b = a
 ·subst z; rw [Wd.oE] at q; exact k rfl (Option.some.inj q)
 ·exact k' ((if_neg z).symm.trans q)
theorem Dl {a b : Addr} {o : Obj} (z : b ≠ a) (n : W.P b = none) : (W.put a o).P b = none := (if_neg z).trans n
theorem bI.ud {a : Addr} {o : Obj} (I : bI S W F H h) (p : W.P a = none) (f : F a = none) (r : a ∉ W.ρ) (e : h.get? a = some o) : bI S (W.put a o) F H h ∧ W.Le (W.put a o) := by
 have L : W.Le (W.put a o) := Wd.KR p
 refine ⟨{ I with
  p := fun b o' q => Dk q (fun z z' => z ▸ z' ▸ e) (I.p b o'), base := fun b o' q => L.P _ _ (I.base b o' q), pf := fun b o' q => Dk q (fun z _ => z ▸ f) (I.pf b o'), ρp := fun b m => Dl (fun z => r (z ▸ m)) (I.ρp b m), hs := fun i b ao q q' => Exists.elim (I.hs i b ao q q') fun o' x => ⟨o', x.1, x.2.mono L⟩ }, L⟩
theorem Inv.ud {a : Addr} {o : Obj} (I : Inv S W F fm σ h) (u : Un W F fm a) (e : h.get? a = some o) : Inv S (W.put a o) F fm σ h ∧ W.Le (W.put a o) :=
 have y := I.tobI.ud u.P u.f u.ρ e
 ⟨{ tobI := y.1, own := fun b m => have w := I.own b m; ⟨Dl (fun z => u.ow (z ▸ m)) w.1, w.2⟩, fr := I.fr, vars := I.vars.mono y.2 }, y.2⟩
theorem Inv.new (I : Inv S W F fm σ h) {o : Obj} (ho : o.isFreed = false := by rfl) :
  Inv S (W.put h.objs.size o) F fm σ (h.push o) ∧ W.Le (W.put h.objs.size o) := (I.push o).ud I.un (Heap.get?_push_size _ ho)
theorem bH.new {R : Wd → α → Prop} {a : α} {o : Obj} {t : Tok} (I : Inv S W F fm σ h) (ho : o.isFreed = false) (r : ∀ W', W.Le W' → W'.P h.objs.size = some o → R W' a) : bH S W F fm σ s R a { s with heap := h.push o, toks := t } :=
 have J := I.new ho
 ⟨_, J.2, r _ J.2 Wd.oE, J.1, rfl, rfl⟩
noncomputable def Wd.aQ (W : Wd) (a : Addr) : Wd := { W with ρ := W.ρ ++ [a] }
theorem Wd.vh {a : Addr} : W.Le (W.aQ a) := ⟨fun _ _ e => e, [a], rfl⟩
theorem vg {α : Type} {l : List α} {x y : α} {i : Nat} {P : Prop} (e : (l ++ [x])[i]? = some y) (k : i = l.length → x = y → P) (k' : l[i]? = some y → P) : P := by
 rcases Nat.lt_trichotomy i l.length with z | z | z
 ·exact k' (by rwa [List.getElem?_append_left z] at e)
 ·exact k z (by rw [List.getElem?_append_right (Nat.le_of_eq z.symm), z, Nat.sub_self] at e; exact Option.some.inj e)
 ·rw [List.getElem?_eq_none (by simp; omega)] at e; exact nn e
theorem oy {α : Type} {l : List α} {x y : α} (m : y ∈ l ++ [x]) : y ∈ l ∨ y = x := (List.mem_append.mp m).imp id List.mem_singleton.mp
theorem bI.xF {a : Addr} {o : Obj} {ao : AO} (I : bI S W F H h) (p : W.P a = none) (f : F a = none) (n : a ∉ W.ρ) (e : h.get? a = some o) (r : OR S W ao o) : bI S (W.aQ a) F (H ++ [ao]) h := by
 have L : W.Le (W.aQ a) := Wd.vh
 refine { I with
  len := by simp [Wd.aQ, I.len], hs := fun i b ao' q q' => vg q (fun z z' => ?_) fun y => vg q' (fun z _ => absurd (List.getElem?_eq_some_iff.mp y).1 (by rw [z, I.len]; exact Nat.lt_irrefl _)) fun y' => Exists.elim (I.hs i b ao' y y') fun o' x => ⟨o', x.1, x.2.mono L⟩, nd := ?_, ρp := fun b m => (oy m).elim (I.ρp b) fun z => z ▸ p, ρf := fun b m => (oy m).elim (I.ρf b) fun z => z ▸ f }
 ·exact vg q' (fun _ y' => ⟨o, z' ▸ e, y' ▸ r.mono L⟩) fun y' => absurd (List.getElem?_eq_some_iff.mp y').1 (by rw [z, I.len]; exact Nat.lt_irrefl _)
 ·exact List.nodup_append.mpr ⟨I.nd, by simp, fun b m c mc z => n (List.mem_singleton.mp mc ▸ z ▸ m)⟩
theorem bI.NF (I : bI S W F H h) {a : Addr} : (W.aQ a).ρ[H.length]? = some a := by
 show (W.ρ ++ [a])[H.length]? = _
 rw [← I.len]; simp
theorem Inv.xF {a : Addr} {o : Obj} {ao : AO} (I : Inv S W F fm σ h) (u : Un W F fm a) (e : h.get? a = some o) (r : OR S W ao o) :
  Inv S (W.aQ a) F fm { σ with H := σ.H ++ [ao] } h ∧ W.Le (W.aQ a) ∧ (W.aQ a).ρ[σ.H.length]? = some a :=
 ⟨{ tobI := I.tobI.xF u.P u.f u.ρ e r, fr := I.fr, vars := I.vars.mono Wd.vh, own := fun b m => have w := I.own b m; ⟨w.1, w.2.1, fun k => (oy k).elim w.2.2.1 fun z => u.ow (z ▸ m), w.2.2.2⟩ }, Wd.vh, I.tobI.NF⟩
theorem Inv.Cz (I : Inv S W F fm σ h) {o : Obj} {ao : AO} (r : OR S W ao o) :
  Inv S (W.aQ h.objs.size) F fm { σ with H := σ.H ++ [ao] } (h.push o) ∧ W.Le (W.aQ h.objs.size) ∧ (W.aQ h.objs.size).ρ[σ.H.length]? = some h.objs.size := (I.push o).xF I.un (Heap.get?_push_size _ r.mV) r
theorem bI.set {h' : Heap} (I : bI S W F H h) {i : Nat} {a : Addr} {ao : AO} {o : Obj} (e : W.ρ[i]? = some a) (sb : Heap.SameBut a h h') (g : h'.get? a = some o) (r : OR S W ao o) :
  bI S W F (H.set i ao) h' := by
 have m : a ∈ W.ρ := List.mem_of_getElem? e
 have ne : ∀ b (o' : Obj), W.P b = some o' → b ≠ a := fun b o' x y => by rw [y, I.ρp a m] at x; cases x
 have nf : ∀ b (o' : Obj), F b = some o' → b ≠ a := fun b o' x y => by rw [y, I.ρf a m] at x; cases x
 refine { I with p := fun b o' x => (sb.2 b (ne b o' x)).trans (I.p b o' x), f := fun b o' x => (sb.2 b (nf b o' x)).trans (I.f b o' x), len := by simp [I.len], hs := fun j b ao' x y => ?_ }
 by_cases q : j = i
 ·subst q
  have hi := I.len ▸ (List.getElem?_eq_some_iff.mp e).1
  rw [List.getElem?_set_self hi] at y
  exact ⟨o, Option.some.inj (e.symm.trans x) ▸ g, Option.some.inj y ▸ r⟩
 ·rw [List.getElem?_set_ne (Ne.symm q)] at y
  refine Exists.elim (I.hs j b ao' x y) fun o' p => ⟨o', (sb.2 b fun z => q ?_).trans p.1, p.2⟩
  subst z
  obtain ⟨h1, e1⟩ := List.getElem?_eq_some_iff.mp x
  obtain ⟨h2, e2⟩ := List.getElem?_eq_some_iff.mp e
  exact (List.getElem_inj (h₀ := h1) (h₁ := h2) I.nd).mp (e1.trans e2.symm)
theorem Inv.set {h' : Heap} (I : Inv S W F fm σ h) {i : Nat} {a : Addr} {ao : AO} {o : Obj} (e : W.ρ[i]? = some a) (sb : Heap.SameBut a h h') (g : h'.get? a = some o) (r : OR S W ao o) (ok : fX S fm) :
  Inv S W F fm { σ with H := σ.H.set i ao } h' := by
 have m : a ∈ W.ρ := List.mem_of_getElem? e
 have keep : ∀ b o, (∃ o, F b = some o) ∨ b ∈ fm.ow → h.get? b = some o → h'.get? b = some o := fun b o l q => (sb.2 b fun z => by
  subst z
  rcases l with ⟨o, l⟩ | l
  ·rw [I.ρf b m] at l; cases l
  ·exact (I.own b l).2.2.1 m).trans q
 exact { tobI := I.tobI.set e sb g r, fr := I.fr, own := fun b hb => have y := I.own b hb; ⟨y.1, y.2.1, y.2.2.1, Exists.elim y.2.2.2 fun o e => ⟨o, keep b o (.inr hb) e⟩⟩, vars := I.vars.gP (fun o => keep _ o (.inr ok.lo)) fun x c o k l => keep c o ((I.fr x c k l).elim .inr .inl) }
theorem Hr {α : Type} (V : List (Nm × α)) (x y : Nm) (v : α) : lk (pt V x v) y = if x = y then some v else lk V y := by
 induction V with
 | nil => rfl
 | cons p r ih =>
  by_cases e : p.1 = x
  ·subst e
   rw [jD, if_pos rfl, c9, c9]
   by_cases f : p.1 = y
   ·rw [if_pos f, if_pos f]
   ·rw [if_neg f, if_neg f, if_neg f]
  ·rw [jD, if_neg e, c9, c9, ih]
   by_cases f : p.1 = y
   ·rw [if_pos f, if_pos f, if_neg fun z => e (f.trans z.symm)]
   ·rw [if_neg f, if_neg f]
theorem Inv.put {x : Nm} {av : AV} {v : Value} {h' : Heap} {a : Addr} {m' : Str → Option Value} (I : Inv S W F fm σ h) (r : VR S W av v) (ow : a ∈ fm.ow) (ex : ∃ o, h'.get? a = some o) (sb : Heap.SameBut a h h')
  (n : h'.Ns fm.env.locals m') (w : xQ fm.env h' m' (bz x) v) (q : ∀ y av, x ≠ y → lk σ.V y = some av → ∃ v, VR S W av v ∧ xQ fm.env h' m' (bz y) v) (c : ∀ x, fm.env.kindOf x = some .cell → ∃ c v, fm.env.cells.lookup x = some c ∧ h'.IsCell c v) : Inv S W F fm { σ with V := pt σ.V x av } h' := by
 have y := I.own a ow
 have keep : ∀ b o, b ≠ a → h.get? b = some o → h'.get? b = some o := fun b o z e => (sb.2 b z).trans e
 refine { tobI := I.tobI.gP fun b o l => keep b o fun z => ?_, fr := I.fr, own := fun b hb => have y := I.own b hb; ⟨y.1, y.2.1, y.2.2.1, ?_⟩, vars := ⟨⟨m', n, fun y a e => ?_⟩, c⟩ }
 ·subst z
  rcases l with ⟨o, l⟩ | ⟨o, l⟩ | l
  ·rw [y.1] at l; cases l
  ·rw [y.2.1] at l; cases l
  ·exact y.2.2.1 l
 ·by_cases z : b = a
  ·exact z ▸ ex
  ·exact Exists.elim y.2.2.2 fun o e => ⟨o, keep b o z e⟩
 ·have e : lk (pt σ.V x av) y = some a := e
  rw [Hr] at e
  by_cases z : x = y
  ·rw [if_pos z] at e
   exact ⟨v, Option.some.inj e ▸ r, z ▸ w⟩
  ·rw [if_neg z] at e
   exact q y a z e
theorem Inv.store {x : Nm} {av : AV} {v : Value} {Q : Unit → Shared → Prop} {E : Value → Shared → Prop} (ok : fX S fm) (os : fm.env.kindOf (bz x) = some .cell → zR S fm) (I : Inv S W F fm σ s.heap) (r : VR S W av v)
  (k : fm.env.kindOf (bz x) = some .local ∨ fm.env.kindOf (bz x) = some .cell)
  (q : ∀ s', Inv S W F fm { σ with V := pt σ.V x av } s'.heap → Kp s s' → Q () s') : wpAny M A (storeName fm.env (bz x) v) Q E s := by
 obtain ⟨m, hm, hv⟩ := I.vars.ns
 rcases k with k | k
 ·refine wpAny_storeName_local k hm (fun h' n sb => q _ (I.put r ok.lo (Exists.elim n fun o e => Exists.elim e fun _ e => Exists.elim e fun _ e => ⟨o, e.1⟩) sb n (.inl ⟨k, if_pos rfl⟩) (fun y a z e => ?_) fun y e => ?_) ⟨rfl, rfl⟩) (by rw [ok.kf]; rfl)
  ·exact Exists.elim (hv y a e) fun u w => ⟨u, w.1, w.2.imp (fun w => ⟨w.1, (if_neg fun e => z (iU e).symm).trans w.2⟩) fun w => ⟨w.1, Exists.elim w.2 fun c l => ⟨c, l.1, l.2.sameBut sb (ok.cl _ c l.1)⟩⟩⟩
  ·exact Exists.elim (I.vars.cell y e) fun c w => Exists.elim w fun u l => ⟨c, u, l.1, l.2.sameBut sb (ok.cl y c l.1)⟩
 ·obtain ⟨c, v₀, l, ic⟩ := I.vars.cell _ k
  have os := os k
  have hne := ok.cl _ c l
  refine wpAny_storeName_cell ok.kf k l ic (fun h' ic' sb => q _ (I.put r (os.ce _ c k l) (Exists.elim ic' fun o e => ⟨o, e.1⟩) sb (hm.sameBut sb hne.symm) (.inr ⟨k, c, l, ic'⟩) (fun y a z e => ?_) fun y e => ?_) ⟨rfl, rfl⟩)
  ·exact Exists.elim (hv y a e) fun u w => ⟨u, w.1, w.2.imp id fun w => ⟨w.1, Exists.elim w.2 fun d l' => ⟨d, l'.1, l'.2.sameBut sb fun z' => z (iU (os.ci _ _ c k l (z' ▸ l'.1)))⟩⟩⟩
  ·by_cases z : bz x = y
   ·exact ⟨c, _, z ▸ l, ic'⟩
   ·exact Exists.elim (I.vars.cell y e) fun d w => Exists.elim w fun u l' => ⟨d, u, l'.1, l'.2.sameBut sb fun w => z (os.ci _ _ c k l (w ▸ l'.1))⟩
theorem Inv.load {x : Nm} {av : AV} {Q : Value → Shared → Prop} {E : Value → Shared → Prop} (ok : fX S fm) (I : Inv S W F fm σ s.heap) (e : lk σ.V x = some av)
  (q : ∀ v, VR S W av v → Q v s) : wpAny M A (loadName fm.env (bz x)) Q E s := by
 obtain ⟨m, hm, hv⟩ := I.vars.ns
 obtain ⟨v, r, w⟩ := hv x av e
 rcases w with ⟨k, w⟩ | ⟨k, c, l, w⟩
 ·exact wpAny_loadName_local ok.kf k hm w (q v r)
 ·exact wpAny_loadName_cell ok.kf k l w (q v r)
noncomputable def fY (F : Addr → Option Obj) (a : Addr) (o : Obj) : Addr → Option Obj := fun b => if b = a then some o else F b
theorem kA {a : Addr} {o : Obj} : fY F a o a = some o := if_pos rfl
theorem jx {a b : Addr} {o : Obj} (z : b ≠ a) : fY F a o b = F b := if_neg z
theorem Un.fY {a b : Addr} {o : Obj} (u : Un W F fm a) (ne : a ≠ b) : Un W (fY F b o) fm a := ⟨u.P, (jx ne).trans u.f, u.ρ, u.ow⟩
theorem Inv.hold {a : Addr} {o : Obj} (I : Inv S W F fm σ h) (u : Un W F fm a) (e : h.get? a = some o) : Inv S W (fY F a o) fm σ h := by
 have ne : ∀ {b}, Ln W F fm b → Mine.fY F a o b = F b := fun l => jx (u.ne l)
 have J := I.tobI
 refine { tobI := { J with f := fun b o' q => ?_, ρf := fun b m => (ne (.inr (.inr (.inl m)))).trans (I.ρf b m), pf := fun b o' q => (ne (.inl ⟨o', q⟩)).trans (I.pf b o' q) }, own := fun b m => have y := I.own b m; ⟨y.1, (ne (.inr (.inr (.inr m)))).trans y.2.1, y.2.2⟩, fr := fun x c k l => (I.fr x c k l).imp id fun q => Exists.elim q fun o' q => ⟨o', (ne (.inr (.inl ⟨o', q⟩))).trans q⟩, vars := I.vars }
 by_cases z : b = a
 ·subst z; rw [kA] at q; exact Option.some.inj q ▸ e
 ·rw [jx z] at q; exact I.f b o' q
theorem Inv.free {a : Addr} {o : Obj} (I : Inv S W (fY F a o) fm σ h) (n : F a = none) (nc : ∀ x c, fm.env.kindOf x = some .cell → fm.env.cells.lookup x = some c → c ≠ a) : Inv S W F fm σ h ∧ Un W F fm a ∧ h.get? a = some o := by
 have le : ∀ b o', F b = some o' → Mine.fY F a o b = some o' := fun b o' q => (jx fun z => by rw [z, n] at q; cases q).trans q
 have back : ∀ b, Mine.fY F a o b = none → F b = none := fun b q => by
  cases w : F b with
  | none => rfl
  | some o' => rw [le b o' w] at q; cases q
 have J := I.tobI
 refine ⟨{ tobI := { J with f := fun b o' q => I.f b o' (le b o' q), ρf := fun b m => back b (I.ρf b m), pf := fun b o' q => back b (I.pf b o' q) }, own := fun b m => have y := I.own b m; ⟨y.1, back b y.2.1, y.2.2⟩, fr := fun x c k l => (I.fr x c k l).imp id fun q => Exists.elim q fun o' q => ⟨o', (jx (nc x c k l)).symm.trans q⟩, vars := I.vars }, ⟨?_, n, fun m => ?_, fun m => ?_⟩, I.f a o kA⟩
 ·cases q : W.P a with
  | none => rfl
  | some o' => have := I.pf a o' q; rw [kA] at this; cases this
 ·have := I.ρf a m; rw [kA] at this; cases this
 ·have := (I.own a m).2.1; rw [kA] at this; cases this
end
noncomputable abbrev MD (S : aP) : Model := model S.prog S.w
noncomputable abbrev VP (S : aP) (av : AV) : Wd → Value → Prop := fun W v => VR S W av v
section
variable {S : aP} {W : Wd} {x y : AV} {u v : Value}
theorem VR.je {i : Int} (h : VR S W x v) (e : Mine.je x = some i) : VR S W (.int i) v := uw (P := fun x => VR S W x v → VR S W (.int i) v) e id h
theorem VR.gx {i : List Nat} (h : VR S W x v) (e : Mine.gx x = some i) : VR S W (.str i) v := Aa (P := fun x => VR S W x v → VR S W (.str i) v) e id h
theorem VR.xW {i : Bool} (h : VR S W x v) (e : Mine.xW x = some i) : VR S W (.bool i) v := uu (P := fun x => VR S W x v → VR S W (.bool i) v) e id h
theorem VR.jK {i : Unit} (h : VR S W x v) (e : Mine.jK x = some i) : VR S W .none v := ux (P := fun x => VR S W x v → VR S W .none v) e id h
theorem VR.pJ {i : List AV} (h : VR S W x v) (e : Mine.pJ x = some i) : VR S W (.tup i) v := Ip (P := fun x => VR S W x v → VR S W (.tup i) v) e id h
theorem VR.vY {i : List AV} (h : VR S W x v) (e : Mine.vY x = some i) : VR S W (.lst i) v := Io (P := fun x => VR S W x v → VR S W (.lst i) v) e id h
theorem VR.z7 {i : List (Nm × AV)} (h : VR S W x v) (e : Mine.z7 x = some i) : VR S W (.cH i) v := Im (P := fun x => VR S W x v → VR S W (.cH i) v) e id h
theorem VR.dU {i : Nat} (h : VR S W x v) (e : Mine.dU x = some i) : VR S W (.aQ i) v := z9 (P := fun x => VR S W x v → VR S W (.aQ i) v) e id h
theorem VR.o6 {i : Cl × Nat} (h : VR S W x v) (e : Mine.o6 x = some i) : VR S W (.inst i.1 i.2) v := En (P := fun x => VR S W x v → VR S W (.inst i.1 i.2) v) e id h
theorem VR.lg {i : Unit} (h : VR S W x v) (e : Mine.lg x = some i) : VR S W (.bi .bool) v := xX (P := fun x => VR S W x v → VR S W (.bi .bool) v) e id h
@[elab_as_elim] theorem aj {α : Type} {P : α → Prop} {a p : α} (h : some a = some p) (k : P a) : P p := Option.some.inj h ▸ k
@[elab_as_elim] theorem iC {α : Type} {P : Value → Value → Prop} {f : Int → Int → Option α} {d : Option α} {r : α} (h : i2 x y f d = some r) (hx : VR S W x u) (hy : VR S W y v) (k : ∀ a b t t', f a b = some r → P (.int a t) (.int b t')) (k' : d = some r → P u v) : P u v :=
 bL h (fun a h e => ai h fun b h e' => (hx.je e).jW fun t => (hy.je e').jW fun t' => k a b t t' h) k'
@[elab_as_elim] theorem Du {α : Type} {P : Value → Value → Prop} {f : List Nat → List Nat → Option α} {d : Option α} {r : α} (h : s2 x y f d = some r) (hx : VR S W x u) (hy : VR S W y v) (k : ∀ a b t t', f a b = some r → P (.str ⟨a.toArray⟩ t) (.str ⟨b.toArray⟩ t')) (k' : d = some r → P u v) : P u v :=
 bL h (fun a h e => ai h fun b h e' => (hx.gx e).gh fun t _ => (hy.gx e').gh fun t' _ => k a b t t' h) k'
@[elab_as_elim] theorem CO {P : Value → Value → Bool → Prop} {d : Option Bool} {r : Bool} (h : TU x y d = some r) (hx : VR S W x u) (hy : VR S W y v) (k1 : P .none .none true) (k2 : ∀ b t, P .none (.str ⟨b⟩ t) false) (k3 : ∀ a t, P (.str ⟨a⟩ t) .none false)
  (k4 : ∀ (a b : List Nat) t t', P (.str ⟨a.toArray⟩ t) (.str ⟨b.toArray⟩ t') (bV a b)) (k' : d = some r → P u v r) : P u v r :=
 bL h (fun _ h e => (hx.jK e).kM (bL h (fun _ h e' => (hy.jK e').kM (aj h k1)) fun h => ai h fun b h e' => (hy.gx e').gh fun t _ => aj h (k2 _ t))) fun h =>
 bL h (fun a h e => (hx.gx e).gh fun t _ => bL h (fun _ h e' => (hy.jK e').kM (aj h (k3 _ t))) fun h => ai h fun b h e' => (hy.gx e').gh fun t' _ => aj h (k4 a b t t')) k'
theorem wc {o : oX} {p : AV × List Nat} {P : oX → Value → Value → AV × List Nat → Prop} (h : ng o x y = some p) (hx : VR S W x u) (hy : VR S W y v) (addI : ∀ i j t t', P .add (.int i t) (.int j t') (.int (i + j), []))
  (addS : ∀ (a b : List Nat) t t', P .add (.str ⟨a.toArray⟩ t) (.str ⟨b.toArray⟩ t') (.str (a ++ b), [a.length + b.length])) (subI : ∀ i j t t', P .sub (.int i t) (.int j t') (.int (i - j), []))
  (modI : ∀ i j t t', 0 < j → P .mod (.int i t) (.int j t') (.int (Int.fmod i j), [])) (divI : ∀ i j t t', 0 < j → j < 100000 → P .fdiv (.int i t) (.int j t') (.int (Int.fdiv i j), [])) : P o u v p := by
 cases o with
 | mul => exact nn h
 | add => exact iC h hx hy (fun i j t t' h => aj h (addI i j t t')) fun h => Du h hx hy (fun a b t t' h => aj h (addS a b t t')) nn
 | sub => exact iC h hx hy (fun i j t t' h => aj h (subI i j t t')) nn
 | mod => exact iC h hx hy (fun i j t t' h => fZ h fun c e => e ▸ modI i j t t' (of_decide_eq_true (aX c).1)) nn
 | fdiv => exact iC h hx hy (fun i j t t' h => fZ h fun c e => e ▸ divI i j t t' (of_decide_eq_true (aX c).1) (of_decide_eq_true (aX c).2)) nn
end
noncomputable def ni : oX → Operator
 | .add => .Add | .sub => .Sub | .mul => .Mult | .fdiv => .FloorDiv | .mod => .Mod
theorem Lk (a b : List Nat) : (⟨a.toArray⟩ : Str) ++ (⟨b.toArray⟩ : Str) = ⟨(a ++ b).toArray⟩ := by
 show Str.append _ _ = _
 simp [Str.append]
theorem oQ (a : List Nat) : (⟨a.toArray⟩ : Str).length = a.length := rfl
section
variable {S : aP} {W : Wd} {F : Addr → Option Obj} {fm : Fm} {σ : St} {s : Shared} {A : Around} {E : Value → Shared → Prop}
theorem vW {a b : List Nat} {t : Tok} (hz : ∀ n ∈ ([a.length + b.length] : List Nat), n ≤ dD) : VR S W (.str (a ++ b)) (.str ((⟨a.toArray⟩ : Str) ++ (⟨b.toArray⟩ : Str)) t) :=
 Lk a b ▸ .str _ _ (Nat.le_trans (Nat.le_of_eq List.length_append) (hz _ (.head _)))
theorem Et {o : oX} {x y : AV} {p : AV × List Nat} {a b : Value} (h : ng o x y = some p) (ha : VR S W x a) (hb : VR S W y b) (I : Inv S W F fm σ s.heap) (hz : ∀ n ∈ p.2, n ≤ dD) :
  wpAny (MD S) A (binaryOp (ni o) a b) (bH S W F fm σ s (VP S p.1)) E s :=
 wc (P := fun o a b p => (∀ n ∈ p.2, n ≤ dD) → wpAny (MD S) A (binaryOp (ni o) a b) (bH S W F fm σ s (VP S p.1)) E s) h ha hb (fun _ _ _ _ _ => add_int (bH.tok I (.int ..)))
  (fun _ _ _ _ hz => add_str (fun _ _ => bH.tok I (vW hz)) (cX (hz _ (.head _)))) (fun _ _ _ _ _ => P.sub_int (bH.tok I (.int ..)))
  (fun _ _ _ _ h1 _ => mod_int (Ne.symm (Int.ne_of_lt h1)) (bH.tok I (.int ..))) (fun _ _ _ _ h1 h2 _ => floordiv_int (Ne.symm (Int.ne_of_lt h1)) (bH.tok I (.int ..)) (.inl (PyProof.noPylong_small (by omega)))) hz
theorem nQ {o : oX} {x y : AV} {p : AV × List Nat} {a b : Value} (h : ng o x y = some p) (ha : VR S W x a) (hb : VR S W y b) (I : Inv S W F fm σ s.heap) (hz : ∀ n ∈ p.2, n ≤ dD) (ho : o = .add ∨ o = .sub) :
  wpAny (MD S) A (inplaceOp (ni o) a b) (bH S W F fm σ s (VP S p.1)) E s :=
 wc (P := fun o a b p => (∀ n ∈ p.2, n ≤ dD) → o = .add ∨ o = .sub → wpAny (MD S) A (inplaceOp (ni o) a b) (bH S W F fm σ s (VP S p.1)) E s) h ha hb (fun _ _ _ _ _ _ => iadd_int (bH.tok I (.int ..)))
  (fun _ _ _ _ hz _ => iadd_str (fun _ _ => bH.tok I (vW hz)) (cX (hz _ (.head _)))) (fun _ _ _ _ _ _ => isub_int (bH.tok I (.int ..)))
  (fun _ _ _ _ _ _ ho => by rcases ho with h | h <;> cases h) (fun _ _ _ _ _ _ _ ho => by rcases ho with h | h <;> cases h) hz ho
theorem gy (a b : List Nat) : bV a b = (a == b) := by
 induction a generalizing b with
 | nil => cases b <;> rfl
 | cons x r ih =>
  cases b with
  | nil => rfl
  | cons y q =>
   show (Nat.beq x y && bV r q) = (x :: r == y :: q)
   rw [ih, List.cons_beq_cons, BT.beq_eq]; rfl
theorem rQ (a b : List Nat) : ((⟨a.toArray⟩ : Str) == (⟨b.toArray⟩ : Str)) = bV a b := by
 rw [← toList_beq, gy]
end
section
open PySem.Builtin.Str
section
variable {S : aP} {W : Wd} {F : Addr → Option Obj} {H : List AO} {s : Shared} {A : Around} {E : Value → Shared → Prop}
noncomputable def kj : oZ → CmpOp
 | .eq => .Eq | .ne => .NotEq | .lt => .Lt | .le => .LtE | .gt => .Gt | .ge => .GtE | .is => .Is | .isn => .IsNot | .isin => .In | .nin => .NotIn
theorem JH (a b : List Nat) : Ef a b = !decide (b < a) := by
 induction a generalizing b with
 | nil => cases b <;> rfl
 | cons x r ih =>
  cases b with
  | nil => exact (congrArg (! ·) (decide_eq_true (List.Lex.nil : [] < x :: r))).symm
  | cons y q =>
   show (if x = y then Ef r q else decide (x < y)) = _
   by_cases e : x = y
   ·subst e
    rw [if_pos rfl, ih]
    simp
   ·rw [if_neg e]
    by_cases g : x < y
    ·rw [decide_eq_true g, decide_eq_false fun c => by
      cases c with
      | rel c => exact Nat.lt_asymm g c
      | cons c => exact e rfl]
     rfl
    ·rw [decide_eq_false g, decide_eq_true (show (y :: q) < (x :: r) from .rel (Nat.lt_of_le_of_ne (Nat.le_of_not_lt g) (Ne.symm e)))]
     rfl
theorem any_beq (c : Nat) (b : List Nat) : b.any (Nat.beq c) = decide (c ∈ b) := by
 induction b with
 | nil => simp
 | cons y q ih =>
  rw [List.any_cons, ih, BT.beq_eq]
  simp
noncomputable def Nd : Value → Value → Bool
 | .none, .none => true
 | .str a _, .str b _ => a == b
 | .int a _, .int b _ => a == b
 | _, _ => false
theorem Je {x y : AV} {b : Bool} {u v : Value} (h : Tf x y = some b) (hx : VR S W x u) (hy : VR S W y v) : EqAt A s u v b ∧ Nd u v = b :=
 CO (P := fun u v b => EqAt A s u v b ∧ Nd u v = b) h hx hy ⟨EqAt.same _, rfl⟩ (fun _ _ => ⟨EqAt.none_str _ _, rfl⟩) (fun _ _ => ⟨EqAt.str_none _ _, rfl⟩) (fun a b _ _ => rQ a b ▸ ⟨EqAt.str_str _ _ _ _, rfl⟩)
  fun h => iC h hx hy (fun i j t t' h => aj h ⟨EqAt.int_int _ _ _ _, rfl⟩) nn
theorem Bs {x : AV} {v : Value} (hx : VR S W x v) {ys : List AV} {us : List Value} {b : Bool} (h : qd x ys = some b) (hy : bP S W ys us) :
  (∀ u ∈ us, EqAt A s u v (Nd u v)) ∧ us.any (fun u => Nd u v) = b := by
 induction ys generalizing us b with
 | nil => exact hy.jc (aj h ⟨fun _ m => (List.not_mem_nil m).elim, rfl⟩)
 | cons y r ih =>
  refine hy.b7 fun u us h1 h2 => ai h fun b1 h e1 => ai h fun b2 h e2 => aj h ?_
  have p := Je (A := A) (s := s) e1 h1 hx
  have q := ih e2 h2
  refine ⟨fun w m => ?_, by rw [List.any_cons, p.2, q.2]⟩
  rcases List.mem_cons.mp m with rfl | m
  ·exact p.2.symm ▸ p.1
  ·exact q.1 w m
theorem VR.wY {x : AV} {v : Value} (h : VR S W x v) : (v == Value.none) = TG x := by
 cases x with
 | none => exact h.kM rfl
 | bool => exact h.pL rfl
 | int => exact h.jW fun _ => rfl
 | str => exact h.gh fun _ _ => rfl
 | tup => exact h.rS fun _ _ _ _ _ _ _ _ => rfl
 | lst => exact h.vi fun _ _ _ _ _ _ _ _ => rfl
 | cH => exact h.ya fun _ _ _ _ _ _ _ _ => rfl
 | pD => exact h.Gx fun _ _ _ _ _ _ => rfl
 | aQ => exact h.y5 fun _ _ => rfl
 | fn => exact h.Sr rfl
 | cls => exact h.EK rfl
 | bi b => exact h.MJ (by cases b <;> rfl)
 | ba => exact h.oz fun _ _ _ _ => rfl
 | inst => exact h.sY fun _ _ _ _ => rfl
theorem EL {P : oZ → Value → Value → Bool → Prop} {o : oZ} {x y : AV} {b : Bool} {u v : Value} (h : uB o x y = some b) (hx : VR S W x u) (hy : VR S W y v) (is : P .is u .none (u == .none)) (isn : P .isn u .none (!(u == .none)))
  (int : ∀ o f i j t t', (o, f) ∈ [(oZ.lt, fun (i j : Int) => decide (i < j)), (.gt, fun (i j : Int) => decide (j < i)), (.ge, fun (i j : Int) => decide (j ≤ i)), (.le, fun (i j : Int) => decide (i ≤ j)), (.ne, fun (i j : Int) => !(i == j)), (.eq, fun (i j : Int) => i == j)] → P o (.int i t) (.int j t') (f i j))
  (ne : ∀ (a b : List Nat) t t', P .ne (.str ⟨a.toArray⟩ t) (.str ⟨b.toArray⟩ t') (!bV a b)) (le : ∀ (a b : List Nat) t t', P .le (.str ⟨a.toArray⟩ t) (.str ⟨b.toArray⟩ t') (Ef a b))
  (eq1 : P .eq .none .none true) (eq2 : ∀ b t, P .eq .none (.str ⟨b⟩ t) false) (eq3 : ∀ a t, P .eq (.str ⟨a⟩ t) .none false) (eq4 : ∀ (a b : List Nat) t t', P .eq (.str ⟨a.toArray⟩ t) (.str ⟨b.toArray⟩ t') (bV a b)) (eq5 : ∀ a b, P .eq (.bool a) (.bool b) (a == b))
  (isin : ∀ a items n d sl vs, W.P a = some ⟨.type "tuple", d, .seq items n, sl⟩ → bP S W vs items.toList → qd x vs = some b → P .isin u (.ref a) b) (isin2 : ∀ c (s : List Nat) t t', P .isin (.str ⟨[c].toArray⟩ t) (.str ⟨s.toArray⟩ t') (s.any (Nat.beq c))) : P o u v b := by
 cases o with
 | nin => exact nn h
 | is => exact ai h fun _ h e => (hy.jK e).kM (aj h (hx.wY ▸ is))
 | isn => exact ai h fun _ h e => (hy.jK e).kM (aj h (hx.wY ▸ isn))
 | lt => exact iC h hx hy (fun i j t t' h => aj h (int _ (fun i j => decide (i < j)) i j t t' (.head _))) nn
 | gt => exact iC h hx hy (fun i j t t' h => aj h (int _ (fun i j => decide (j < i)) i j t t' (.tail _ (.head _)))) nn
 | ge => exact iC h hx hy (fun i j t t' h => aj h (int _ (fun i j => decide (j ≤ i)) i j t t' (.tail _ (.tail _ (.head _))))) nn
 | le => exact iC h hx hy (fun i j t t' h => aj h (int _ (fun i j => decide (i ≤ j)) i j t t' (.tail _ (.tail _ (.tail _ (.head _)))))) fun h => Du h hx hy (fun a b t t' h => aj h (le a b t t')) nn
 | ne => exact iC h hx hy (fun i j t t' h => aj h (int _ (fun i j => !(i == j)) i j t t' (.tail _ (.tail _ (.tail _ (.tail _ (.head _))))))) fun h => Du h hx hy (fun a b t t' h => aj h (ne a b t t')) nn
 | eq => exact CO h hx hy eq1 eq2 eq3 eq4 fun h => iC h hx hy (fun i j t t' h => aj h (int _ (fun i j => i == j) i j t t' (.tail _ (.tail _ (.tail _ (.tail _ (.tail _ (.head _)))))))) fun h => ai h fun a h e => ai h fun b h e' => (hx.xW e).pL ((hy.xW e').pL (aj h (eq5 a b)))
 | isin => exact bL h (fun vs h e => (hy.pJ e).rS fun a items n d sl e _ r => isin a items n d sl vs e r h) fun h => ai h fun l h e => ai h fun l' h e' => ai h fun c h e2 => (hy.gx e).gh fun t _ => (iM e2 ▸ hx.gx e').gh fun t' _ => aj h (isin2 c l t' t)
theorem EM {o : oZ} {x y : AV} {b : Bool} {u v : Value} {Q : Value → Shared → Prop} (h : uB o x y = some b) (hx : VR S W x u) (hy : VR S W y v) (hP : ∀ a o, W.P a = some o → s.heap.get? a = some o)
  (hq : Q (.bool b) s) : wpAny (MD S) A (compareOp (kj o) u v) Q E s := by
 revert hq
 refine EL (P := fun o u v b => Q (.bool b) s → wpAny (MD S) A (compareOp (kj o) u v) Q E s) h hx hy (fun q => is_none q) (fun q => isNot_none q) (fun o f i j t t' m q => ?_) (fun a b _ _ q => ne_str ?_) (fun a b _ _ q => P.le_str ?_) (RcAt.none_none _ _ _ _) (fun _ _ => RcAt.none_str _ _ _ _ _ _) (fun _ _ => RcAt.str_none _ _ _ _ _ _) (fun a b _ _ q => eq_str ?_)
  (fun _ _ => RcAt.bool_bool _ _ _ _ _ _) (fun a items n d sl vs e r h q => ?_) fun c s t t' q => in_str ?_
 ·simp only [List.mem_cons, List.not_mem_nil, or_false, Prod.mk.injEq] at m
  rcases m with ⟨rfl, rfl⟩ | ⟨rfl, rfl⟩ | ⟨rfl, rfl⟩ | ⟨rfl, rfl⟩ | ⟨rfl, rfl⟩ | ⟨rfl, rfl⟩
  ·exact P.lt_int q
  ·exact P.gt_int q
  ·exact P.ge_int q
  ·exact P.le_int q
  ·exact P.ne_int q
  ·exact P.eq_int q
 ·rw [bne, rQ]; exact q
 ·rw [JH] at q
  simpa using q
 ·rw [rQ]; exact q
 ·have p := Bs (A := A.in1) (s := s) hx h r
  exact in_tupleAt (fun u => Nd u _) ⟨_, hP _ _ e, rfl, n, rfl⟩ (fun w hw => p.1 w (Array.mem_toList_iff.mpr hw)) (Array.any_toList ▸ p.2.symm ▸ q)
 ·rw [StrLaws.found_one, ← any_beq]; exact q
theorem JI (l : List Nat) : (((l.length : Nat) : Int) != 0) = !l.isEmpty := by cases l <;> rfl
theorem td {α β : Type} {l : List α} {m : List β} (h : l.length = m.length) : m.isEmpty = l.isEmpty := by
 cases l <;> cases m <;> first | rfl | cases h
theorem rI {α β : Type} {items : Array α} {l : List β} (h : items.size = l.length) : items.isEmpty = l.isEmpty := by
 rw [Array.isEmpty, h]; cases l <;> simp
theorem bI.rr (I : bI S W F H s.heap) (hb : ∃ o, S.hB sysModules = some o) {n : Nat} {a : Addr} (e : W.ρ[n]? = some a) : (a == sysModules) = false := by
 obtain ⟨o, hb⟩ := hb
 have h := I.base _ _ hb
 refine Bool.eq_false_iff.mpr fun z => ?_
 have : a = sysModules := by simpa using z
 rw [this] at e
 rw [I.ρp _ (List.mem_of_getElem? e)] at h; cases h
@[elab_as_elim] theorem VR.tupI {P : Value → Prop} {vs : List AV} {v : Value} (h : VR S W (.tup vs) v) (I : bI S W F H s.heap) (k : ∀ a items, s.heap.IsTuple a items → items.size = vs.length → vs.length ≤ dD → bP S W vs items.toList → P (.ref a)) : P v :=
 h.rS fun a items n _ _ e z r => k a items ⟨_, I.p _ _ e, rfl, n, rfl⟩ r.size z r
@[elab_as_elim] theorem VR.JL {P : Value → Prop} {vs : List AV} {v : Value} (h : VR S W (.lst vs) v) (I : bI S W F H s.heap) (k : ∀ a items, s.heap.IsList a items → items.size = vs.length → vs.length ≤ dD → bP S W vs items.toList → P (.ref a)) : P v :=
 h.vi fun a items n _ _ e z r => k a items ⟨_, I.p _ _ e, rfl, n, rfl⟩ r.size z r
@[elab_as_elim] theorem VR.y6 {P : Value → Prop} {n : Nat} {vs : List AV} {v : Value} (h : VR S W (.aQ n) v) (I : bI S W F H s.heap) (e : eJ H n = some vs) (k : ∀ a items m, W.ρ[n]? = some a → s.heap.get? a = some { cls := .type "list", data := .seq items m } → items.size = vs.length → vs.length ≤ dD → bP S W vs items.toList → P (.ref a)) : P v :=
 h.y5 fun a e' => Exists.elim (I.hs n a _ e' (om e)) fun o x => (OR.listE (P := fun o => s.heap.get? a = some o → P (.ref a)) x.2 fun items m z r g => k a items m e' g r.size z r) x.1
@[elab_as_elim] theorem VR.FK {P : Value → Prop} {n : Nat} {aN : List (Nm × AV)} {v : Value} (h : VR S W (.aQ n) v) (I : bI S W F H s.heap) (e : gq H n = some aN) (k : ∀ a o ps, W.ρ[n]? = some a → s.heap.get? a = some o → jf S o ps → aN.length ≤ dD → eN S W aN ps → P (.ref a)) : P v :=
 h.y5 fun a e' => Exists.elim (I.hs n a _ e' (sG e)) fun o x => x.2.wF rfl fun ps d z r => k a o ps e' x.1 d z r
@[elab_as_elim] theorem VR.Gy {P : Value → Prop} {x : AV} {vs : List AV} {v : Value} (h : VR S W x v) (I : bI S W F H s.heap) (e : zu H x = some vs) (k : ∀ a items, s.heap.IsList a items → items.size = vs.length → vs.length ≤ dD → bP S W vs items.toList → P (.ref a)) : P v :=
 bL e (fun vs' e e' => (h.vY (e'.trans e)).JL I k) fun e => ai e fun n e e' => (h.dU e').y6 I e fun a items m _ g => k a items ⟨_, g, rfl, m, rfl⟩
theorem px : typeLookup (.type "method") "__bool__" = pure none := by rw [typeLookup_type, builtinLookup_eq_fast]; kernel_rfl
theorem rp : typeLookup (.type "method") "__len__" = pure none := by rw [typeLookup_type, builtinLookup_eq_fast]; kernel_rfl
theorem pH {a : Addr} {f v : Value} {Q : Bool → Shared → Prop} (e : s.heap.get? a = some (methodObj f v)) (hq : Q true s) : wpAny (MD S) A (truthy (.ref a)) Q E s := by
 have hT : s.TypeIs (.ref a) "method" := ⟨_, e, rfl⟩
 unfold truthy
 refine wpAny_bind (wpAny_callSpecial?_none (name := Str.ofString "__bool__") hT px ?_)
 refine wpAny_bind (wpAny_specialOf (name := Str.ofString "__len__") hT rp ?_)
 exact wpAny_pure hq
theorem oW {a : Addr} {items : Array Value} {vs : List AV} {Q : Bool → Shared → Prop} (g : s.heap.IsList a items) (e : items.size = vs.length) (z : vs.length ≤ dD) (hq : ∀ t, Q (!vs.isEmpty) { s with toks := t }) : wpAny (MD S) A (truthy (.ref a)) Q E s :=
 wpAny_truthy_list g (e ▸ iL z) (rI e ▸ hq _)
theorem zJ {x : AV} {b : Bool} {u : Value} {Q : Bool → Shared → Prop} (h : bt H x = some b) (hx : VR S W x u) (I : bI S W F H s.heap) (hb : ∃ o, S.hB sysModules = some o)
  (hq : ∀ t, Q b { s with toks := t }) : wpAny (MD S) A (truthy u) Q E s := by
 cases x with
 | none => exact hx.kM (truthy_none (aj h.symm (hq _)))
 | bool _ => exact hx.pL (wpAny_truthy_bool (aj h.symm (hq _)))
 | int i => exact hx.jW fun t => P.truthy_int ((Option.some.inj h : (i != 0) = b) ▸ hq s.toks)
 | str l => exact hx.gh fun t z => P.truthy_str (Int.not_le.mpr (iL z)) (((JI l).trans (Option.some.inj h) : (((l.length : Nat) : Int) != 0) = b) ▸ hq (s.toks + 1 + 1))
 | lst vs => exact hx.JL I fun a items g e z _ => oW g e z fun t => aj h.symm (hq t)
 | aQ i => exact bL h (fun vs h e => hx.y6 I e fun a items m _ g e z _ => oW ⟨_, g, rfl, m, rfl⟩ e z fun t => aj h.symm (hq t)) fun h => ai h fun aN h e => hx.FK I e fun a o ps e' g d z r => wpAny_truthy_dict (I.rr hb e') (d.at g) (r.length ▸ iL z) (td r.length ▸ aj h.symm (hq _))
 | ba _ _ => exact hx.oz fun a w e r => pH (I.p _ _ e) (aj h.symm (hq _))
 | _ => exact nn h
end
end
section
open PySem.Builtin.Str PySem.StrLaws
theorem x6 (i : Int) (n : Nat) : dn i n ≤ n := Int.ofNat_le.mp (clipAt_cast n i ▸ Int.max_le.mpr ⟨Int.natCast_nonneg n, Int.min_le_right ..⟩)
noncomputable def jh (d n : Nat) : Option Int → Nat
 | none => d
 | some i => dn i n
theorem qA {d n : Nat} (h : d ≤ n) (o : Option Int) : jh d n o ≤ n := by
 cases o
 ·exact h
 ·exact x6 _ _
theorem wm {α : Type} (l : List α) (a b : Nat) : eQ l a b = (l.drop a).take (b - a) := by
 unfold eQ; rw [List.drop_take]
theorem pK (d n : Nat) (l : Option Int) : (match l with | none => (d : Int) | some i => max 0 (min (if i < 0 then i + (n : Int) else i) n)) = (jh d n l : Int) := by
 cases l with
 | none => rfl
 | some i => exact (clipAt_cast n i).symm
theorem jF (l u : Option Int) (n : Nat) : strSliceIndices l u 1 n = sliceRange (jh 0 n l) (jh n n u) 1 := by
 rw [← pK, ← pK]
 cases l <;> cases u <;> rfl
theorem zy (l u : Option Int) (n : Nat) : strSliceIndices l u 1 n = strSliceIndices (some (jh 0 n l : Int)) (some (jh n n u : Int)) 1 n := by
 have z : ∀ {d : Nat} (k : Nat), k ≤ n → jh d n (some (k : Int)) = k := fun k h => (clipAt_nat n k).trans (Nat.min_eq_left h)
 rw [jF, jF, z _ (qA (Nat.zero_le _) l), z _ (qA (Nat.le_refl _) u)]
theorem xG {x : Str} {l u l' u' : Option Int} (e : strSliceIndices l u 1 x.length = strSliceIndices l' u' 1 x.length) : sliceText x l u = sliceText x l' u' := by
 unfold sliceText; rw [e]
theorem zx (s : List Nat) (l u : Option Int) : Txt.slice ⟨s.toArray⟩ l u = ⟨(eQ s (jh 0 s.length l) (jh s.length s.length u)).toArray⟩ := by
 show sliceText ⟨s.toArray⟩ l u = _
 rw [xG (x := ⟨s.toArray⟩) (zy l u s.length), wm]
 have hb := qA (Nat.le_refl s.length) u
 generalize jh 0 s.length l = a
 generalize jh s.length s.length u = b at hb ⊢
 rcases Nat.le_total a b with h | h
 ·exact sliceText_nat ⟨s.toArray⟩ h hb
 ·have e : strSliceIndices (some (a : Int)) (some (b : Int)) 1 s.length = strSliceIndices (some (b : Int)) (some (b : Int)) 1 s.length := by
   rw [jF, jF]
   have m : ∀ {x : Nat} {d : Nat}, jh d s.length (some (x : Int)) = min x s.length := clipAt_nat _ _
   rw [m, m, m, sliceRange_one, sliceRange_one]
   rw [Nat.sub_self, Nat.sub_eq_zero_of_le (Nat.le_min.mpr ⟨Nat.le_trans (Nat.min_le_left ..) h, Nat.min_le_right ..⟩)]; rfl
  rw [xG (x := ⟨s.toArray⟩) e, sliceText_nat ⟨s.toArray⟩ (Nat.le_refl b) hb, Nat.sub_self, Nat.sub_eq_zero_of_le h, List.take_zero, List.take_zero]
theorem CZ (items : Array Value) (l u : Option Int) : slicePick items l u none = (eQ items.toList (jh 0 items.size l) (jh items.size items.size u)).toArray := by
 rw [slicePick_plain, wm]
 cases l <;> cases u <;> rfl
end
section
open PySem.Builtin.Str PySem.StrLaws
theorem qP {P : Prop} {i : Int} {n j : Nat} (h : idx i n = some j) (k : j < n → 0 ≤ i → j = i.toNat → P) (k' : j < n → i < 0 → 0 ≤ i + n → j = (i + n).toNat → P) : P :=
 bC h (fun h c => fZ h fun c' e => k (e ▸ of_decide_eq_true c') (of_decide_eq_true c) e.symm) fun h c => fZ h fun c' e => have c := Int.not_le.mp (of_decide_eq_false c)
  have c' := of_decide_eq_true c'
  k' (by omega) c c' e.symm
theorem u4 {i : Int} {n j : Nat} (h : idx i n = some j) : j < n := qP h (fun a _ _ => a) fun a _ _ _ => a
theorem wQ {i : Int} {n j : Nat} (h : idx i n = some j) : seqIndex? i n = some j := by
 refine qP h (fun a b e => ?_) fun a b c e => ?_
 ·have b' : ¬ i < 0 := Int.not_lt.mpr b
  have q : i < n := (Int.toNat_lt b).mp (e ▸ a)
  unfold seqIndex?
  simp only [b', if_false, b, q, decide_true, Bool.and_self, if_true, e]
 ·have q : i + n < n := by omega
  unfold seqIndex?
  simp only [b, if_true, c, q, decide_true, Bool.and_self, e]
theorem nR {n j : Nat} {i : Int} (z : n ≤ dD) (h : idx i n = some j) : -(2 ^ 63) ≤ i ∧ i < 2 ^ 63 := by
 have z := iL z
 refine qP h (fun a b e => ?_) fun a b c e => ?_
 ·have q : i < n := (Int.toNat_lt b).mp (e ▸ a)
  omega
 ·omega
theorem oB {k : Nm} {s : List Nat} : bV (CB k) s = true ↔ bz k = ⟨s.toArray⟩ := by
 rw [gy]
 exact ⟨fun h => congrArg (fun l : List Nat => (⟨l.toArray⟩ : Str)) (eq_of_beq h), fun h => beq_iff_eq.mpr (by have := congrArg (fun x : Str => x.cps.toList) h; exact this)⟩
section
variable {S : aP} {W W' : Wd} {F : Addr → Option Obj} {H : List AO} {fm : Fm} {σ : St} {s : Shared} {A : Around} {E : Value → Shared → Prop}
theorem DZ {k : Str} {v : Value} {ps : List (Str × Value)} : valueAt ((k, v) :: ps) k = some v := by simp [valueAt]
theorem D0 {k k' : Str} {v : Value} {ps : List (Str × Value)} (h : k ≠ k') : valueAt ((k, v) :: ps) k' = valueAt ps k' := by simp [valueAt, List.find?_cons, h]
theorem eN.JK {aN : List (Nm × AV)} {ps : List (Str × Value)} (h : eN S W aN ps) {s : List Nat} {r : AV} (e : JK aN s = some r) : ∃ v, valueAt ps ⟨s.toArray⟩ = some v ∧ VR S W r v := by
 induction aN generalizing ps with
 | nil => exact nn e
 | cons p q ih =>
  exact h.b7 fun v vs x y => bC e (fun e c => aj (P := fun r => ∃ v, valueAt _ _ = some v ∧ VR S W r v) e ⟨v, oB.mp c ▸ DZ, x⟩) fun e c => Exists.elim (ih y e) fun u z => ⟨u, (D0 fun w => Bool.false_ne_true (c.symm.trans (oB.mpr w))).trans z.1, z.2⟩
theorem eN.U5 {aN : List (Nm × AV)} {ps : List (Str × Value)} (h : eN S W aN ps) (k : Nm) : match Mine.lk aN k with
  | some r => ∃ v, valueAt ps (bz k) = some v ∧ VR S W r v
  | none => valueAt ps (bz k) = none := by
 induction aN generalizing ps with
 | nil => exact h.jc rfl
 | cons p q ih =>
  refine h.b7 fun v vs x y => ?_
  rw [c9]
  by_cases c : p.1 = k
  ·rw [if_pos c]; exact ⟨v, c ▸ DZ, x⟩
  ·rw [if_neg c, D0 fun w => c (iU w)]; exact ih y
theorem eN.lk {aN : List (Nm × AV)} {ps : List (Str × Value)} (h : eN S W aN ps) {k : Nm} {r : AV} (e : lk aN k = some r) : ∃ v, valueAt ps (bz k) = some v ∧ VR S W r v := by
 have := h.U5 k
 rwa [e] at this
theorem eN.rd {aN : List (Nm × AV)} {ps : List (Str × Value)} (h : eN S W aN ps) {k : Nm} (e : Mine.lk aN k = none) : valueAt ps (bz k) = none := by
 have := h.U5 k
 rwa [e] at this
theorem rB : 1 ≤ dD := by decide
inductive Mc (S : aP) (W : Wd) (s : Shared) (r : AV) : Value → Value → Prop
 | str (l : List Nat) (i : Int) (t t' : Tok) (j : Nat) : l.length ≤ dD → idx i l.length = some j → r = .str [l.getD j 0] → Mc S W s r (.str ⟨l.toArray⟩ t) (.int i t')
 | tup (a : Addr) (items : Array Value) (i : Int) (t : Tok) (j n : Nat) (v : Value) : s.heap.IsTuple a items → items.size = n → n ≤ dD → idx i n = some j → items[j]? = some v → VR S W r v → Mc S W s r (.ref a) (.int i t)
 | lst (a : Addr) (items : Array Value) (i : Int) (t : Tok) (j n : Nat) (v : Value) : s.heap.IsList a items → items.size = n → n ≤ dD → idx i n = some j → items[j]? = some v → VR S W r v → Mc S W s r (.ref a) (.int i t)
 | cH (a : Addr) (ps : List (Str × Value)) (l : List Nat) (t : Tok) (v : Value) : s.heap.DictOf (PySem.strKind S.prog S.w) a ps → valueAt ps ⟨l.toArray⟩ = some v → VR S W r v → Mc S W s r (.ref a) (.str ⟨l.toArray⟩ t)
theorem bP.Np {vs : List AV} {items : Array Value} (h : bP S W vs items.toList) {j : Nat} (hi : j < vs.length) {P : Prop} (k : ∀ v, items[j]? = some v → VR S W (vs.getD j .none) v → P) : P :=
 Exists.elim (h.get hi) fun v x => k v (Array.getElem?_toList.symm.trans x.1) x.2
theorem Nz {x k r : AV} {o i : Value} (h : lW H x k = some r) (hx : VR S W x o) (hk : VR S W k i) (I : bI S W F H s.heap) : Mc S W s r o i :=
 bL h (fun i' h e => (hk.je e).jW fun t => bL h (fun l h e => (hx.gx e).gh fun t' z => gQ h fun j q e => .str l i' t' t j z e q.symm) fun h => bL h (fun vs h e => (hx.pJ e).tupI I fun a items g e z rs => gQ h fun j q e' => rs.Np (u4 e') fun v w x => .tup a items i' t j _ v g e z e' w (q ▸ x)) fun h => ai h fun vs h e => hx.Gy I e fun a items g e z rs => gQ h fun j q e' => rs.Np (u4 e') fun v w x => .lst a items i' t j _ v g e z e' w (q ▸ x)) fun h => ai h fun l h e => (hk.gx e).gh fun t _ => bL h (fun es h e => (hx.z7 e).ya fun a o ps e d _ _ rs => Exists.elim (rs.JK h) fun v q => .cH a ps l t v (d.at (I.p _ _ e)) q.1 q.2) fun h => ai h fun n h e => ai h fun es h e' => (hx.dU e).FK I e' fun a o ps _ g d _ rs => Exists.elim (rs.JK h) fun v q => .cH a ps l t v (d.at g) q.1 q.2
theorem BM {x k r : AV} {o i : Value} {Q : Value → Shared → Prop} (h : lW H x k = some r) (hx : VR S W x o) (hk : VR S W k i) (I : bI S W F H s.heap)
  (hq : ∀ v t, VR S W r v → Q v { s with toks := t }) :
  ∃ T id, s.TypeIs o T ∧ typeLookup (.type T) "__getitem__" = pure (some (.builtin id)) ∧ wpAny (MD S) A (getItem o i) Q E s := by
 have R := Nz h hx hk I
 clear h hx hk
 cases R with
 | str l i t t' j z e q =>
  have f := nR z e
  refine ⟨"str", _, typeIs_str _ _ _, PySem.F.slot_str_getitem.lookup, P.getItem_str (c := l.getD j 0) ?_ ?_ (hq _ _ (q ▸ .str [_] _ rB))⟩
  ·rw [decide_eq_false (Int.not_lt.mpr f.1), decide_eq_false (Int.not_le.mpr f.2)]; rfl
  ·rw [oQ, wQ e]
   have a := u4 e
   simp [a]
 | tup a items i t j n v g e z e' w x =>
  have f := nR z e'
  have g : IsTup s.heap a items := g
  exact ⟨_, _, g.typeIs, slot_tuple_getitem.lookup, getItem_tuple g f.1 f.2 (e ▸ wQ e') w (hq v s.toks x)⟩
 | lst a items i t j n v g e z e' w x =>
  have f := nR z e'
  refine ⟨_, _, g.typeIs, slot_list_getitem.lookup, qP e' (fun _ b c => ?_) fun _ b c d => ?_⟩
  ·exact wpAny_getItem_list g b f.2 (c ▸ w) (hq v s.toks x)
  ·exact wpAny_getItem_list_neg g b (e ▸ by omega) f.1 (e ▸ d ▸ w) (hq v s.toks x)
 | cH a ps l t v g e x => exact ⟨_, _, g.typeIs, slot_dict_getitem.lookup, wpAny_getItem_of (strKind_is _ _ _ _) g.mapOf e (hq v _ x)⟩
end
end
section
open PySem.Builtin.Str PySem.StrLaws
section
variable {S : aP} {W W' : Wd} {F : Addr → Option Obj} {H : List AO} {fm : Fm} {σ : St} {s : Shared} {A : Around} {E : Value → Shared → Prop}
theorem bP.cut {vs : List AV} {us : List Value} (h : bP S W vs us) (a b : Nat) : bP S W (eQ vs a b) (eQ us a b) := (h.take b).drop a
theorem sx {α : Type} (l : List α) (a b : Nat) : (eQ l a b).length ≤ l.length := by
 rw [eQ, List.length_drop]
 exact Nat.le_trans (Nat.sub_le ..) (List.length_take_le' ..)
@[elab_as_elim] theorem Ai {P : Value → Prop} {d n : Nat} {x : AV} {v : Value} {j : Nat} (h : S3 d n x = some j) (hx : VR S W x v) (k : ∀ o : Option (Int × Tok), IsPart (partValue o) (o.map (·.1)) → jh d n (o.map (·.1)) = j → P (partValue o)) : P v :=
 bL h (fun _ h e => (hx.jK e).kM (k none .none (Option.some.inj h))) fun h => ai h fun i h e => (hx.je e).jW fun t => k (some (i, t)) (.int i t) (Option.some.inj h)
theorem wd {P : Value → Value → AV → Prop} {n : Nat} {lo hi r : AV} {l u : Value} {f : Nat → Nat → AV} (h : ID n lo hi f = some r) (hl : VR S W lo l) (hu : VR S W hi u)
  (k : ∀ (ol ou : Option (Int × Tok)), IsPart (partValue ol) (ol.map (·.1)) → IsPart (partValue ou) (ou.map (·.1)) → P (partValue ol) (partValue ou) (f (jh 0 n (ol.map (·.1))) (jh n n (ou.map (·.1))))) : P l u r :=
 ai h fun a h e => ai h fun b h e' => Ai (P := fun l => P l u r) e hl fun ol pl ea => Ai (P := fun u => P (partValue ol) u r) e' hu fun ou pu eb => aj h (ea ▸ eb ▸ k ol ou pl pu)
theorem Ld {x lo hi r : AV} {o l u : Value} (h : zw σ.H x lo hi = some r) (hx : VR S W x o) (hl : VR S W lo l) (hu : VR S W hi u) (I : Inv S W F fm σ s.heap) :
  ∃ T id, (∀ h' g d t os, Shared.TypeIs ⟨s.heap.push h', g, d, t, os⟩ o T) ∧ typeLookup (.type T) "__getitem__" = pure (some (.builtin id)) ∧
   wpAny (MD S) A (getItem o (.ref s.heap.objs.size)) (bH S W F fm σ s (VP S r)) E { s with heap := s.heap.push { cls := .type "slice", data := .fields #[l, u, .none] } } := by
 refine bL h (fun str h e => (hx.gx e).gh fun t z => ⟨"str", _, fun h' g d t os => typeIs_str _ _ _, PySem.F.slot_str_getitem.lookup, ?_⟩) fun h => ai h fun vs h e => hx.Gy I.tobI e fun a items il hs z rs => ⟨_, _, fun h' g d t os => Heap.IsList.typeIs (s := ⟨s.heap.push h', g, d, t, os⟩) (il.push _), slot_list_getitem.lookup, ?_⟩
 ·refine wd (P := fun l u r => wpAny (MD S) A (getItem (.str ⟨str.toArray⟩ t) (.ref s.heap.objs.size)) (bH S W F fm σ s (VP S r)) E { s with heap := s.heap.push { cls := .type "slice", data := .fields #[l, u, .none] } }) h hl hu fun ol ou pl pu => ?_
  refine wpAny_getItem_str_slice (l := ol) (u := ou) (st := none) ⟨_, Heap.get?_push_size _ rfl, rfl, rfl⟩ rfl (post_val_or_str ⟨Nat.le_trans (Txt.slice_le _ _ _) (cX z), fun t' k' => ⟨W, .refl W, ?_, I.push _, rfl, rfl⟩⟩)
  show VR S W _ (.str (Txt.slice _ (ol.map (·.1)) (ou.map (·.1))) t')
  rw [zx]
  exact .str _ _ (Nat.le_trans (sx ..) z)
 ·refine wd (P := fun l u r => wpAny (MD S) A (getItem (.ref a) (.ref s.heap.objs.size)) (bH S W F fm σ s (VP S r)) E { s with heap := s.heap.push { cls := .type "slice", data := .fields #[l, u, .none] } }) h hl hu fun ol ou pl pu => ?_
  refine wpAny_getItem_list_slice (il.push _) (Heap.IsSliceOf.new ..) pl pu .none (by decide) ?_ (hs ▸ cX z)
  exact bH.new (I.push _) rfl fun W' L e => .lst e (Nat.le_trans (sx ..) z) (by rw [CZ, hs]; exact (rs.mono L).cut _ _)
end
end
section
open PySem.Builtin PySem.Builtin.Str PySem.StrLaws
section
theorem subAt_one (s : List Nat) (c i : Nat) : subAt ⟨s.toArray⟩ ⟨#[c]⟩ i = decide (s[i]? = some c) := by
 unfold subAt
 show ((s.toArray.extract i (i + 1)) == #[c]) = _
 by_cases h : i < s.length
 ·have e : s.toArray.extract i (i + 1) = #[s[i]] := by
   apply Array.ext'
   simp only [List.extract_toArray]
   rw [List.extract_eq_take_drop, List.drop_eq_getElem_cons h, Nat.add_sub_cancel_left]
   rfl
  rw [e, List.getElem?_eq_getElem h]
  by_cases q : s[i] = c <;> simp [q]
 ·have e : s.toArray.extract i (i + 1) = #[] := by
   apply Array.ext'
   simp; omega
  rw [e]
  have : s[i]? = none := by simp; omega
  rw [this]; simp
theorem rz (s : List Nat) (c hi lim : Nat) : ∀ (m a : Nat) (f : Array Nat) (free : Nat), free ≤ a → f.size + m ≤ lim →
  (forIn (List.range' a m) (f, free) (occBody ⟨s.toArray⟩ ⟨#[c]⟩ hi lim)).run.fst.size = f.size + (List.range' a m).countP (fun i => decide (i + 1 ≤ hi) && decide (s[i]? = some c))
 | 0, a, f, free, _, _ => by simp
 | m + 1, a, f, free, h1, h2 => by
  rw [List.range'_succ, List.forIn_cons, List.countP_cons]
  unfold occBody
  by_cases q : a + 1 ≤ hi ∧ s[a]? = some c
  ·have q2 : ((f.size < lim ∧ free ≤ a) ∧ a + (⟨#[c]⟩ : Str).length ≤ hi) ∧ subAt ⟨s.toArray⟩ ⟨#[c]⟩ a = true := ⟨⟨⟨by omega, h1⟩, q.1⟩, by rw [subAt_one]; exact decide_eq_true q.2⟩
   simp only [q2]
   have := rz s c hi lim m (a + 1) (f.push a) (a + 1) (Nat.le_refl _) (by simp; omega)
   unfold occBody at this
   simp only [q.1, q.2, decide_true, Bool.and_self, if_true]
   refine Eq.trans this ?_
   simp; omega
  ·have q2 : ¬ (((f.size < lim ∧ free ≤ a) ∧ a + (⟨#[c]⟩ : Str).length ≤ hi) ∧ subAt ⟨s.toArray⟩ ⟨#[c]⟩ a = true) := fun z => q ⟨z.1.2, by have := z.2; rw [subAt_one] at this; exact of_decide_eq_true this⟩
   have q3 : (decide (a + 1 ≤ hi) && decide (s[a]? = some c)) = false := by
    rw [Bool.eq_false_iff]; intro z
    exact q (by simpa using z)
   simp only [q2, if_false, q3]
   have := rz s c hi lim m (a + 1) f free (by omega) (by omega)
   unfold occBody at this
   exact this
theorem qD (s : List Nat) (c : Nat) (n : Nat) (h : n ≤ s.length) : (List.range n).countP (fun i => decide (s[i]? = some c)) = (s.take n).count c := by
 induction n with
 | zero => simp
 | succ n ih =>
  have ih := ih (by omega)
  have hn : n < s.length := by omega
  rw [List.range_succ, List.countP_append, ih, List.take_add_one, List.count_append]
  rw [List.countP_cons, List.countP_nil, List.getElem?_eq_getElem hn, Option.toList_some, List.count_cons, List.count_nil]
  by_cases e : s[n] = c <;> simp [e]
theorem ze (s : List Nat) (c hi lim : Nat) (h : hi ≤ s.length) (hl : hi + 1 ≤ lim) : (occurrences ⟨s.toArray⟩ ⟨#[c]⟩ 0 hi lim).length = (s.take hi).count c := by
 rw [occ_eq, Array.length_toList, rz s c hi lim _ _ _ _ (Nat.le_refl _) (by simp; omega)]
 show 0 + _ = _
 rw [Nat.zero_add, ← qD s c hi h, Nat.sub_zero, ← List.range_eq_range', List.range_succ, List.countP_append]
 have e1 : (List.range hi).countP (fun i => decide (i + 1 ≤ hi) && decide (s[i]? = some c)) = (List.range hi).countP (fun i => decide (s[i]? = some c)) := by
  apply List.countP_congr
  intro i hi'
  have := List.mem_range.mp hi'
  have : i + 1 ≤ hi := by omega
  simp [this]
 rw [e1]; simp; omega
noncomputable def lastBody (s sub : Str) (hi : Nat) (i : Nat) (l : Option Nat) : Id (ForInStep (Option Nat)) :=
 if i + sub.length ≤ hi ∧ subAt s sub i = true then pure (ForInStep.yield (some i)) else pure (ForInStep.yield l)
theorem last_eq (s sub : Str) (lo hi : Nat) : lastOccurrence s sub lo hi = (forIn (List.range' lo (hi + 1 - lo)) none (lastBody s sub hi)).run := by
 unfold lastOccurrence lastBody
 simp
noncomputable def xd : Option Nat → Int
 | some i => i
 | none => -1
theorem lA (s : List Nat) (c hi : Nat) : ∀ (l : List Nat) (st : Option Nat), xd (forIn l st (lastBody ⟨s.toArray⟩ ⟨#[c]⟩ hi)).run = l.foldl (fun (z : Int) (i : Nat) => if i + 1 ≤ hi ∧ s[i]? = some c then (i : Int) else z) (xd st)
 | [], st => rfl
 | a :: l, st => by
  rw [List.forIn_cons, List.foldl_cons]
  unfold lastBody
  rw [subAt_one]
  by_cases q : a + 1 ≤ hi ∧ s[a]? = some c
  ·have q2 : a + (⟨#[c]⟩ : Str).length ≤ hi ∧ decide (s[a]? = some c) = true := ⟨q.1, by simp [q.2]⟩
   rw [if_pos q2, if_pos q]
   exact lA s c hi l (some a)
  ·have q2 : ¬ (a + (⟨#[c]⟩ : Str).length ≤ hi ∧ decide (s[a]? = some c) = true) := fun z => q ⟨z.1, by simpa using z.2⟩
   rw [if_neg q2, if_neg q]
   exact lA s c hi l st
theorem kz {α β : Type} {f g : β → α → β} : ∀ {l : List α} {b : β}, (∀ a ∈ l, ∀ b, f b a = g b a) → l.foldl f b = l.foldl g b
 | [], _, _ => rfl
 | a :: l, b, h => by
  rw [List.foldl_cons, List.foldl_cons, h a (.head _)]
  exact kz fun x hx => h x (.tail _ hx)
theorem FN (s : List Nat) (c hi : Nat) (h : hi ≤ s.length) : xd (lastOccurrence ⟨s.toArray⟩ ⟨#[c]⟩ 0 hi) = c7 c (s.take hi) := by
 rw [last_eq, lA, Nat.sub_zero, ← List.range_eq_range', List.range_succ, List.foldl_append]
 have hn : ¬ (hi + 1 ≤ hi ∧ s[hi]? = some c) := by omega
 show (if hi + 1 ≤ hi ∧ s[hi]? = some c then (hi : Int) else _) = _
 rw [if_neg hn]
 unfold c7
 have hl : (s.take hi).length = hi := by simp; omega
 rw [hl]
 apply kz
 intro i hi' b
 have := List.mem_range.mp hi'
 have h1 : i + 1 ≤ hi := by omega
 have h2 : (s.take hi)[i]? = s[i]? := by rw [List.getElem?_take]; simp [this]
 simp [h1, h2]
end
end
section
open PySem.Builtin PySem.Builtin.Str PySem.StrLaws
section
variable {S : aP} {W W' : Wd} {F : Addr → Option Obj} {H : List AO} {fm : Fm} {σ : St} {s : Shared} {A : Around} {E : Value → Shared → Prop}
theorem Fq {vs : List AV} {l : List Int} (h : qe vs = some l) {us : List Value} (r : bP S W vs us) : ∃ xs : List (Int × Tok), us = xs.map (fun p => .int p.1 p.2) ∧ xs.map (·.1) = l := by
 induction vs generalizing l us with
 | nil => exact r.jc ⟨[], rfl, Option.some.inj h⟩
 | cons v q ih => exact r.b7 fun u us r1 r2 => ai h fun i h e => gQ h fun l' q e' => (r1.je e).jW fun t => Exists.elim (ih e' r2) fun xs z => ⟨(i, t) :: xs, congrArg _ z.1, (congrArg _ z.2).trans q⟩
@[elab_as_elim] theorem bP.jb {P : List Value → Prop} {as : List AV} {vs : List Value} {x : AV} (h : bP S W as vs) (e : jb as = some x) (k : ∀ v, VR S W x v → P [v]) : P vs := (iM e ▸ h : bP S W [x] vs).one k
@[elab_as_elim] theorem bP.xV {P : List Value → Prop} {as : List AV} {vs : List Value} {x : AV × AV} (h : bP S W as vs) (e : xV as = some x) (k : ∀ v u, VR S W x.1 v → VR S W x.2 u → P [v, u]) : P vs := (z6 e ▸ h : bP S W [x.1, x.2] vs).two k
@[elab_as_elim] theorem bP.Hc {P : List Value → Prop} {as : List AV} {vs : List Value} {x : AV × AV × AV} (h : bP S W as vs) (e : Hc as = some x) (k : ∀ v u w, VR S W x.1 v → VR S W x.2.1 u → VR S W x.2.2 w → P [v, u, w]) : P vs := (Il e ▸ h : bP S W [x.1, x.2.1, x.2.2] vs).three k
theorem Iz {P : Bi → List Value → AV × List Nat → Prop} {b : Bi} {as : List AV} {vs : List Value} {p : AV × List Nat} (h : Ea H b as = some p) (rs : bP S W as vs) (I : bI S W F H s.heap)
  (lenS : ∀ (l : List Nat) t, l.length ≤ dD → P .len [.str ⟨l.toArray⟩ t] (.int l.length, [])) (lenL : ∀ a items n, s.heap.IsList a items → items.size = n → n ≤ dD → P .len [.ref a] (.int n, []))
  (lenT : ∀ a items n, s.heap.IsTuple a items → items.size = n → n ≤ dD → P .len [.ref a] (.int n, [])) (ord : ∀ c t, P .ord [.str ⟨[c].toArray⟩ t] (.int c, []))
  (chr : ∀ i t, 0 ≤ i → i < 55296 → P .chr [.int i t] (.str [i.toNat], [])) (sum : ∀ a items (xs : List (Int × Tok)), s.heap.IsList a items → items.toList = xs.map (fun p => .int p.1 p.2) → P .sum [.ref a] (.int (xs.map (·.1)).sum, []))
  (range : ∀ i t, 0 ≤ i → P .range [.int i t] (.pD i.toNat, [i.toNat])) (max : ∀ i j t t', P .max [.int i t, .int j t'] (.int (max i j), [])) (min : ∀ i j t t', P .min [.int i t, .int j t'] (.int (min i j), []))
  (inst : ∀ b, P .lx [.bool b, Hg .bool] (.bool true, [])) : P b vs p := by
 cases b with
 | bool => exact nn h
 | len => exact ai h fun x h e => rs.jb e fun v r1 => bL h (fun l h e => (r1.gx e).gh fun t z => aj h (lenS l t z)) fun h => bL h (fun l h e => r1.Gy I e fun a items g e z _ => aj h (lenL a items _ g e z)) fun h => ai h fun l h e => (r1.pJ e).tupI I fun a items g e z _ => aj h (lenT a items _ g e z)
 | ord => exact ai h fun x h e => rs.jb e fun v r1 => ai h fun l h e => ai h fun c h e' => (iM e' ▸ r1.gx e : VR S W (.str [c]) v).gh fun t _ => aj h (ord c t)
 | chr => exact ai h fun x h e => rs.jb e fun v r1 => ai h fun i h e => (r1.je e).jW fun t => fZ h fun c q => q ▸ chr i t (of_decide_eq_true (aX c).1) (of_decide_eq_true (aX c).2)
 | sum => exact ai h fun x h e => rs.jb e fun v r1 => ai h fun l h e => gQ h fun l' q e' => (r1.vY e).JL I fun a items g _ _ r => Exists.elim (Fq e' r) fun xs z => q ▸ z.2 ▸ sum a items xs g z.1
 | range => exact ai h fun x h e => rs.jb e fun v r1 => ai h fun i h e => (r1.je e).jW fun t => fZ h fun c q => q ▸ range i t (of_decide_eq_true c)
 | max => exact ai h fun x h e => rs.xV e fun v u r1 r2 => iC (P := fun v u => P .max [v, u] p) h r1 r2 (fun i j t t' h => aj h (max i j t t')) nn
 | min => exact ai h fun x h e => rs.xV e fun v u r1 r2 => iC (P := fun v u => P .min [v, u] p) h r1 r2 (fun i j t t' h => aj h (min i j t t')) nn
 | lx => exact ai h fun x h e => rs.xV e fun v u r1 r2 => ai h fun b h e => ai h fun _ h e' => (r1.xW e).pL ((r2.lg e').MJ (aj h (inst b)))
theorem IA {b : Bi} {as : List AV} {vs : List Value} {p : AV × List Nat} (h : Ea σ.H b as = some p) (rs : bP S W as vs) (I : Inv S W F fm σ s.heap) (hh : A.handled = none)
  (hz : ∀ n ∈ p.2, n ≤ dD) : wpAny (MD S) A (call (Hg b) vs) (bH S W F fm σ s (VP S p.1)) E s := by
 revert hz
 refine Iz (P := fun b vs p => (∀ n ∈ p.2, n ≤ dD) → wpAny (MD S) A (call (Hg b) vs) (bH S W F fm σ s (VP S p.1)) E s) h rs I.tobI (fun l t z _ => P.len_str (Int.not_le.mpr (iL z)) (bH.tok I (.int _ _))) (fun a items n g e z _ => call_len_list g (e ▸ iL z) (bH.tok I (e ▸ .int _ _)))
  (fun a items n g e z _ => PyProof.Rows.len_tuple g (e ▸ iL z) (bH.tok I (e ▸ .int _ _))) (fun c t _ => P.ord_of_char (bH.tok I (.int _ _))) (fun i t h0 h1 _ => P.chr_of_int (by simp; omega) (bH.tok I (.str [_] _ rB))) (fun a items xs g e _ => ?_)
  (fun i t h0 hz => ?_) (fun i j t t' _ => max_two_ints hh fun h' tk k => bH.heap I k ?_) (fun i j t t' _ => min_two_ints hh fun h' tk k => bH.heap I k ?_) fun b _ => IsiPair.bool_bool (bH.tok (t := s.toks) I (.bool _))
 ·have e3 : items = intItems xs.toArray := by apply Array.ext'; rw [e]; simp [intItems]
  subst e3
  refine sum_intListG hh (xs := xs.toArray) g (fun h' tk t' k => bH.heap I k ?_)
  rw [preSum_eq]
  have : (xs.toArray.toList.map (·.1)).take xs.toArray.size = xs.map (·.1) := List.take_of_length_le (Nat.le_of_eq (List.length_map ..))
  rw [this]; exact .int _ _
 ·obtain ⟨k, rfl⟩ := Int.eq_ofNat_of_zero_le h0
  exact PySem.call_range_1 (bH.new I rfl fun W' _ e => .pD e (hz _ (.head _)))
 ·split <;> rename_i hc
  ·rw [show max _ _ = _ from Int.max_eq_right (Int.le_of_lt hc)]; exact .int _ _
  ·rw [show max _ _ = _ from Int.max_eq_left (Int.not_lt.mp hc)]; exact .int _ _
 ·split <;> rename_i hc
  ·rw [show min _ _ = _ from Int.min_eq_right (Int.le_of_lt hc)]; exact .int _ _
  ·rw [show min _ _ = _ from Int.min_eq_left (Int.not_lt.mp hc)]; exact .int _ _
end
end
section
open PySem.Builtin PySem.Builtin.Str PySem.StrLaws
section
variable {S : aP} {W W' : Wd} {F : Addr → Option Obj} {H : List AO} {fm : Fm} {σ : St} {s : Shared} {A : Around} {E : Value → Shared → Prop}
noncomputable def oP : SO → String | .lower => "str.lower" | .join => "str.join" | .count => "str.count" | .rfind => "str.rfind" | .replace => "str.replace"
theorem GK {o : SO} {x : Str} {t : Tok} {pl : Sem Bool} {Q : Value × List Value → Shared → Prop} (q : Q (.builtin (oP o), [.str x t]) s) :
  wpAny (MD S) A (getMethod (.str x t) (bz o.nm) pl) Q E s := by
 cases o with
 | lower => have q : Q (.builtin "str.lower", [.str x t]) s := q; rw [show bz SO.lower.nm = Str.ofString "lower" by kernel_rfl]; with_reducible exact GM.lower q
 | join => have q : Q (.builtin "str.join", [.str x t]) s := q; rw [show bz SO.join.nm = Str.ofString "join" by kernel_rfl]; with_reducible exact GM.join q
 | count => have q : Q (.builtin "str.count", [.str x t]) s := q; rw [show bz SO.count.nm = Str.ofString "count" by kernel_rfl]; with_reducible exact GM.count q
 | rfind => have q : Q (.builtin "str.rfind", [.str x t]) s := q; rw [show bz SO.rfind.nm = Str.ofString "rfind" by kernel_rfl]; with_reducible exact GM.rfind q
 | replace => have q : Q (.builtin "str.replace", [.str x t]) s := q; rw [show bz SO.replace.nm = Str.ofString "replace" by kernel_rfl]; with_reducible exact GM.replace q
theorem tM (b n : Nat) : (max 0 (if (b : Int) < 0 then (b : Int) + n else b)).toNat = b := by
 rw [if_neg (Int.not_lt.mpr (Int.natCast_nonneg b)), Int.max_eq_right (Int.natCast_nonneg b), Int.toNat_natCast]
theorem qM (x y : Str) (b : Nat) (hb : b ≤ x.length) (t u v w : Tok) : Gives («str.count» ⟨[.str x t, .str y u, .int 0 v, .int b w], []⟩) (.int (occurrences x y 0 b (x.length + 1)).length) := by
 have e1 := tM b x.length
 show Gives (retInt (occurrences x y 0 (min (max 0 (if (b : Int) < 0 then (b : Int) + x.length else b)).toNat x.length) (x.length + 1)).length) _
 rw [e1, Nat.min_eq_left hb]
 exact .of_eq rfl
theorem qN (x y : Str) (b : Nat) (hb : b ≤ x.length) (t u v w : Tok) : Gives («str.rfind» ⟨[.str x t, .str y u, .int 0 v, .int b w], []⟩) (.int (xd (lastOccurrence x y 0 b))) := by
 have e1 := tM b x.length
 show Gives (match lastOccurrence x y 0 (min (max 0 (if (b : Int) < 0 then (b : Int) + x.length else b)).toNat x.length) with
  | some i => retInt i
  | none => (do rule "str.rfind.not-found"; retInt (-1))) _
 rw [e1, Nat.min_eq_left hb]
 cases lastOccurrence x y 0 b with
 | none => exact .rule (.of_eq rfl)
 | some k => exact .of_eq rfl
theorem DR {vs : List AV} {l : List (List Nat)} (h : iI vs = some l) {us : List Value} (r : bP S W vs us) : ∃ xs : List (Str × Tok), us = strValues xs ∧ xs.map (·.1) = l.map (fun a => ⟨a.toArray⟩) := by
 induction vs generalizing l us with
 | nil => exact r.jc ⟨[], rfl, congrArg (List.map _) (Option.some.inj h)⟩
 | cons v q ih => exact r.b7 fun u us r1 r2 => ai h fun i h e => gQ h fun l' q e' => (r1.gx e).gh fun t _ => Exists.elim (ih e' r2) fun xs z => ⟨(⟨i.toArray⟩, t) :: xs, congrArg _ z.1, (congrArg _ z.2).trans (q ▸ rfl)⟩
theorem yr (l : List (List Nat)) (a : List Nat) : (l.map fun a => (⟨a.toArray⟩ : Str)).foldl (fun acc p => acc ++ #[] ++ p.cps) a.toArray = (a ++ l.flatten).toArray := by
 induction l generalizing a with
 | nil => simp
 | cons b r ih =>
  rw [List.map_cons, List.foldl_cons]
  have : a.toArray ++ #[] ++ b.toArray = (a ++ b).toArray := by simp
  show List.foldl _ (a.toArray ++ #[] ++ b.toArray) _ = _
  rw [this, ih]; simp
theorem vb (l : List (List Nat)) : Txt.join (⟨#[]⟩ : Str) (l.map fun a => ⟨a.toArray⟩) = ⟨l.flatten.toArray⟩ := by
 cases l with
 | nil => rfl
 | cons a r =>
  show (⟨(r.map fun a => (⟨a.toArray⟩ : Str)).foldl (fun acc p => acc ++ #[] ++ p.cps) a.toArray⟩ : Str) = _
  rw [yr]; simp
theorem zv (l : List (List Nat)) (n : Nat) : (l.map fun a => (⟨a.toArray⟩ : Str)).foldl (fun k p => k + p.length + (⟨#[]⟩ : Str).length) n = n + l.flatten.length := by
 induction l generalizing n with
 | nil => simp
 | cons b r ih =>
  rw [List.map_cons, List.foldl_cons, ih, oQ]
  show n + b.length + 0 + _ = _
  simp; omega
theorem yR (l : List (List Nat)) : (l.map fun a => (⟨a.toArray⟩ : Str)).toArray.foldl (· + ·.length + (⟨#[]⟩ : Str).length) 0 = l.flatten.length := by
 rw [List.foldl_toArray, zv, Nat.zero_add]
@[elab_as_elim] theorem xM {P : Value → Value → Value → AV × List Nat → Prop} {str : List Nat} {p : AV × AV × AV} {f : Nat → Nat → AV} {r : AV × List Nat} {v1 v2 v3 : Value} (h : upTo str p f = some r) (r1 : VR S W p.1 v1) (r2 : VR S W p.2.1 v2) (r3 : VR S W p.2.2 v3)
  (k : ∀ (c k : Nat) (t1 t2 t3 : Tok), k ≤ str.length → P (.str ⟨[c].toArray⟩ t1) (.int 0 t2) (.int (k : Int) t3) (f c k, [])) : P v1 v2 v3 r :=
 ai h fun l h e => ai h fun c h e1 => ai h fun a h e2 => ai h fun b h e3 => (iM e1 ▸ r1.gx e : VR S W (.str [c]) v1).gh fun t1 _ => (r2.je e2).jW fun t2 => (r3.je e3).jW fun t3 => fZ h fun z q => by
  obtain rfl := of_decide_eq_true (aX z).1
  obtain ⟨m, rfl⟩ := Int.eq_ofNat_of_zero_le (of_decide_eq_true (aX (aX z).2).1)
  exact q ▸ k c m t1 t2 t3 (Int.ofNat_le.mp (of_decide_eq_true (aX (aX z).2).2))
theorem DF {P : SO → List Value → AV × List Nat → Prop} {o : SO} {str : List Nat} {as : List AV} {vs : List Value} {p : AV × List Nat} (h : HJ H o str as = some p) (rs : bP S W as vs) (I : bI S W F H s.heap)
  (lower : P .lower [] (.str (a8 str), [(a8 str).length])) (join : ∀ a (ys : List (Str × Tok)) (l : List (List Nat)), str = [] → s.heap.IsList a (strValues ys).toArray → ys.map (·.1) = l.map (fun a => ⟨a.toArray⟩) → P .join [.ref a] (.str l.flatten, [l.flatten.length]))
  (count : ∀ (c k : Nat) t1 t2 t3, k ≤ str.length → P .count [.str ⟨[c].toArray⟩ t1, .int 0 t2, .int (k : Int) t3] (.int ((str.take k).count c), [])) (rfind : ∀ (c k : Nat) t1 t2 t3, k ≤ str.length → P .rfind [.str ⟨[c].toArray⟩ t1, .int 0 t2, .int (k : Int) t3] (.int (c7 c (str.take k)), []))
  (replace : ∀ c (cs y : List Nat) t1 t2, str.any (Nat.beq c) = false → P .replace [.str ⟨(c :: cs).toArray⟩ t1, .str ⟨y.toArray⟩ t2] (.str str, [str.length])) : P o vs p := by
 cases o with
 | lower => exact fZ h fun e q => q ▸ bP.jc (List.isEmpty_iff.mp e ▸ rs : bP S W [] vs) lower
 | join =>
  exact ai h fun x h e => rs.jb e fun v r1 => ai h fun xs h e => r1.Gy I e fun a items g _ _ r => bC h (fun h e => gQ h fun l q e' => Exists.elim (DR e' r) fun ys z => q ▸ join a ys l (List.isEmpty_iff.mp e) (by
   have : items = (strValues ys).toArray := by apply Array.ext'; rw [z.1]
   exact this ▸ g) z.2) fun h _ => nn h
 | count => exact ai h fun p h e => rs.Hc e fun v1 v2 v3 r1 r2 r3 => xM (P := fun v1 v2 v3 p => P .count [v1, v2, v3] p) h r1 r2 r3 count
 | rfind => exact ai h fun p h e => rs.Hc e fun v1 v2 v3 r1 r2 r3 => xM (P := fun v1 v2 v3 p => P .rfind [v1, v2, v3] p) h r1 r2 r3 rfind
 | replace =>
  exact ai h fun p h e => rs.xV e fun v1 v2 r1 r2 => ai h fun l h e => ai h fun y h e' => ai h fun c h e2 => fZ h fun z q => (r1.gx e).gh fun t1 _ => (r2.gx e').gh fun t2 _ => by
   obtain ⟨cs, rfl⟩ := List.head?_eq_some_iff.mp e2
   exact q ▸ replace c cs y t1 t2 (Bool.not_eq_true' _ ▸ z)
theorem Ku (s : List Nat) (c : Nat) (cs : List Nat) (h : s.any (Nat.beq c) = false) (lim : Nat) : occurrences ⟨s.toArray⟩ ⟨(c :: cs).toArray⟩ 0 s.length lim = [] := by
 refine PySem.W.occ_nil_of_no (x := ⟨s.toArray⟩) (y := ⟨(c :: cs).toArray⟩) lim (fun i hi => ?_)
 rw [StrLaws.subAt_eq]
 refine Bool.eq_false_iff.mpr fun e => ?_
 have e2 : (s.drop i).take (c :: cs).length = c :: cs := eq_of_beq e
 rw [any_beq] at h
 exact of_decide_eq_false h (List.mem_of_mem_drop (List.mem_of_mem_take (e2.symm ▸ List.Mem.head cs : c ∈ (s.drop i).take (c :: cs).length)))
theorem DE {m : Nm} {str : List Nat} {as : List AV} {vs : List Value} {p : AV × List Nat} {o : SO} {t : Tok} (h : js σ.H m str as = some p) (hi : i6 m = some o) (z : str.length ≤ dD) (rs : bP S W as vs)
  (I : Inv S W F fm σ s.heap) (hz : ∀ n ∈ p.2, n ≤ dD) : wpAny (MD S) A (call (.builtin (oP o)) (.str ⟨str.toArray⟩ t :: vs)) (bH S W F fm σ s (VP S p.1)) E s := by
 revert hz
 refine ai h fun o' h e => ?_
 obtain rfl := Option.some.inj (hi.symm.trans e)
 refine DF (P := fun o vs p => (∀ n ∈ p.2, n ≤ dD) → wpAny (MD S) A (call (.builtin (oP o)) (.str ⟨str.toArray⟩ t :: vs)) (bH S W F fm σ s (VP S p.1)) E s) h rs I.tobI (fun hz => ?_) (fun a ys l e g e2 hz => ?_) (fun c k t1 t2 t3 hk _ => ?_) (fun c k t1 t2 t3 hk _ => ?_) fun c cs y t1 t2 hc _ => ?_
 ·have q : Txt.lower ⟨str.toArray⟩ = ⟨(a8 str).toArray⟩ := by simp [a8]
  refine SC.lower (decide_eq_false (Nat.not_lt.mpr (q ▸ cX (hz _ (.head _))))) (bH.tok I (q ▸ .str _ _ (hz _ (.head _))))
 ·subst e
  have hz := hz _ (.head _)
  refine SC.join g e2 ?_ (fun t' k => bH.tok I (vb l ▸ .str _ _ hz))
  unfold JoinOk
  rw [yR]; exact (congrArg (! ·) (decide_eq_false (Nat.not_lt.mpr (cX hz))) : (!tooLong l.flatten.length) = true)
 ·refine PySem.call_gives PySem.F.slot_str_count (typeIs_str _ _ _) PySem.F.entry_str_count (PySem.F.args_str_count_4 _ _ _ _) (qM ⟨str.toArray⟩ _ k hk _ _ _ _) (bH.tok I ?_)
  rw [oQ, ze _ _ _ _ hk (Nat.succ_le_succ hk)]
  exact .int _ _
 ·refine PySem.call_gives PySem.F.slot_str_rfind (typeIs_str _ _ _) PySem.F.entry_str_rfind (PySem.F.args_str_rfind_4 _ _ _ _) (qN ⟨str.toArray⟩ _ k hk _ _ _ _) (bH.tok I ?_)
  rw [FN _ _ _ hk]
  exact .int _ _
 ·have ho := fun cs => Ku str _ cs hc (str.length + 1)
  refine PySem.call_gives PySem.F.slot_str_replace (typeIs_str _ _ _) PySem.F.entry_str_replace (PySem.F.args_str_replace_3 _ _ _) (PySem.gives_str_replace _ _ _ t t1 t2 (fun hf => by rw [oQ, ho] at hf; cases hf)) ?_
  rw [oQ, ho]
  exact bH.tok (t := s.toks) I (.str _ _ z)
end
end
section
open PySem.Builtin PySem.Builtin.Str PySem.StrLaws
section
variable {S : aP} {W W' : Wd} {F : Addr → Option Obj} {H : List AO} {fm : Fm} {σ : St} {s : Shared} {A : Around} {E : Value → Shared → Prop}
noncomputable def ri : LO → String | .append => "list.append" | .pop => "list.pop"
theorem FW {o : LO} {a : Addr} {items : Array Value} {n : Nat} {pl : Sem Bool} {Q : Value × List Value → Shared → Prop} (g : s.heap.get? a = some { cls := .type "list", data := .seq items n }) (q : Q (.builtin (ri o), [.ref a]) s) :
  wpAny (MD S) A (getMethod (.ref a) (bz o.nm) pl) Q E s := by
 cases o with
 | append =>
  rw [show bz LO.append.nm = Str.ofString "append" by kernel_rfl]
  exact getMethod_list_append g rfl rfl q
 | pop =>
  rw [show bz LO.pop.nm = Str.ofString "pop" by kernel_rfl]
  exact getMethod_builtin ⟨_, g, rfl⟩ PySem.F.plainAttrs_list PySem.F.slot_list_pop PySem.F.type_list_pop (fun a e => by cases e; exact ⟨_, g, rfl⟩) q
theorem FV {m : Nm} {o : LO} {n k : Nat} {a : Addr} {items : Array Value} {xs as : List AV} {vs : List Value} {p : AV × List AV × List Nat} (h : FU m xs as = some p) (hi : kK m = some o)
  (e : W.ρ[n]? = some a) (g : s.heap.get? a = some { cls := .type "list", data := .seq items k }) (hs : items.size = xs.length) (z : xs.length ≤ dD) (rl : bP S W xs items.toList) (rs : bP S W as vs) (ok : fX S fm)
  (I : Inv S W F fm σ s.heap) (hz : ∀ n ∈ p.2.2, n ≤ dD) : wpAny (MD S) A (call (.builtin (ri o)) (.ref a :: vs)) (bH S W F fm { σ with H := σ.H.set n (.list p.2.1) } s (VP S p.1)) E s := by
 revert hz
 refine ai h fun o' h e0 => ?_
 obtain rfl := Option.some.inj (hi.symm.trans e0)
 cases o with
 | append => exact ai h fun x h e1 => rs.jb e1 fun v r1 => aj h fun hz => append_at g (fun h' sb g' => ⟨W, .refl W, .none, I.set e sb g' (.list (List.length_append ▸ hz _ (.head _)) ((Array.toList_push : (items.push v).toList = _) ▸ rl.append (.cons r1 .nil))) ok, rfl, rfl⟩) (hs ▸ cX z)
 | pop =>
  refine ai h fun x h e1 => ai h fun i h e2 => rs.jb e1 fun v r1 => (r1.je e2).jW fun t => fZ h fun c q => q ▸ fun _ => ?_
  obtain rfl := of_decide_eq_true (aX c).1
  cases xs with
  | nil => exact absurd (aX c).2 Bool.false_ne_true
  | cons v0 vs0 =>
  obtain ⟨l⟩ := items
  refine bP.b7 (P := fun l => s.heap.get? a = some { cls := .type "list", data := .seq l.toArray k } → l.toArray.size = _ → _) rl (fun y q r1 r2 g hs => ?_) g hs
  refine PySem.call_meets PySem.F.slot_list_pop ⟨_, g, rfl⟩ PySem.F.entry_list_pop (PySem.F.args_list_pop_2 _ _) (PySem.MeetsSeq.list_pop_at a _ k _ t 0 y (by decide) (by simp [seqIndex?]) rfl (hs ▸ cX z)) ⟨g, W, .refl W, r1, ?_, rfl, rfl⟩
  have u := PySem.IsL.update (g : IsL s.heap a (y :: q).toArray k) (fun xs => xs.eraseIdxIfInBounds 0)
  have e2 : (y :: q).toArray.eraseIdxIfInBounds 0 = q.toArray := by simpa using kl_erase [] q y
  rw [e2] at u
  exact I.set e (Heap.SameBut.update ..) u (.list (Nat.le_of_succ_le z) r2) ok
end
end
structure pI (S : aP) (G : bS) (c : Cl) : Prop where
 ga : findIn S.K (.ref (S.ca c)) "__getattribute__" = some (some (.builtin "object.__getattribute__"))
 gt : findIn S.K (.ref (S.ca c)) "__getattr__" = some none
 sa : findIn S.K (.ref (S.ca c)) "__setattr__" = some (some (.builtin "object.__setattr__"))
 cd : ∃ cd, clsIn S.K (S.ca c) = some cd ∧ cd.hasDict = true
 po : plainOver S.K (S.ca c) = true
 mak : makesIn S.K (S.ca c) = true
 ini : findIn S.K (.ref (S.ca c)) "__init__" = some (some (.ref (S.fa (G.init c))))
 ba : ∀ a f, G.ba c a = some f → findIn S.K (.ref (S.ca c)) (bz a) = some (some (.ref (S.fa f))) ∧ typeIn S.K (.ref (S.fa f)) = some (.type "function")
 cat : ∀ a v, G.b6 c a = some v → ∃ i t, v = .int i ∧ findIn S.K (.ref (S.ca c)) (bz a) = some (some (.int i t))
 CM : ∀ a, G.ba c a = none → G.b6 c a = none → findIn S.K (.ref (S.ca c)) (bz a) = some none
theorem oC (a : Nm) : copiedNames.contains (bz a) = false := by simpa using J8 (p := fun a => !copiedNames.contains (bz a)) (by decide +kernel) a
section
variable {S : aP} {G : bS} {W W' : Wd} {F : Addr → Option Obj} {H : List AO} {fm : Fm} {σ : St} {s : Shared} {A : Around} {E : Value → Shared → Prop}
theorem bI.K {h : Heap} (I : bI S W F H h) : S.K.In h := fun a o e => I.p a o (I.base a o e)
theorem jf.lookIn {o : Obj} {ps : List (Str × Value)} (d : jf S o ps) (x : Str) : PySem.W.lookIn x o = some (valueAt ps x) := by
 obtain ⟨_, es, ep, e, k, p, _⟩ := d
 unfold PySem.W.lookIn
 rw [e]
 have hf : (es.toList.find? fun e => (PySem.strKind S.prog S.w).is x e.key).map (·.val) = valueAt ps x := p.find x
 have he : (fun e : DictEntry => (PySem.strKind S.prog S.w).is x e.key) = fun e => e.key.isStr x := by
  funext e
  show Value.isStrOf x e.key = e.key.isStr x
  cases e.key <;> rfl
 rw [he] at hf
 dsimp only
 cases hq : es.toList.find? (·.key.isStr x) with
 | some e' => rw [hq] at hf; rw [← hf]; rfl
 | none =>
  rw [hq] at hf
  rw [← hf]
  have : es.toList.any (·.refKey) = false := by
   rw [List.any_eq_false]
   intro e' he'
   obtain ⟨k', hk', _⟩ := k e' (Array.mem_toList_iff.mp he')
   obtain ⟨t, ht⟩ := Value.isStrOf_shape hk'
   simp [DictEntry.refKey, ht]
  rw [this]; rfl
theorem VR.handed {a : AV} {v : Value} (h : VR S W a v) : handedIn v = true := by
 cases a with
 | none => exact h.kM rfl
 | bool => exact h.pL rfl
 | int => exact h.jW fun _ => rfl
 | str => exact h.gh fun _ _ => rfl
 | tup => exact h.rS fun _ _ _ _ _ _ _ _ => rfl
 | lst => exact h.vi fun _ _ _ _ _ _ _ _ => rfl
 | cH => exact h.ya fun _ _ _ _ _ _ _ _ => rfl
 | pD => exact h.Gx fun _ _ _ _ _ _ => rfl
 | aQ => exact h.y5 fun _ _ => rfl
 | fn => exact h.Sr rfl
 | cls => exact h.EK rfl
 | bi b => exact h.MJ (by cases b <;> decide +kernel)
 | ba => exact h.oz fun _ _ _ _ => rfl
 | inst => exact h.sY fun _ _ _ _ => rfl
theorem uK {f : Addr} (h : typeIn S.K (.ref f) = some (.type "function")) : specialIn S.K (.ref f) "__get__" = some (some (.builtin "function.__get__")) ∧ takesIn S.K (.ref f) = some false := by
 have e1 : fastLookup "function" "__get__" = some (some (.builtin "function.__get__")) := by decide +kernel
 have e2 : fastLookup "function" "__set__" = some none := by decide +kernel
 have e3 : fastLookup "function" "__delete__" = some none := by decide +kernel
 constructor
 ·unfold specialIn; rw [h]; exact e1
 ·have a : specialIn S.K (.ref f) "__set__" = some none := by unfold specialIn; rw [h]; exact e2
  have b : specialIn S.K (.ref f) "__delete__" = some none := by unfold specialIn; rw [h]; exact e3
  unfold takesIn; rw [a, b]; rfl
theorem sZ {i : Int} {t : Tok} : specialIn S.K (.int i t) "__get__" = some none := by
 have e1 : fastLookup "int" "__get__" = some none := by decide +kernel
 unfold specialIn
 show (pureOf (typeOf (.int i t))).bind _ = _
 exact e1
@[elab_as_elim] theorem VR.wV {P : Value → Prop} {c : Cl} {n : Nat} {v : Value} {aN : List (Nm × AV)} (h : VR S W (.inst c n) v) (I : bI S W F H s.heap) (e : hW H n = some aN)
  (k : ∀ x d od ps, W.ρ[n]? = some d → s.heap.get? d = some od → jf S od ps → eN S W aN ps → aN.length ≤ dD → InstAt s.heap x (instObj (S.ca c) d) (S.ca c) (some od) → VR S W (.inst c n) (.ref x) → P (.ref x)) : P v :=
 h.sY fun x d q r => ai e fun ao hf e => Exists.elim (I.hs _ _ _ r e) fun o g => g.2.wF hf fun ps dd z rs => k x d o ps r g.1 dd rs z ⟨I.p _ _ q, rfl, rfl, g.1⟩ (.inst q r)
section
variable {c : Cl} {od : Obj} {ps : List (Str × Value)} {name : Str} {v : Value}
theorem vq (cd : ClassData) (hd : cd.hasDict = true) (d : jf S od ps) : PySem.W.ownOf cd (some od) name = some (valueAt ps name) := by
 unfold PySem.W.ownOf
 rw [hd, if_pos rfl]
 exact d.lookIn name
theorem Fb {a g : Value} (C : pI S G c) (d : jf S od ps) (h1 : findIn S.K (.ref (S.ca c)) name = some (some a)) (h2 : specialIn S.K a "__get__" = some (some g)) (h3 : takesIn S.K a = some false) (hc : copiedNames.contains name = false) (hv : valueAt ps name = none) : findObj S.K (S.ca c) (some od) name = some (.bind g a) := by
 obtain ⟨cd, hcd, hd⟩ := C.cd
 unfold findObj
 rw [hcd, h1]
 show (specialIn S.K a "__get__").bind _ = _
 rw [h2]
 show (takesIn S.K a).bind _ = _
 rw [h3]
 show (PySem.W.ownOf cd (some od) name).bind _ = _
 rw [vq cd hd d, hv]
 show (if (_ && _) = true then _ else _) = _
 rw [hc]; rfl
theorem Jp {a : Value} (C : pI S G c) (d : jf S od ps) (h1 : findIn S.K (.ref (S.ca c)) name = some (some a)) (h2 : specialIn S.K a "__get__" = some none) (h3 : handedIn a = true) (hc : copiedNames.contains name = false) (hv : valueAt ps name = none) : findObj S.K (S.ca c) (some od) name = some (.value a) := by
 obtain ⟨cd, hcd, hd⟩ := C.cd
 unfold findObj
 rw [hcd, h1]
 show (specialIn S.K a "__get__").bind _ = _
 rw [h2]
 show (PySem.W.ownOf cd (some od) name).bind _ = _
 rw [vq cd hd d, hv]
 show (if (_ && _) = true then _ else (if _ = true then _ else _)) = _
 rw [hc, h3]; rfl
theorem Jq (C : pI S G c) (d : jf S od ps) (h1 : findIn S.K (.ref (S.ca c)) name = some none) (hv : valueAt ps name = some v) : findObj S.K (S.ca c) (some od) name = some (.value v) := by
 obtain ⟨cd, hcd, hd⟩ := C.cd
 unfold findObj
 rw [hcd, h1]
 show (PySem.W.ownOf cd (some od) name).bind _ = _
 rw [vq cd hd d, hv]; rfl
end
theorem uy {x : AV} {a : Nm} {r : AV} {o : Value} {ex : Bool} (h : sd G σ.H x a = some r) (hx : VR S W x o) (C : ∀ c, pI S G c) (I : Inv S W F fm σ s.heap) :
  wpAny (MD S) A (getAttr o (bz a) ex) (bH S W F fm σ s (VP S r)) E s :=
 ai h fun q h e => ai h fun aN h e' => (hx.o6 e).wV I.tobI e' fun x d od ps r1 g dd rs z J hx => Ir (P := fun r => wpAny (MD S) A (getAttr (.ref x) (bz a) ex) (bH S W F fm σ s (VP S r)) E s) h
  (fun f hm hl => have m := (C q.1).ba a f hm
   have f := uK m.2
   get_bind I.K J (C q.1).ga (Fb (C q.1) dd m.1 f.1 f.2 (oC a) (rs.rd hl)) (C q.1).gt (wpAny_call (fn_get I.K m.2 (wpAny_pure (bH.new I rfl fun W' L e => .ba e (hx.mono L))))))
  (fun v hm hl => Exists.elim ((C q.1).cat a v hm) fun i y => Exists.elim y fun t y => y.1 ▸ get_value I.K J (C q.1).ga (Jp (C q.1) dd y.2 sZ rfl (oC a) (rs.rd hl)) rfl (bH.tok I (.int _ _)))
  fun v hm hc hl => Exists.elim (rs.lk hl) fun u y => get_value I.K J (C q.1).ga (Jq (C q.1) dd ((C q.1).CM a hm hc) y.1) y.2.handed (bH.tok I y.2)
end
section
variable {S : aP} {G : bS} {W W' : Wd} {F : Addr → Option Obj} {H : List AO} {fm : Fm} {σ : St} {s : Shared} {A : Around} {E : Value → Shared → Prop}
theorem tj (x : Str) : (fun e : DictEntry => (PySem.strKind S.prog S.w).is x e.key) = fun e => e.key.isStr x := by
 funext e
 show Value.isStrOf x e.key = e.key.isStr x
 cases e.key <;> rfl
theorem jf.putName {o : Obj} {ps : List (Str × Value)} (d : jf S o ps) (name : Str) (t : Tok) (v : Value) :
  jf S (Obj.putName name (PyData.keyHash S.w.params name) (.str name t) v o) (stored ps name v) := by
 obtain ⟨⟨c1, c2, c3⟩, es, ep, e, k, p, n⟩ := d
 obtain ⟨oc, od, dt, sl⟩ := o
 dsimp only at c1 c2 c3 e
 subst c1 c2 c3 e
 have Bo : (PySem.strKind S.prog S.w).is name (.str name t) = true := by show (name == name) = true; exact beq_self_eq_true _
 have hidx : (es.findIdx? fun e => (PySem.strKind S.prog S.w).is name e.key) = ps.findIdx? fun kv => decide (kv.1 = name) := by
  rw [← p.findIdx name]; obtain ⟨l⟩ := es; simp
 rw [Obj.putName_eq]
 unfold Obj.putNameByArray
 dsimp only
 rw [← tj (S := S)]
 cases hi : es.findIdx? fun e => (PySem.strKind S.prog S.w).is name e.key with
 | some i =>
  refine ⟨⟨rfl, rfl, rfl⟩, _, ep, rfl, k.modify _ _, ?_, ?_⟩
  ·rw [stored, if_pos (any_of_findIdx_some (hidx ▸ hi))]
   have hl : (es.toList.findIdx? fun e => (PySem.strKind S.prog S.w).is name e.key) = some i := by rw [← hi]; obtain ⟨l⟩ := es; simp
   have := p.modify n hl v
   obtain ⟨l⟩ := es
   simpa using this
  ·rw [stored, if_pos (any_of_findIdx_some (hidx ▸ hi)), keys_map_store]; exact n
 | none =>
  have hnot : name ∉ ps.map (·.1) := not_mem_of_findIdx_none (hidx ▸ hi)
  have hany : ¬ (ps.any fun kv => decide (kv.1 = name)) = true := by
   rw [List.any_eq_true]; rintro ⟨kv, hkv, he⟩
   exact hnot (List.mem_map.mpr ⟨kv, hkv, of_decide_eq_true he⟩)
  refine ⟨⟨rfl, rfl, rfl⟩, _, ep + 1, rfl, k.push Bo _, ?_, ?_⟩
  ·rw [stored, if_neg hany]
   have := p.append Bo (PyData.keyHash S.w.params name) v
   obtain ⟨l⟩ := es
   simpa using this
  ·rw [stored, if_neg hany, List.map_append, List.nodup_append]
   refine ⟨n, by simp, ?_⟩
   intro a ha b hb
   simp only [List.map_cons, List.map_nil, List.mem_singleton] at hb
   subst hb
   exact fun z => hnot (z ▸ ha)
theorem eN.keys {aN : List (Nm × AV)} {ps : List (Str × Value)} (h : eN S W aN ps) : ps.map (·.1) = aN.map (fun p => bz p.1) := by
 induction aN generalizing ps with
 | nil => exact h.jc rfl
 | cons p q ih => exact h.b7 fun _ _ _ r => congrArg (bz p.1 :: ·) (ih r)
theorem qp {k : Str} {u v : Value} {ps : List (Str × Value)} (n : k ∉ ps.map (·.1)) : stored ((k, u) :: ps) k v = (k, v) :: ps := by
 unfold stored
 rw [List.any_cons, decide_eq_true rfl, Bool.true_or, if_pos rfl, List.map_cons, if_pos rfl]
 exact congrArg _ ((List.map_congr_left (g := id) fun (kv : Str × Value) m => if_neg fun z : kv.1 = k => n (z ▸ List.mem_map_of_mem m)).trans (List.map_id _))
theorem qq {p : Str × Value} {x : Str} {v : Value} {ps : List (Str × Value)} (e : ¬ p.1 = x) : stored (p :: ps) x v = p :: stored ps x v := by
 unfold stored
 rw [List.any_cons, decide_eq_false e, Bool.false_or, List.map_cons, if_neg e]
 split <;> rfl
theorem eN.pt {aN : List (Nm × AV)} {ps : List (Str × Value)} (h : eN S W aN ps) (n : (ps.map (·.1)).Nodup) {k : Nm} {a : AV} {v : Value} (r : VR S W a v) : eN S W (pt aN k a) (stored ps (bz k) v) := by
 induction aN generalizing ps with
 | nil => exact h.jc (.cons r .nil)
 | cons p q ih =>
  revert n
  refine h.b7 fun u us x y n => ?_
  have n := List.nodup_cons.mp n
  rw [jD]
  by_cases e : p.1 = k
  ·subst e
   rw [if_pos rfl, qp n.1]
   exact .cons r y
  ·rw [if_neg e, qq fun z => e (iU z)]
   exact .cons x (ih y n.2)
theorem eN.Rg {aN : List (Nm × AV)} {ps : List (Str × Value)} (h : eN S W aN ps) (n : (ps.map (·.1)).Nodup) {s : List Nat} {kvs' : List (Nm × AV)} {a : AV} {v : Value} (e : Rg aN s a = some kvs') (r : VR S W a v) :
  eN S W kvs' (stored ps ⟨s.toArray⟩ v) ∧ kvs'.length = aN.length := by
 induction aN generalizing ps kvs' with
 | nil => exact nn e
 | cons p q ih =>
  revert n
  refine h.b7 fun u us x y n => ?_
  have n := List.nodup_cons.mp n
  refine bC e (fun e c => aj e ?_) fun e c => gQ e fun q' e e' => e ▸ ?_
  ·have c := oB.mp c
   rw [← c, qp n.1]
   exact ⟨.cons r y, rfl⟩
  ·rw [qq fun z => Bool.false_ne_true (c.symm.trans (oB.mpr z))]
   have z := ih y n.2 e'
   exact ⟨.cons x z.1, congrArg (· + 1) z.2⟩
theorem KQ {α : Type} (V : List (Nm × α)) (x : Nm) (v : α) : (pt V x v).length ≤ V.length + 1 := by
 induction V with
 | nil => exact Nat.le_refl _
 | cons p q ih =>
  rw [jD]
  split
  ·exact Nat.le_succ _
  ·exact Nat.succ_le_succ ih
theorem jf.nd {o : Obj} {ps : List (Str × Value)} (d : jf S o ps) : (ps.map (·.1)).Nodup := by
 obtain ⟨_, _, _, _, _, _, n⟩ := d
 exact n
theorem jf.xm {o : Obj} {ps : List (Str × Value)} (d : jf S o ps) : ∃ es n, o.data = .dict es n ∧ es.any (·.refKey) = false ∧ es.size = ps.length := by
 obtain ⟨_, es, ep, e, k, p, _⟩ := d
 refine ⟨es, ep, e, ?_, p.length⟩
 rw [Array.any_eq_false']
 intro e' he'
 obtain ⟨k', hk', _⟩ := k e' he'
 obtain ⟨t, ht⟩ := Value.isStrOf_shape hk'
 simp [DictEntry.refKey, ht]
theorem zd {d : Addr} {od : Obj} {ps : List (Str × Value)} {name : Str} {v : Value} {Q : Unit → Shared → Prop} (g : s.heap.get? d = some od) (dd : jf S od ps)
  (k : ∀ h' o', Heap.SameBut d s.heap h' → h'.get? d = some o' → jf S o' (stored ps name v) → Q () { s with heap := h', toks := s.toks + 1 }) : wpAny (MD S) A (nsSet d name v) Q E s := by
 obtain ⟨es, ne, q1, q2, q3⟩ := dd.xm
 have dd' := dd.putName name s.toks v
 have g' : (s.heap.update d (Obj.putName name (PyData.keyHash S.w.params name) (.str name s.toks) v)).get? d = _ := Heap.get?_update_self _ g dd'.mV
 unfold nsSet
 refine wpAny_bind (wpAny_bind (wpAny_askSetting (wpAny_pure (wpAny_bind (wpAny_mkText (wpAny_bind (wpAny_loadPart (s := { s with toks := s.toks + 1 }) g ?_)))))))
 rw [q1]
 dsimp only
 have c : (!es.any (·.key.isStr name) && es.any (·.refKey)) = false := by rw [q2, Bool.and_false]
 rw [aRefKeyMayBeTheName_at, c]
 exact wpAny_updatePart g (k _ _ (Heap.SameBut.update ..) g' dd')
theorem jf.fits {o : Obj} {ps : List (Str × Value)} (d : jf S o ps) (z : ps.length ≤ dD) : o.data.pastItsLine = none := by
 obtain ⟨es, n, w1, _, w3⟩ := d.xm
 rw [w1]
 exact pastItsLine_dict (w3 ▸ Nat.le_succ_of_le (cX z))
theorem tV {x : AV} {a : Nm} {av : AV} {o v : Value} {σ' : St} (h : setAt G x a av σ = some σ') (hx : VR S W x o) (hv : VR S W av v) (C : ∀ c, pI S G c) (ok : fX S fm) (I : Inv S W F fm σ s.heap)
  (hz : ∀ k ∈ σ'.O, k ≤ dD) : wpAny (MD S) A (setAttr o (bz a) v) (bH S W F fm σ' s (fun _ _ => True)) E s := by
 revert hz
 refine ai h fun q h e => ai h fun aN h e' => bC h (fun h c => aj h fun hz => ?_) fun h _ => nn h
 have C := C q.1
 have hm := Option.isNone_iff_eq_none.mp (aX c).1
 have hca := Option.isNone_iff_eq_none.mp (aX c).2
 have hz := hz _ (.head _)
 refine (hx.o6 e).wV I.tobI (az (sG e') rfl) fun x d od ps r1 g dd rs z J _ => set_plain I.K J C.sa ?_
 obtain ⟨cd, hcd, hdd⟩ := C.cd
 have ht : takerIn S.K (S.ca q.1) (bz a) = some none := by unfold takerIn; rw [C.CM a hm hca]; rfl
 refine osa_open (s := { s with toks := s.toks + 1 }) I.K J C.po ht fun b => ?_
 obtain ⟨hx1, hcl, hn, -⟩ := J
 refine wpAny_bind (wpAny_pure (wpAny_bind (wpAny_bind (wpAny_loadPart (s := { s with toks := s.toks + 1 }) hx1 (wpAny_bind ((looks_clsIn (h := ({ s with toks := s.toks + 1 } : Shared).heap) I.K hcd).here ?_))))))
 rw [hdd]
 have rs' := rs.pt dd.nd hv (k := a)
 have lz : (stored ps (bz a) v).length ≤ dD := rs'.length ▸ Nat.le_trans (KQ ..) hz
 refine wpAny_pure (a := some d) (wpAny_bind (wpAny_pure (wpAny_bind (zd (s := { s with toks := s.toks + 1 }) g dd fun h' o' sb g' dd' => wpAny_bind (wpAny_lookBehind g' (dd'.fits lz) ?_)))))
 exact wpAny_pure ⟨W, .refl W, trivial, (I.set r1 sb g' (.dict rfl dd' (rs'.length.symm ▸ lz) rs') ok).xn, rfl, rfl⟩
end
theorem zH (C : Addr) (rest : List Value) : (Code.builtin "type.__call__" ⟨.ref C :: rest, []⟩).weight = 1 := by kernel_rfl
theorem DP (C : Addr) (rest : List Value) : (Code.builtin "type.__call__" ⟨.ref C :: rest, []⟩).cUnits = 1 := by kernel_rfl
noncomputable def i3 (Q : Value → Shared → Prop) : Result → Shared → Prop := fun r s => match r with
 | .ok (.ret v) => Q v s
 | .ok _ => False
 | .error e => no e s
noncomputable def eR (l : List Nat) : Prop := ∀ k ∈ l, k ≤ dD
theorem eR.l {a b : List Nat} (h : eR (a ++ b)) : eR a := fun k m => h k (List.mem_append_left _ m)
theorem eR.r {a b : List Nat} (h : eR (a ++ b)) : eR b := fun k m => h k (List.mem_append_right _ m)
theorem eR.hd {a : Nat} {b : List Nat} (h : eR (a :: b)) : a ≤ dD := h _ (.head _)
theorem eR.tl {a : Nat} {b : List Nat} (h : eR (a :: b)) : eR b := fun k m => h k (.tail _ m)
structure a6 (S : aP) (G : bS) (n : Nat) : Prop where
 cls : ∀ c, pI S G c
 call : ∀ f as H r H' os, G.call f as H = some (r, H', os) → ∀ (W : Wd) (F : Addr → Option Obj) (A : Around) (s : Shared) (vs : List Value), Ro n A → bI S W F H s.heap → bP S W as vs → eR os →
  codeAny (MD S) A (.call (.ref (S.fa f)) ⟨vs, []⟩) (i3 (o3 S W F H' s (VP S r))) s
 glob : ∀ x av, G.glob x = some av → ∀ (W : Wd) (F : Addr → Option Obj) (H : List AO) (h : Heap), bI S W F H h → ∃ v, VR S W av v ∧
  ((∃ mg, h.Ns mainGlobals mg ∧ mg (bz x) = some v) ∨ (∃ mg mb, h.Ns mainGlobals mg ∧ mg (bz x) = none ∧ h.Ns builtinsNs mb ∧ mb (bz x) = some v))
 kf : ∀ f, keepIn S.K (.ref (S.fa f)) = true ∧ fnIn S.K (S.fa f) = true
 kc : ∀ c, keepIn S.K (.ref (S.ca c)) = true
 ft : ∀ c, typeIn S.K (.ref (S.fa (G.init c))) = some (.type "function")
 lim : ∀ h, S.K.In h → h.NoLimit
 sys : ∃ o, S.hB sysModules = some o
section
variable {α : Type} {S : aP} {G : bS} {W W' : Wd} {F : Addr → Option Obj} {H : List AO} {fm : Fm} {σ : St} {s s' : Shared} {A : Around} {E : Value → Shared → Prop} {n : Nat}
theorem Ro.mono {m n : Nat} {A : Around} (r : Ro n A) (h : m ≤ n) : Ro m A := ⟨r.hd, Nat.le_trans (Nat.add_le_add_left (Nat.mul_le_mul_left 8 (Nat.succ_le_succ h)) _) r.dp, Nat.le_trans (Nat.add_le_add_left (Nat.mul_le_mul_left 64 (Nat.succ_le_succ h)) _) r.un⟩
theorem ro_le {a b c n m k : Nat} (h : b ≤ c) (r : a + (m * (n + 1) + c) ≤ k) : a + b + m * (n + 1) ≤ k := Nat.le_trans (by rw [Nat.add_assoc, Nat.add_comm b]; exact Nat.add_le_add_left (Nat.add_le_add_left h _) _) r
theorem Ro.under {n : Nat} {A : Around} {c : Code} (r : Ro (n + 1) A) (h : c.weight ≤ 8) (u : c.cUnits ≤ 64) : Ro n (A.under c) := ⟨r.hd, ro_le h r.dp, ro_le u r.un⟩
noncomputable def mv (fm : Fm) (F : Addr → Option Obj) (h : Heap) : Addr → Option Obj := fun a => if a ∈ fm.ow then h.get? a else F a
theorem kB {h : Heap} {a : Addr} (m : a ∈ fm.ow) : mv fm F h a = h.get? a := if_pos m
theorem iA {h : Heap} {a : Addr} (m : a ∉ fm.ow) : mv fm F h a = F a := if_neg m
theorem none_of {α : Type} {o q : Option α} (h : ∀ x, o = some x → q = some x) (n : q = none) : o = none := by
 cases o with
 | none => rfl
 | some x => rw [h x rfl] at n; cases n
theorem Gg {α : Type} {o : Option α} (h : ∀ x, o = some x → False) : o = none := by
 cases o with
 | none => rfl
 | some x => exact (h x rfl).elim
theorem Inv.nL {h : Heap} (I : Inv S W F fm σ h) {a : Addr} {o : Obj} (e : F a = some o) : mv fm F h a = some o := (iA fun m => by rw [(I.own a m).2.1] at e; cases e).trans e
theorem Inv.freeze {h : Heap} (I : Inv S W F fm σ h) : bI S W (mv fm F h) σ.H h := by
 have J := I.tobI
 refine { J with f := fun a o e => ?_, ρf := fun a m => (iA fun z => (I.own a z).2.2.1 m).trans (I.ρf a m), pf := fun a o e => (iA fun z => by rw [(I.own a z).1] at e; cases e).trans (I.pf a o e) }
 by_cases m : a ∈ fm.ow
 ·exact (kB m).symm.trans e
 ·exact I.f a o ((iA m).symm.trans e)
theorem Inv.Lr {h h' : Heap} {H' : List AO} {os : List Nat} (I : Inv S W F fm σ h) (ok : fX S fm) (L : W.Le W') (J : bI S W' (mv fm F h) H' h') : Inv S W' F fm { σ with H := H', O := os } h' := by
 have kow : ∀ a o, a ∈ fm.ow → h.get? a = some o → h'.get? a = some o := fun a o m e => J.f a o ((kB m).trans e)
 have kF : ∀ a o, (∃ o, F a = some o) → h.get? a = some o → h'.get? a = some o := fun a o l e => Exists.elim l fun o' l => by
  rw [I.f _ _ l] at e; exact e ▸ J.f a o' (I.nL l)
 refine { tobI := { J with f := fun a o e => J.f a o (I.nL e), ρf := fun a m => none_of (fun o q => I.nL q) (J.ρf a m), pf := fun a o e => none_of (fun o q => I.nL q) (J.pf a o e) }, fr := I.fr, vars := (I.vars.mono L).gP (fun o => kow _ o ok.lo) fun x c o k l => (I.fr x c k l).elim (kow c o) (kF c o), own := fun a m => Exists.elim (I.own a m).2.2.2 fun o e => ?_ }
 have z := (kB (F := F) m).trans e
 exact ⟨Gg fun o' q => (by rw [J.pf a o' q] at z; cases z), (I.own a m).2.1, fun y => (by rw [J.ρf a y] at z; cases z), o, kow a o m e⟩
theorem i3.mono {Q Q' : Value → Shared → Prop} {r : Result} (h : i3 Q r s) (k : ∀ v, Q v s → Q' v s) : i3 Q' r s := by
 cases r with
 | error e => exact h
 | ok f => cases f <;> first | exact k _ h | exact h
theorem i3.init {Q : Value → Shared → Prop} {R : Result → Shared → Prop} {x : Addr} {r : Result} (h : i3 Q r s) (k : ∀ v, Q v s → v = .none ∧ R (.ok (.ret (.ref x))) s) : InitBack x R r s := by
 cases r with
 | error e => exact h.elim
 | ok f => cases f <;> first | exact k _ h | exact h
theorem called {f : Fn} {as : List AV} {vs : List Value} {q : AV × List AO × List Nat} (GO : a6 S G n) (h : G.call f as σ.H = some q) (rs : bP S W as vs) (ok : fX S fm) (ro : Ro n A)
  (I : Inv S W F fm σ s.heap) (hz : eR q.2.2) :
  codeAny (MD S) A (.call (.ref (S.fa f)) ⟨vs, []⟩) (i3 (bH S W F fm { σ with H := q.2.1, O := q.2.2 ++ σ.O } s (VP S q.1))) s :=
 codeAny_mono (GO.call f as σ.H q.1 q.2.1 q.2.2 h W (mv fm F s.heap) A s vs ro I.freeze rs hz) fun res s' z => z.mono fun v z => by
  cases z with | mk W' L r' J k => exact ⟨W', L, r', I.Lr ok L J, k⟩
noncomputable def qB : AV → Bool
 | .fn _ => true
 | .cls _ => true
 | .bi _ => true
 | .ba .. => true
 | _ => false
noncomputable def Keeps (S : aP) (W : Wd) (fv : Value) : Prop := ∀ h, (S.K.In h ∧ ∀ a o, W.P a = some o → h.get? a = some o) → ∃ k, (k = Keeper.frame ∨ k = Keeper.machine ∨ k = Keeper.boundFrame) ∧ Looks (MD S) h (keeperOf fv) k
theorem BU {b : String} : Keeps S W (.builtin b) := fun _ _ => ⟨.machine, .inr (.inl rfl), Looks.now⟩
theorem w9 {fv : Value} {f : AV} (GO : a6 S G n) (hf : VR S W f fv) (hc : qB f = true) : Keeps S W fv := by
 cases f with
 | fn => exact hf.Sr fun h q => keeps_K (GO.kf _).1 h q.1
 | cls => exact hf.EK fun h q => keeps_K (GO.kc _) h q.1
 | bi b => exact hf.MJ (by cases b <;> exact fun _ _ => ⟨.machine, .inr (.inl rfl), Looks.now⟩)
 | ba => exact hf.oz fun a w e r h q => keeps_M (GO.kf _).2 h ⟨q.2 _ _ e, q.1⟩
 | _ => exact absurd hc Bool.false_ne_true
@[elab_as_elim] theorem mR {P : AV × St → Prop} {o : Option (AV × List AO × List Nat)} {f : AV → Option AV} {p : AV × St} (h : lG o σ f = some p) (k : ∀ q v, f q.1 = some v → o = some q → P (v, { σ with H := q.2.1, O := q.2.2 ++ σ.O })) : P p :=
 ai h fun q h e => ai h fun v h e' => aj h (k q v e' e)
@[elab_as_elim] theorem nk {P : AV → AV × St → Prop} {v : AV} {as : List AV} {p : AV × St} (h : eE G v as σ = some p)
  (hf : ∀ f q, G.call f as σ.H = some q → P (.fn f) (q.1, { σ with H := q.2.1, O := q.2.2 ++ σ.O }))
  (hm : ∀ f s q, G.call f (s :: as) σ.H = some q → P (.ba f s) (q.1, { σ with H := q.2.1, O := q.2.2 ++ σ.O }))
  (hc : ∀ c q, G.call (G.init c) (.inst c σ.H.length :: as) (σ.H ++ [.dict []]) = some q → jK q.1 = some () → P (.cls c) (.inst c σ.H.length, { σ with H := q.2.1, O := q.2.2 ++ σ.O }))
  (hb : ∀ b q, Ea σ.H b as = some q → P (.bi b) (q.1, { σ with O := q.2 ++ σ.O })) : P v p := by
 cases v with
 | fn f => exact mR h fun q v e e' => aj e (hf f q e')
 | ba f s => exact mR h fun q v e e' => aj e (hm f s q e')
 | cls c =>
  have h : lG (G.call (G.init c) (.inst c σ.H.length :: as) (σ.H ++ [.dict []])) σ (fun v => bd (jK v) fun _ => some (.inst c σ.H.length)) = some p := h
  exact mR h fun q v e e' => ai e fun _ e z => aj e (hc c q e' z)
 | bi b => exact ai h fun q h e => aj h (hb b q e)
 | _ => exact nn h
theorem AN : jf S emptyDict [] := ⟨⟨rfl, rfl, rfl⟩, #[], 0, rfl, fun _ h => absurd h (Array.not_mem_empty _), .nil, .nil⟩
theorem sk {f : AV} {fv : Value} {as : List AV} {vs : List Value} {p : AV × St} (GO : a6 S G n) (h : eE G f as σ = some p) (hf : VR S W f fv) (rs : bP S W as vs) (ok : fX S fm) (ro : Ro (n + 1) A)
  (I : Inv S W F fm σ s.heap) (hz : eR p.2.O) : wpAny (MD S) A (call fv vs) (bH S W F fm p.2 s (VP S p.1)) no s := by
 have ro1 : Ro n A := ro.mono (Nat.le_succ n)
 refine nk (P := fun f p => VR S W f fv → eR p.2.O → wpAny (MD S) A (call fv vs) (bH S W F fm p.2 s (VP S p.1)) no s) h (fun f q e hf hz => hf.Sr (wpAny_call (called GO e rs ok ro1 I hz.l)))
  (fun f x q e hf hz => hf.oz fun a w e' r' => wpAny_call (method_call (I.p _ _ e') (called GO e (.cons r' rs) ok ro1 I hz.l))) (fun c q e z hf hz => hf.EK ?_) (fun b q e hf hz => hf.MJ (wpAny_mono (IA e rs I ro.hd hz.l) (fun _ _ p => p.xn) fun _ _ x => x)) hf hz
 obtain ⟨hh, g, d, t, os⟩ := s
 have K := I.K
 have J := I.Cz (o := emptyDict) (ao := .dict []) (.dict rfl AN (Nat.zero_le _) .nil)
 have J2 := J.1.new (o := instObj (S.ca c) hh.objs.size)
 have L := J.2.1.trans J2.2
 have hi : VR S ((W.aQ hh.objs.size).put (hh.push emptyDict).objs.size (instObj (S.ca c) hh.objs.size)) (.inst c σ.H.length) (.ref (hh.objs.size + 1)) := Heap.size_push hh emptyDict ▸ .inst Wd.oE (J2.2.get J.2.2)
 refine wpAny_call (make_core (makes_of K (GO.cls c).mak) (looks_findIn K (GO.cls c).ini) (fun self => bind_fn K self (GO.ft c)) (.inl rfl) ?_)
 have ro' : Ro n (A.under (.builtin "type.__call__" ⟨.ref (S.ca c) :: vs, []⟩)) := ro.under (by rw [zH]; decide) (by rw [DP]; decide)
 refine codeAny_mono (called (s := ⟨(hh.push emptyDict).push (instObj (S.ca c) hh.objs.size), g, d, t, os⟩) GO e (.cons hi (rs.mono L)) ok ro' J2.1 hz.l) fun res s' y => y.init fun v y => ?_
 cases y with | mk W' L' r' J k => exact ⟨(r'.jK z : v = .none), W', L.trans L', hi.mono L', J, k.gens, k.os⟩
end
noncomputable def xk (x : Nm) (s : Str) : Bool := bV (CB x) s.cps.toList
theorem gc {x : Nm} {s : Str} (h : xk x s = true) : s = bz x := (oB.mp h).symm
noncomputable abbrev cG := List (Nm × Kd)
noncomputable def Sz : Kd → NameKind
 | .loc => .local | .k8 => .cell | .cI => .globalImplicit
noncomputable def readable (x : Nm) : Bool := !(bV (CB x) [95, 95, 100, 101, 98, 117, 103, 95, 95]) && !(bV (CB x) [95, 95, 99, 108, 97, 115, 115, 100, 105, 99, 116, 95, 95])
noncomputable def Vc (b : oX) (o : Operator) : Bool := decide (o = ni b)
theorem Kz {b : oX} {o : Operator} (h : Vc b o = true) : o = ni b := of_decide_eq_true h
noncomputable def UQ (b : oZ) (o : CmpOp) : Bool := decide (o = kj b)
theorem IU {b : oZ} {o : CmpOp} (h : UQ b o = true) : o = kj b := of_decide_eq_true h
noncomputable def bindB {α : Type} (o : Option α) (f : α → Bool) : Bool := match o with
 | some x => f x
 | none => false
theorem gJ {α : Type} {o : Option α} {f : α → Bool} (h : bindB o f = true) : ∃ x, o = some x ∧ f x = true := by
 cases o with
 | none => cases h
 | some x => exact ⟨x, rfl, h⟩
theorem aZ {α : Type} {o : Option α} {f : α → Bool} {P : Prop} (h : bindB o f = true) (k : ∀ x, f x = true → o = some x → P) : P := Exists.elim (gJ h) fun x z => k x z.2 z.1
noncomputable def IV (v : AV) (c : Const) : Bool := match c with
 | .none => bindB (jK v) fun _ => true
 | .bool b => bindB (xW v) fun a => a == b
 | .int b => bindB (je v) fun a => a == b
 | .str b => bindB (gx v) fun a => bV a b.cps.toList && Nat.ble a.length 1000
 | .float _ => false
 | .complex .. => false
 | .bytes _ => false
 | .ellipsis => false
noncomputable def BH : Ex → Bool | .no => true | _ => false
noncomputable def Hy (ks : cG) (sc : Scope) (p : Str × NameKind) : Bool := (decide (p.2 = .local) && decide (sc.names.lookup p.1 = some .local)) || ((decide (p.2 = .free) && ks.any fun q => xk q.1 p.1 && decide (lk ks q.1 = some .k8)) || decide (p.2 = .globalImplicit))
noncomputable def kindB (ks : cG) (sc : Scope) (q : Nm × Kd) : Bool := match q.2 with
 | .loc => decide (sc.names.lookup (bz q.1) = some .local)
 | .k8 => decide (sc.names.lookup (bz q.1) = some .free) && decide (lk ks q.1 = some .k8)
 | .cI => decide (sc.names.lookup (bz q.1) = some .globalImplicit)
noncomputable def SH (ks ks' : cG) (sc : Scope) : Bool := decide (sc.kind = .function) && sc.names.all (Hy ks sc) && ks'.all (kindB ks sc)
noncomputable def tD : rX → List Nm
 | .nil => []
 | .cons k _ r => k :: tD r
noncomputable def jZ (l : List Nm) : Bool := decide l.Nodup
theorem lE {l : List Nm} (h : jZ l = true) : l.Nodup := of_decide_eq_true h
structure Pt where
 n : Nat
 a : Expr
 b : Expr
 c : Expr
 l : List Expr
 ol : List (Option Expr)
 u : Option Expr
 v : Option Expr
 s : Str
 k : Nat
 cst : Const
 bo : BoolOp
 op : Operator
 uo : UnaryOp
 co : List CmpOp
 g : List Comprehension
 sc : Scope
 kw : List Keyword
 p : Pos
noncomputable def pA (e : Expr) : Pt := ⟨0, e, e, e, [], [], none, none, ⟨#[]⟩, 0, .none, .And, .Add, .Not, [], [], ⟨.function, [], false, false, []⟩, [], ⟨0, 0, 0, 0⟩⟩
noncomputable def bW (e : Expr) : Pt := match e with
 | .Constant c k p => { pA e with n := 1, cst := c, k := k, p := p }
 | .Name s p => { pA e with n := 2, s := s, p := p }
 | .Attribute v s p => { pA e with n := 3, a := v, s := s, p := p }
 | .Subscript v s p => { pA e with n := 4, a := v, b := s, p := p }
 | .Slice _ _ (some _) _ => { pA e with n := 16 }
 | .Starred .. => { pA e with n := 17 }
 | .Set .. => { pA e with n := 18 }
 | .SetComp .. => { pA e with n := 19 }
 | .DictComp .. => { pA e with n := 20 }
 | .Slice l u none p => { pA e with n := 5, u := l, v := u, p := p }
 | .BinOp l o r p => { pA e with n := 6, a := l, op := o, b := r, p := p }
 | .Compare l o c p => { pA e with n := 7, a := l, co := o, l := c, p := p }
 | .BoolOp o v p => { pA e with n := 8, bo := o, l := v, p := p }
 | .UnaryOp o x p => { pA e with n := 9, uo := o, a := x, p := p }
 | .IfExp a b c p => { pA e with n := 10, a := a, b := b, c := c, p := p }
 | .Tuple l k p => { pA e with n := 11, l := l, k := k, p := p }
 | .List l p => { pA e with n := 12, l := l, p := p }
 | .Dict a b p => { pA e with n := 13, ol := a, l := b, p := p }
 | .Call g as ks p => { pA e with n := 14, a := g, l := as, kw := ks, p := p }
 | .ListComp e' gs sc p => { pA e with n := 15, a := e', g := gs, sc := sc, p := p }
 | e => pA e
noncomputable def S2 (n : Nat) (q : Pt) : Expr := match n with
 | 1 => .Constant q.cst q.k q.p
 | 2 => .Name q.s q.p
 | 3 => .Attribute q.a q.s q.p
 | 4 => .Subscript q.a q.b q.p
 | 5 => .Slice q.u q.v none q.p
 | 6 => .BinOp q.a q.op q.b q.p
 | 7 => .Compare q.a q.co q.l q.p
 | 8 => .BoolOp q.bo q.l q.p
 | 9 => .UnaryOp q.uo q.a q.p
 | 10 => .IfExp q.a q.b q.c q.p
 | 11 => .Tuple q.l q.k q.p
 | 12 => .List q.l q.p
 | 13 => .Dict q.ol q.l q.p
 | 14 => .Call q.a q.l q.kw q.p
 | 15 => .ListComp q.a q.g q.sc q.p
 | _ => q.a
theorem IC (e : Expr) : S2 (bW e).n (bW e) = e := by
 cases e with
 | Slice l u st p => cases st <;> rfl
 | _ => rfl
noncomputable def gT (n : Nat) (e : Expr) : Bool := Nat.beq (bW e).n n
theorem dq {n : Nat} {e : Expr} (h : gT n e = true) : S2 n (bW e) = e := Nat.eq_of_beq_eq_true h ▸ IC e
theorem ib {n : Nat} {e : Expr} {P : Expr → Prop} (h : gT n e = true) (f : P (S2 n (bW e))) : P e := dq h ▸ f
noncomputable def gg (e : Expr) : Bool := !gT 18 e
noncomputable def iF (e : Expr) : Bool := !gT 5 e && !gT 16 e
noncomputable def notAttr (e : Expr) : Bool := !gT 3 e
noncomputable def notStar (e : Expr) : Bool := !gT 17 e
noncomputable def kO (e : Expr) : Bool := !gT 14 e
noncomputable def hJ (e : Expr) : Bool := !gT 15 e && !gT 19 e && !gT 20 e
noncomputable def mP (e : Expr) : Bool := !gT 11 e
noncomputable def Ky (g : List Comprehension) : Option Comprehension := match g with
 | [] => none
 | g :: r => (match r with | _ :: _ => none | [] => (match decide (g.is_async = 0) with | true => some g | false => none))
theorem Gj {g : List Comprehension} {x : Comprehension} (h : Ky g = some x) : g = [⟨x.target, x.iter, x.ifs, 0⟩] := by
 cases g with
 | nil => exact nn h
 | cons g r =>
  cases r with
  | cons _ _ => exact nn h
  | nil =>
   obtain ⟨tg, i, ifs, a⟩ := g
   by_cases z : a = 0
   ·subst z; cases h; rfl
   ·simp [Ky, z] at h
noncomputable def tf (o : Option Kd) : Bool := decide (o = some .loc)
noncomputable def Ho (o : Option Kd) : Bool := decide (o = some .cI)
noncomputable def isVar (o : Option Kd) : Bool := tf o || decide (o = some .k8)
theorem nV {o : Option Kd} (h : tf o = true) : o = some .loc := of_decide_eq_true h
theorem BF {o : Option Kd} (h : Ho o = true) : o = some .cI := of_decide_eq_true h
noncomputable def VY (x : Nm) (e : Expr) : Bool := gT 2 e && xk x (bW e).s
noncomputable def vL : List Nm → List Expr → Bool
 | [], l => l.isEmpty
 | x :: xs, l => (match l with | [] => false | e :: es => VY x e && vL xs es)
noncomputable def lJ (ks : cG) (t : List Nm) (e : Expr) : Bool := match jb t with
 | some x => gT 2 e && xk x (bW e).s && tf (lk ks x)
 | none => gT 11 e && vL t (bW e).l && t.all fun x => tf (lk ks x)
noncomputable def Th (f : Expr → Bool) (no : Bool) : Option Expr → Bool | none => no | some l => f l && !no
noncomputable def Ll : Const → Option Str | .str s => some s | _ => none
theorem GJ {c : Const} {s : Str} (h : Ll c = some s) : c = .str s := by cases c <;> first | exact nn h | (cases h; rfl)
noncomputable section
mutual
noncomputable def mE : cG → Ex → Expr → Bool
 | _, .bad, _ => true
 | _, .no, _ => false
 | _, .c v, e => gT 1 e && IV v (bW e).cst
 | ks, .v n, e => gT 2 e && xk n (bW e).s && readable n && isVar (lk ks n)
 | ks, .g n, e => gT 2 e && xk n (bW e).s && readable n && Ho (lk ks n)
 | ks, .at i a, e => gT 3 e && xk a (bW e).s && mE ks i (bW e).a && kO (bW e).a
 | ks, .ix a i, e => gT 4 e && mE ks a (bW e).a && mE ks i (bW e).b && iF (bW e).b
 | ks, .sl a lo hi, e => gT 4 e && gT 5 (bW e).b && mE ks a (bW e).a && Th (fun l => mE ks lo l) (BH lo) (bW (bW e).b).u && Th (fun l => mE ks hi l) (BH hi) (bW (bW e).b).v
 | ks, .bin o a b, e => gT 6 e && Vc o (bW e).op && mE ks a (bW e).a && mE ks b (bW e).b
 | ks, .cmp a r, e => gT 7 e && mE ks a (bW e).a && mC ks r (bW e).co (bW e).l
 | ks, .and es, e => gT 8 e && decide ((bW e).bo = .And) && jP ks es (bW e).l
 | ks, .or es, e => gT 8 e && decide ((bW e).bo = .Or) && jP ks es (bW e).l
 | ks, .not i, e => gT 9 e && decide ((bW e).uo = .Not) && mE ks i (bW e).a
 | ks, .neg i, e => gT 9 e && decide ((bW e).uo = .USub) && mE ks i (bW e).a
 | ks, .ite t a b, e => gT 10 e && mE ks t (bW e).a && mE ks a (bW e).b && mE ks b (bW e).c
 | ks, .tup es, e => gT 11 e && jP ks es (bW e).l
 | ks, .lst es _, e => gT 12 e && jP ks es (bW e).l
 | ks, .cH xb _, e => gT 13 e && (mK ks xb (bW e).ol (bW e).l && jZ (tD xb) && Nat.ble 1 (bW e).ol.length && Nat.ble (bW e).ol.length 15)
 | ks, .call f as, e => gT 14 e && (mE ks f (bW e).a && jP ks as (bW e).l && notAttr (bW e).a && (bW e).kw.isEmpty)
 | ks, .aw o m as, e => gT 14 e && gT 3 (bW e).a && (bW e).kw.isEmpty && (xk m (bW (bW e).a).s && mE ks o (bW (bW e).a).a && jP ks as (bW e).l && kO (bW (bW e).a).a && Nat.beq (bW (bW e).a).p.endLine (bW e).p.line && Nat.ble (bW e).l.length 20)
 | ks, .comp ks' elt t it cs, e => gT 15 e && bindB (Ky (bW e).g) fun x => mE ks it x.iter && mE ks' elt (bW e).a && jP ks' cs x.ifs && lJ ks' t x.target && SH ks ks' (bW e).sc && gg x.iter
noncomputable def jP : cG → dZ → List Expr → Bool
 | _, .nil, l => l.isEmpty
 | ks, .cons e r, l => (match l with | [] => false | x :: xs => mE ks e x && jP ks r xs && notStar x)
noncomputable def mC : cG → jJ → List CmpOp → List Expr → Bool
 | _, .nil, _, _ => false
 | ks, .cons o e r, ops, cs => (match ops with | [] => false | op :: ops' => (match cs with | [] => false | x :: xs => UQ o op && mE ks e x && gg x &&
   (match r with | .nil => ops'.isEmpty && xs.isEmpty | .cons _ _ _ => !ops'.isEmpty && !xs.isEmpty && mC ks r ops' xs)))
noncomputable def mK : cG → rX → List (Option Expr) → List Expr → Bool
 | _, .nil, a, b => a.isEmpty && b.isEmpty
 | ks, .cons k e r, a, b => (match a with | [] => false | x :: a' => (match b with | [] => false | v :: b' => bindB x fun y => gT 1 y && bindB (Ll (bW y).cst) fun s => xk k s && mE ks e v && mK ks r a' b'))
end
end
noncomputable def o2 (ks : cG) (env : Env) : Prop := ∀ x k, lk ks x = some k → env.kindOf (bz x) = some (Sz k)
section
variable {S : aP} {G : bS} {W W' : Wd} {F : Addr → Option Obj} {H : List AO} {fm : Fm} {σ : St} {s : Shared} {A : Around} {E : Value → Shared → Prop} {h : Heap} {α : Type}
theorem wpAny_release {M : Model} {vs keep : List Value} {Q : Unit → Shared → Prop} (h : Q () s) : wpAny M A (release vs keep) Q E s := fun Γ p _ => by rw [Sem.wp_release]; exact h
theorem ed {M : Model} {vs : List Value} {m : Sem Value} {Q : Value → Shared → Prop} (h : wpAny M A m Q E s) : wpAny M A (operate vs m) Q E s := fun Γ p hΓ => by rw [Sem.wp_operate]; exact h Γ p hΓ
end
section
variable {ks : cG} {e : Expr}
theorem to {α : Type} {P : α → Prop} {a b : α} (e : a = b) (h : P b) : P a := e ▸ h
section
variable {P : Expr → Prop}
@[elab_as_elim] theorem NK {v : AV} (h : mE ks (.c v) e = true) (f : ∀ c k pos, IV v c = true → P (.Constant c k pos)) : P e :=
 ib (aX h).1 (f _ _ _ (aX h).2)
theorem to2 {β : Type} {F : β → Expr} {a b : β} (h : F a = e) (q : a = b) (p : P (F b)) : P e := h ▸ q ▸ p
@[elab_as_elim] theorem NO {x : Nm} (h : mE ks (.v x) e = true) (f : ∀ pos, readable x = true → P (.Name (bz x) pos)) : P e :=
 have z := ik h
 to2 (F := fun s => .Name s (bW e).p) (dq z.1) (gc z.2.1) (f _ z.2.2.1)
@[elab_as_elim] theorem NL {x : Nm} (h : mE ks (.g x) e = true) (f : ∀ pos, readable x = true → lk ks x = some .cI → P (.Name (bz x) pos)) : P e :=
 have z := ik h
 to2 (F := fun s => .Name s (bW e).p) (dq z.1) (gc z.2.1) (f _ z.2.2.1 (BF z.2.2.2))
theorem NM (h : mE ks .no e = true) : False := Bool.false_ne_true h
@[elab_as_elim] theorem Ht {i : Ex} {a : Nm} (h : mE ks (.at i a) e = true) (f : ∀ v pos, mE ks i v = true → kO v = true → P (.Attribute v (bz a) pos)) : P e :=
 have z := ik h
 to2 (F := fun s => .Attribute (bW e).a s (bW e).p) (dq z.1) (gc z.2.1) (f _ _ z.2.2.1 z.2.2.2)
@[elab_as_elim] theorem Hu {x i : Ex} (h : mE ks (.ix x i) e = true) (f : ∀ v s pos, mE ks x v = true → mE ks i s = true → iF s = true → P (.Subscript v s pos)) : P e :=
 have z := ik h
 ib z.1 (f _ _ _ z.2.1 z.2.2.1 z.2.2.2)
noncomputable def opt (ks : cG) (i : Ex) (o : Option Expr) : Prop := (o = none ∧ i = .no) ∨ ∃ l, o = some l ∧ mE ks i l = true ∧ i ≠ .no
theorem Fz {i : Ex} (h : BH i = true) : i = .no := by cases i <;> first | rfl | exact absurd h Bool.false_ne_true
theorem FA {i : Ex} (h : (!BH i) = true) : i ≠ .no := fun e => by subst e; cases h
theorem AR {i : Ex} {o : Option Expr} (h : Th (fun l => mE ks i l) (BH i) o = true) : opt ks i o := by
 cases o with
 | none => exact .inl ⟨rfl, Fz h⟩
 | some l => exact .inr ⟨l, rfl, (aX h).1, FA (aX h).2⟩
@[elab_as_elim] theorem NN {x lo hi : Ex} (h : mE ks (.sl x lo hi) e = true) (f : ∀ v l u p pos, mE ks x v = true → opt ks lo l → opt ks hi u → P (.Subscript v (.Slice l u none p) pos)) : P e :=
 have z := ik (aX h).1
 to2 (F := fun s => .Subscript (bW e).a s (bW e).p) (dq z.1) (dq z.2.1).symm (f _ _ _ _ _ z.2.2.1 (AR z.2.2.2) (AR (aX h).2))
@[elab_as_elim] theorem JM {o : oX} {a b : Ex} (h : mE ks (.bin o a b) e = true) (f : ∀ l r pos, mE ks a l = true → mE ks b r = true → P (.BinOp l (ni o) r pos)) : P e :=
 have z := ik h
 to2 (F := fun s => .BinOp (bW e).a s (bW e).b (bW e).p) (dq z.1) (Kz z.2.1) (f _ _ _ z.2.2.1 z.2.2.2)
@[elab_as_elim] theorem Ck {a : Ex} {r : jJ} (h : mE ks (.cmp a r) e = true) (f : ∀ l ops cs pos, mE ks a l = true → mC ks r ops cs = true → P (.Compare l ops cs pos)) : P e :=
 have z := eO h
 ib z.1 (f _ _ _ _ z.2.1 z.2.2)
theorem Cj {o : BoolOp} {b : Bool} (h : (gT 8 e && decide ((bW e).bo = o) && b) = true) (f : b = true → P (.BoolOp o (bW e).l (bW e).p)) : P e :=
 have z := eO h
 to2 (F := fun s => .BoolOp s (bW e).l (bW e).p) (dq z.1) (of_decide_eq_true z.2.1) (f z.2.2)
theorem Hw {o : UnaryOp} {b : Bool} (h : (gT 9 e && decide ((bW e).uo = o) && b) = true) (f : b = true → P (.UnaryOp o (bW e).a (bW e).p)) : P e :=
 have z := eO h
 to2 (F := fun s => .UnaryOp s (bW e).a (bW e).p) (dq z.1) (of_decide_eq_true z.2.1) (f z.2.2)
@[elab_as_elim] theorem Ci {es : dZ} (h : mE ks (.and es) e = true) (f : ∀ vs pos, jP ks es vs = true → P (.BoolOp .And vs pos)) : P e := Cj h (f _ _)
@[elab_as_elim] theorem Hv {es : dZ} (h : mE ks (.or es) e = true) (f : ∀ vs pos, jP ks es vs = true → P (.BoolOp .Or vs pos)) : P e := Cj h (f _ _)
@[elab_as_elim] theorem Cn {i : Ex} (h : mE ks (.not i) e = true) (f : ∀ x pos, mE ks i x = true → P (.UnaryOp .Not x pos)) : P e := Hw h (f _ _)
@[elab_as_elim] theorem JP {i : Ex} (h : mE ks (.neg i) e = true) (f : ∀ x pos, mE ks i x = true → P (.UnaryOp .USub x pos)) : P e := Hw h (f _ _)
@[elab_as_elim] theorem Cm {t a b : Ex} (h : mE ks (.ite t a b) e = true) (f : ∀ t' a' b' pos, mE ks t t' = true → mE ks a a' = true → mE ks b b' = true → P (.IfExp t' a' b' pos)) : P e :=
 have z := ik h
 ib z.1 (f _ _ _ _ z.2.1 z.2.2.1 z.2.2.2)
@[elab_as_elim] theorem JQ {es : dZ} (h : mE ks (.tup es) e = true) (f : ∀ elts k pos, jP ks es elts = true → P (.Tuple elts k pos)) : P e :=
 ib (aX h).1 (f _ _ _ (aX h).2)
@[elab_as_elim] theorem JO {es : dZ} {z : Bool} (h : mE ks (.lst es z) e = true) (f : ∀ elts pos, jP ks es elts = true → P (.List elts pos)) : P e :=
 ib (aX h).1 (f _ _ (aX h).2)
@[elab_as_elim] theorem JN {xb : rX} {y : Bool} (h : mE ks (.cH xb y) e = true) (f : ∀ keys vals pos, mK ks xb keys vals = true → jZ (tD xb) = true → 1 ≤ keys.length → keys.length ≤ 15 → P (.Dict keys vals pos)) : P e :=
 have z := ik (aX h).2
 ib (aX h).1 (f _ _ _ z.1 z.2.1 (Nat.le_of_ble_eq_true z.2.2.1) (Nat.le_of_ble_eq_true z.2.2.2))
@[elab_as_elim] theorem xe {g' : Ex} {as : dZ} (h : mE ks (.call g' as) e = true) (f : ∀ g args pos, mE ks g' g = true → jP ks as args = true → notAttr g = true → P (.Call g args [] pos)) : P e :=
 have z := ik (aX h).2
 to2 (F := fun s => .Call (bW e).a (bW e).l s (bW e).p) (dq (aX h).1) (List.isEmpty_iff.mp z.2.2.2) (f _ _ _ z.1 z.2.1 z.2.2.1)
@[elab_as_elim] theorem tI {o : Ex} {m : Nm} {as : dZ} (h : mE ks (.aw o m as) e = true) (f : ∀ v apos args pos, mE ks o v = true → jP ks as args = true → kO v = true → apos.endLine = pos.line → args.length ≤ 20 → P (.Call (.Attribute v (bz m) apos) args [] pos)) : P e :=
 have y := ik h
 have z := r0 y.2.2.2
 to2 (F := fun s => .Call (bW e).a (bW e).l s (bW e).p) (dq y.1) (List.isEmpty_iff.mp y.2.2.1) (to2 (P := fun x => P (.Call x (bW e).l [] (bW e).p)) (F := fun s => .Attribute (bW (bW e).a).a s (bW (bW e).a).p) (dq y.2.1) (gc z.1)
  (f _ _ _ _ z.2.1 z.2.2.1 z.2.2.2.1 (Nat.eq_of_beq_eq_true z.2.2.2.2.1) (Nat.le_of_ble_eq_true z.2.2.2.2.2)))
@[elab_as_elim] theorem xf {ks' : cG} {elt it : Ex} {t : List Nm} {cs : dZ} (h : mE ks (.comp ks' elt t it cs) e = true) (f : ∀ e' tg i ifs sc pos, mE ks it i = true → mE ks' elt e' = true → jP ks' cs ifs = true → lJ ks' t tg = true → SH ks ks' sc = true → gg i = true → P (.ListComp e' [⟨tg, i, ifs, 0⟩] sc pos)) : P e :=
 let ⟨_, q, h'⟩ := gJ (aX h).2
 have z := r0 h'
 to2 (F := fun s => .ListComp (bW e).a s (bW e).sc (bW e).p) (dq (aX h).1) (Gj q) (f _ _ _ _ _ _ z.1 z.2.1 z.2.2.1 z.2.2.2.1 z.2.2.2.2.1 z.2.2.2.2.2)
end
theorem g9 {es : List Expr} (h : jP ks .nil es = true) : es = [] := List.isEmpty_iff.mp h
@[elab_as_elim] theorem fV {P : List Expr → Prop} {i : Ex} {r : dZ} {es : List Expr} (h : jP ks (.cons i r) es = true) (f : ∀ x xs, mE ks i x = true → jP ks r xs = true → notStar x = true → P (x :: xs)) : P es := by
 cases es with
 | nil => exact absurd h Bool.false_ne_true
 | cons x xs => exact f x xs (eO h).1 (eO h).2.1 (eO h).2.2
theorem rk {a : List (Option Expr)} {b : List Expr} (h : mK ks .nil a b = true) : a = [] ∧ b = [] := ⟨List.isEmpty_iff.mp (aX h).1, List.isEmpty_iff.mp (aX h).2⟩
@[elab_as_elim] theorem xg {P : List (Option Expr) → List Expr → Prop} {k : Nm} {i : Ex} {r : rX} {a : List (Option Expr)} {b : List Expr} (h : mK ks (.cons k i r) a b = true)
  (f : ∀ kd p a' v b', mE ks i v = true → mK ks r a' b' = true → P (some (.Constant (.str (bz k)) kd p) :: a') (v :: b')) : P a b := by
 cases a with
 | nil => exact absurd h Bool.false_ne_true
 | cons x a' =>
 cases b with
 | nil => exact absurd h Bool.false_ne_true
 | cons v b' =>
 cases x with
 | none => exact absurd h Bool.false_ne_true
 | some y =>
  have z : (gT 1 y && bindB (Ll (bW y).cst) fun s => xk k s && mE ks i v && mK ks r a' b') = true := h
  obtain ⟨s, q2, h⟩ := gJ (aX z).2
  have w := eO h
  exact to2 (P := fun y => P (some y :: a') (v :: b')) (F := fun c => .Constant c (bW y).k (bW y).p) (dq (aX z).1) ((GJ q2).trans (congrArg _ (gc w.1))) (f _ _ _ _ _ w.2.1 w.2.2)
@[elab_as_elim] theorem FY {P : jJ → List CmpOp → List Expr → Prop} {o : oZ} {i : Ex} {r : jJ} {ops : List CmpOp} {cs : List Expr} (h : mC ks (.cons o i r) ops cs = true)
  (f : ∀ x, mE ks i x = true → gg x = true → P .nil [kj o] [x])
  (f' : ∀ x o' i' r' op' ops' x' xs, mE ks i x = true → gg x = true → mC ks (.cons o' i' r') (op' :: ops') (x' :: xs) = true → P (.cons o' i' r') (kj o :: op' :: ops') (x :: x' :: xs)) : P r ops cs := by
 cases ops with
 | nil => exact absurd h Bool.false_ne_true
 | cons op ops =>
 cases cs with
 | nil => exact absurd h Bool.false_ne_true
 | cons x xs =>
  have z := ik h
  rw [IU z.1]
  have w := z.2.2.2
  cases r with
  | nil =>
   have w : (ops.isEmpty && xs.isEmpty) = true := w
   cases ops with
   | cons _ _ => exact absurd w Bool.false_ne_true
   | nil =>
   cases xs with
   | cons _ _ => exact absurd w Bool.false_ne_true
   | nil => exact f x z.2.1 z.2.2.1
  | cons o' i' r' =>
   have v := eO w
   cases ops with
   | nil => exact absurd v.1 Bool.false_ne_true
   | cons op' ops' =>
   cases xs with
   | nil => exact absurd v.2.1 Bool.false_ne_true
   | cons x' xs' => exact f' _ _ _ _ _ _ _ _ z.2.1 z.2.2.1 v.2.2
end
noncomputable def Mon {α : Type} (L : List Nat) (o : Option (α × St)) : Prop := ∀ r, o = some r → eR r.2.O → eR L
noncomputable def cm (L : List Nat) (o : Option St) : Prop := ∀ r, o = some r → eR r.O → eR L
section
variable {α β γ : Type} {L : List Nat} {σ : St}
theorem Mon.bd {o : Option (α × St)} {f : α × St → Option (β × St)} (h : Mon L o) (k : ∀ p, Mon p.2.O (f p)) : Mon L (bd o f) := fun r e z => ai e fun p e e' => h p e' (k p r e z)
theorem Mon.m8 {o : Option (α × St)} {f : α × St → Option St} (h : Mon L o) (k : ∀ p, cm p.2.O (f p)) : cm L (Mine.bd o f) := fun r e z => ai e fun p e e' => h p e' (k p r e z)
theorem cm.bd {o : Option St} {f : St → Option (β × St)} (h : cm L o) (k : ∀ p, Mon p.O (f p)) : Mon L (bd o f) := fun r e z => ai e fun p e e' => h p e' (k p r e z)
theorem cm.m8 {o : Option St} {f : St → Option St} (h : cm L o) (k : ∀ p, cm p.O (f p)) : cm L (Mine.bd o f) := fun r e z => ai e fun p e e' => h p e' (k p r e z)
theorem Mon.opt {o : Option γ} {f : γ → Option (β × St)} (k : ∀ x, Mon L (f x)) : Mon L (Mine.bd o f) := fun r e z => ai e fun x e _ => k x r e z
theorem cm.opt {o : Option γ} {f : γ → Option St} (k : ∀ x, cm L (f x)) : cm L (Mine.bd o f) := fun r e z => ai e fun x e _ => k x r e z
theorem Mon.alt {o : Option γ} {f : γ → Option (β × St)} {b : Option (β × St)} (k : ∀ x, Mon L (f x)) (h : Mon L b) : Mon L (Mine.alt o f b) := fun r e z => bL e (fun x e _ => k x r e z) fun e => h r e z
theorem cm.alt {o : Option γ} {f : γ → Option St} {b : Option St} (k : ∀ x, cm L (f x)) (h : cm L b) : cm L (Mine.alt o f b) := fun r e z => bL e (fun x e _ => k x r e z) fun e => h r e z
theorem Mon.cond {b : Bool} {x y : Option (β × St)} (h : Mon L x) (k : Mon L y) : Mon L (cond b x y) := fun r e z => bC e (fun e _ => h r e z) fun e _ => k r e z
theorem Mon.no : Mon L (none : Option (β × St)) := fun _ e => nn e
theorem cm.no : cm L none := fun _ e => nn e
theorem Mon.ret {a : β} : Mon σ.O (some (a, σ)) := fun _ e => aj e id
theorem Mon.st {a : β} {H : List AO} {V : List (Nm × AV)} : Mon L (some (a, St.mk H V L)) := fun _ e => aj e id
theorem Mon.app {p : β} {H : List AO} {V : List (Nm × AV)} {l : List Nat} : Mon L (some (p, St.mk H V (l ++ L))) := fun _ e => aj e fun z => z.r
theorem Mon.one {p : β} {H : List AO} {V : List (Nm × AV)} {l : Nat} : Mon L (some (p, St.mk H V (l :: L))) := fun _ e => aj e fun z => z.tl
theorem cm.ret {H : List AO} {V : List (Nm × AV)} : cm L (some (St.mk H V L)) := fun _ e => aj e id
theorem cm.one {H : List AO} {V : List (Nm × AV)} {l : Nat} : cm L (some (St.mk H V (l :: L))) := fun _ e => aj e fun z => z.tl
theorem cm.app {H : List AO} {V : List (Nm × AV)} {l : List Nat} : cm L (some (St.mk H V (l ++ L))) := fun _ e => aj e fun z => z.r
theorem cm.trans {l : Nat} {o : Option St} (h : cm (l :: L) o) : cm L o := fun r e z => (h r e z).tl
theorem Mon.r9 {o : Option (β × St)} {l : List Nat} (h : Mon (l ++ L) o) : Mon L o := fun r e z => (h r e z).r
theorem cm.r9 {o : Option St} {l : List Nat} (h : cm (l ++ L) o) : cm L o := fun r e z => (h r e z).r
variable {G : bS}
theorem oJ {o : Option (AV × List AO × List Nat)} {f : AV → Option AV} : Mon σ.O (lG o σ f) := .opt fun _ => .opt fun _ => .app
theorem iq {v : AV} {as : List AV} : Mon σ.O (eE G v as σ) := by
 cases v with
 | fn f => exact oJ
 | ba f s => exact oJ
 | cls c => exact (oJ : Mon σ.O (lG (G.call (G.init c) (.inst c σ.H.length :: as) (σ.H ++ [.dict []])) σ fun v => bd (jK v) fun _ => some (.inst c σ.H.length)))
 | bi b => exact .opt fun _ => .app
 | _ => exact .no
theorem jw {f : Sum AV (AV × Nm)} {as : List AV} : Mon σ.O (ip G f as σ) := by
 cases f with
 | inl v => exact iq
 | inr p => exact .alt (fun _ => .opt fun _ => .app) (.opt fun _ => .opt fun _ => .opt fun _ => .app)
theorem jg {t : List Nm} {b : Bool} {v : AV} : cm σ.O (gI t b v σ) := by
 cases b with
 | true => exact .opt fun _ => .opt fun _ => .ret
 | false => exact .opt fun _ => .ret
theorem lj {asg : AV → St → Option St} {t : St → Option (Bool × St)} {b : St → Option (AV × St)} (ha : ∀ v σ, cm σ.O (asg v σ)) (ht : ∀ σ, Mon σ.O (t σ)) (hb : ∀ σ, Mon σ.O (b σ)) : ∀ (vs : List AV) (σ : St), Mon σ.O (iw asg t b vs σ) := by
 intro vs
 induction vs with
 | nil => exact fun _ => .ret
 | cons v vs ih => exact fun σ => (ha v σ).bd fun τ => (ht τ).bd fun p => .cond ((hb p.2).bd fun x => (ih x.2).bd fun y => .ret) (ih p.2)
theorem oj {p : Fl × St} {k : St → Option (Fl × St)} (h : ∀ σ, Mon σ.O (k σ)) : Mon p.2.O (lp p k) := by
 obtain ⟨f, σ⟩ := p
 cases f with
 | nx => exact h σ
 | bk => exact .ret
 | rt v => exact .ret
theorem ry {p : Fl × St} {k : St → Option (Fl × St)} (h : ∀ σ, Mon σ.O (k σ)) : Mon p.2.O (CR p k) := by
 obtain ⟨f, σ⟩ := p
 cases f with
 | nx => exact h σ
 | bk => exact .ret
 | rt v => exact .ret
theorem lK {t : St → Option (Bool × St)} {b : St → Option (Fl × St)} (ht : ∀ σ, Mon σ.O (t σ)) (hb : ∀ σ, Mon σ.O (b σ)) : ∀ (k : Nat) (σ : St), Mon σ.O (fk k t b σ) := by
 intro k
 induction k with
 | zero => exact fun _ => .no
 | succ k ih => exact fun σ => (ht σ).bd fun p => .cond ((hb p.2).bd fun q => oj ih) .ret
theorem qa {asg : AV → St → Option St} {b : St → Option (Fl × St)} (ha : ∀ v σ, cm σ.O (asg v σ)) (hb : ∀ σ, Mon σ.O (b σ)) : ∀ (vs : List AV) (σ : St), Mon σ.O (jO asg b vs σ) := by
 intro vs
 induction vs with
 | nil => exact fun _ => .ret
 | cons v vs ih => exact fun σ => (ha v σ).bd fun τ => (hb τ).bd fun q => oj ih
structure ME (G : bS) (e : Ex) : Prop where
 v : ∀ σ, Mon σ.O (ev G e σ)
 t : ∀ σ, Mon σ.O (cW G e σ)
structure Eh (G : bS) (es : dZ) : Prop where
 e : ∀ σ, Mon σ.O (pU G es σ)
 a : ∀ σ, Mon σ.O (o5 G es σ)
 o : ∀ σ, Mon σ.O (SG G es σ)
 at_ : ∀ σ, Mon σ.O (uq G es σ)
 ot : ∀ σ, Mon σ.O (KD G es σ)
 ts : ∀ σ, Mon σ.O (j7 G es σ)
theorem xP {L : List Nat} {o : Option (AV × St)} (h : Mon L o) : Mon L (bd o fun r => bd (bt r.2.H r.1) fun b => some (b, r.2)) := h.bd fun _ => .opt fun _ => .ret
theorem Eh.nil : Eh G .nil := ⟨fun _ => .ret, fun _ => .no, fun _ => .no, fun _ => .ret, fun _ => .ret, fun _ => .ret⟩
theorem Eh.cons {e : Ex} {r : dZ} (h : ME G e) (k : Eh G r) : Eh G (.cons e r) where
 e := fun σ => (h.v σ).bd fun p => (k.e p.2).bd fun q => .ret
 a := fun σ => (h.v σ).bd fun p => by cases r <;> first | exact .ret | exact .opt fun b => .cond (k.a p.2) .ret
 o := fun σ => (h.v σ).bd fun p => by cases r <;> first | exact .ret | exact .opt fun b => .cond .ret (k.o p.2)
 at_ := fun σ => (h.t σ).bd fun p => .cond (k.at_ p.2) .ret
 ot := fun σ => (h.t σ).bd fun p => .cond .ret (k.ot p.2)
 ts := fun σ => (h.t σ).bd fun p => .cond (k.ts p.2) .ret
theorem wi {o : oZ} {e : Ex} {r : jJ} (h : ME G e) (k : ∀ x σ, Mon σ.O (sq G x r σ)) (x : AV) (σ : St) : Mon σ.O (sq G x (.cons o e r) σ) :=
 (h.v σ).bd fun p => .opt fun b => by cases r <;> first | exact .ret | exact .cond (k p.1 p.2) .ret
theorem wI {k : Nm} {e : Ex} {r : rX} (h : ME G e) (j : ∀ σ, Mon σ.O (yj G r σ)) (σ : St) : Mon σ.O (yj G (.cons k e r) σ) :=
 (h.v σ).bd fun p => (j p.2).bd fun q => .ret
theorem Av {ks : List (Nm × Kd)} {elt it : Ex} {t : List Nm} {cs : dZ} (h1 : ME G elt) (h2 : ME G it) (h3 : Eh G cs) (σ : St) : Mon σ.O (ev G (.comp ks elt t it cs) σ) :=
 (h2.v σ).bd fun p => .opt fun vs => Mon.bd (L := p.2.O) (lj (fun _ _ => jg) h3.ts h1.v vs ⟨p.2.H, g7 ks p.2.V, p.2.O⟩) fun q => .one
theorem a7 (e : Ex) : ME G e :=
 Ex.rec (motive_1 := fun e => ME G e) (motive_2 := fun es => Eh G es) (motive_3 := fun r => ∀ x σ, Mon σ.O (sq G x r σ)) (motive_4 := fun ks => ∀ σ, Mon σ.O (yj G ks σ))
  (fun v => ⟨fun _ => .ret, fun _ => .opt fun _ => .ret⟩) (fun x => ⟨fun _ => .opt fun _ => .ret, fun _ => .opt fun _ => .opt fun _ => .ret⟩) (fun x => ⟨fun _ => .opt fun _ => .ret, fun _ => .opt fun _ => .opt fun _ => .ret⟩) ⟨fun _ => .ret, fun _ => .no⟩ ⟨fun _ => .no, fun _ => .no⟩
  (fun e a h => ⟨fun σ => (h.v σ).bd fun _ => .opt fun _ => .ret, fun σ => (h.v σ).bd fun _ => .opt fun _ => .opt fun _ => .ret⟩)
  (fun e i h k => ⟨fun σ => (h.v σ).bd fun p => (k.v p.2).bd fun _ => .opt fun _ => .ret, fun σ => (h.v σ).bd fun p => (k.v p.2).bd fun _ => .opt fun _ => .opt fun _ => .ret⟩)
  (fun e lo hi h1 h2 h3 => ⟨fun σ => (h1.v σ).bd fun p => (h2.v p.2).bd fun q => (h3.v q.2).bd fun _ => .opt fun _ => .ret, fun _ => .no⟩) (fun o a b h k => ⟨fun σ => (h.v σ).bd fun p => (k.v p.2).bd fun _ => .opt fun _ => .app, fun _ => .no⟩)
  (fun a r h k => ⟨fun σ => (h.v σ).bd fun p => (k p.1 p.2).bd fun _ => .ret, fun σ => (h.v σ).bd fun p => k p.1 p.2⟩) (fun es h => ⟨h.a, h.at_⟩) (fun es h => ⟨h.o, h.ot⟩) (fun e h => ⟨fun σ => (h.v σ).bd fun _ => .opt fun _ => .ret, fun σ => (h.t σ).bd fun _ => .ret⟩)
  (fun e h => ⟨fun σ => (h.v σ).bd fun _ => .opt fun _ => .ret, fun _ => .no⟩) (fun t a b h1 h2 h3 => ⟨fun σ => (h1.t σ).bd fun p => .cond (h2.v p.2) (h3.v p.2), fun σ => (h1.t σ).bd fun p => .cond (h2.t p.2) (h3.t p.2)⟩)
  (fun es h => ⟨fun σ => (h.e σ).bd fun _ => .one, fun _ => .no⟩) (fun es f h => ⟨fun σ => (h.e σ).bd fun _ => .cond .one .one, fun _ => .no⟩) (fun ks f h => ⟨fun σ => (h σ).bd fun _ => .cond .one .one, fun _ => .no⟩)
  (fun f as h k => ⟨fun σ => (h.v σ).bd fun p => (k.e p.2).bd fun q => iq, fun σ => (h.v σ).bd fun p => (k.e p.2).bd fun q => xP iq⟩)
  (fun o m as h k => ⟨fun σ => (h.v σ).bd fun p => .opt fun f => (k.e p.2).bd fun q => jw, fun σ => (h.v σ).bd fun p => .opt fun f => (k.e p.2).bd fun q => xP jw⟩) (fun ks elt t it cs h1 h2 h3 => ⟨Av h1 h2 h3, fun _ => .no⟩)
  .nil (fun e r h k => Eh.cons h k) (fun _ _ => .no) (fun o e r h k => wi h k) (fun _ => .ret) (fun k e r h j => wI h j) e
theorem eS : ∀ es : dZ, Eh G es
 | .nil => .nil
 | .cons e r => .cons (a7 e) (eS r)
theorem eL {x k r : AV} : cm σ.O (tW x k r σ) := .opt fun _ => .alt (fun _ => .opt fun _ => .opt fun _ => .ret) (.opt fun _ => .opt fun _ => .opt fun _ => .ret)
theorem gH {x r : AV} {a : Nm} : cm σ.O (setAt G x a r σ) := .opt fun q => .opt fun aN => fun r e => bC e (fun e _ => cm.one r e) fun e _ => nn e
theorem m7 {t : Tg} {v : AV} (σ : St) : cm σ.O (iO G t v σ) := by
 cases t with
 | v x => exact .ret
 | «at» e a => exact ((a7 e).v σ).m8 fun p => gH
 | ix e i => exact ((a7 e).v σ).m8 fun p => ((a7 i).v p.2).m8 fun q => eL
 | bad => exact .no
theorem lh {ts : List Tg} : ∀ {vs : List AV} (σ : St), cm σ.O (i4 G ts vs σ) := by
 induction ts with
 | nil => exact fun _ => .opt fun _ => .ret
 | cons t ts ih =>
  intro vs σ
  cases vs with
  | nil => exact .no
  | cons v vs => exact (m7 σ).m8 fun p => ih p
theorem Ae {t : Tg} {o : oX} {e : Ex} : cm σ.O (MB G t o σ (ev G e)) := by
 cases t with
 | v x => exact .opt fun _ => ((a7 e).v σ).m8 fun p => .opt fun _ => .app
 | «at» e1 a => exact ((a7 e1).v σ).m8 fun p => .opt fun x => ((a7 e).v p.2).m8 fun q => .opt fun r => .r9 gH
 | ix e1 i => exact ((a7 e1).v σ).m8 fun p => ((a7 i).v p.2).m8 fun k => .opt fun x => ((a7 e).v k.2).m8 fun q => .opt fun r => .r9 eL
 | bad => exact .no
theorem uI (s : Sx) : ∀ σ, Mon σ.O (ex G s σ) :=
 Sx.rec (motive_1 := fun s => ∀ σ, Mon σ.O (ex G s σ)) (motive_2 := fun l => ∀ σ, Mon σ.O (b0 G l σ)) (fun e σ => ((a7 e).v σ).bd fun _ => .cond .ret .no) (fun t e σ => ((a7 e).v σ).bd fun p => (m7 p.2).bd fun _ => .ret) (fun x e σ => ((a7 e).v σ).bd fun _ => .st)
  (fun ts e σ => ((a7 e).v σ).bd fun p => .opt fun vs => (lh p.2).bd fun _ => .ret) (fun t o e σ => Ae.bd fun _ => .ret) (fun t a b h k σ => ((a7 t).t σ).bd fun p => .cond (h p.2) (k p.2)) (fun t b h σ => lK (a7 t).t h _ σ)
  (fun ts tup e b h σ => ((a7 e).v σ).bd fun p => .opt fun vs => qa (fun _ _ => jg) h vs p.2) (fun e σ => ((a7 e).v σ).bd fun _ => .ret) (fun _ => .ret) (fun _ => .ret) (fun e σ => ((a7 e).t σ).bd fun _ => .cond .ret .no) (fun _ => .no)
  (fun _ => .ret) (fun s r h k σ => (h σ).bd fun p => ry k) s
theorem dR : ∀ (l : cT) σ, Mon σ.O (b0 G l σ)
 | .nil, _ => .ret
 | .cons s r, σ => (uI s σ).bd fun _ => ry (dR r)
end
structure Cx (S : aP) (n : Nat) where
 fm : Fm
 ks : cG
 F : Addr → Option Obj
 A : Around
 ok : fX S fm
 kd : o2 ks fm.env
 ro : Ro (n + 1) A
noncomputable def Cx.fz {S : aP} {n : Nat} (c : Cx S n) (F : Addr → Option Obj) : Cx S n := { c with F := F }
section
variable {S : aP} {n : Nat} {α β γ δ : Type}
noncomputable def At (c : Cx S n) (W : Wd) (s : Shared) (o : Option (α × St)) (t : Sem β) (R : Wd → α → β → Prop) : Prop :=
 ∀ p, o = some p → eR p.2.O → wpAny (MD S) c.A t (bH S W c.F c.fm p.2 s (fun W => R W p.1)) no s
noncomputable abbrev Cx.I (c : Cx S n) (W : Wd) (σ : St) (s : Shared) : Prop := Inv S W c.F c.fm σ s.heap
variable {c : Cx S n} {W : Wd} {s : Shared} {σ : St} {o : Option (α × St)} {t : Sem β} {R : Wd → α → β → Prop} {R' : Wd → γ → δ → Prop}
theorem At.seq {f : α × St → Option (γ × St)} {r : γ × St} {Q : β → Shared → Prop} (h : At c W s o t R) (m : ∀ p, Mon p.2.O (f p)) (e : bd o f = some r) (hz : eR r.2.O)
  (k : ∀ W1 p b s1, f p = some r → W.Le W1 → R W1 p.1 b → c.I W1 p.2 s1 → Kp s s1 → Q b s1) : wpAny (MD S) c.A t Q no s :=
 ai e fun p e e' => Mine.seq (h p e' (m p r e hz)) fun W1 b s1 L r I k' => k W1 p b s1 e L r I k'
theorem At.bd {f : α × St → Option (γ × St)} {k : β → Sem δ} (h : At c W s o t R) (m : ∀ p, Mon p.2.O (f p)) (q : ∀ W1 p b s1, W.Le W1 → R W1 p.1 b → c.I W1 p.2 s1 → At c W1 s1 (f p) (k b) R') : At c W s (Mine.bd o f) (t >>= k) R' :=
 fun _ e hz => wpAny_bind (h.seq m e hz fun W1 p b s1 e L r I kp => iT L kp (q W1 p b s1 L r I _ e hz))
theorem At.opt {x : Option δ} {f : δ → Option (α × St)} (k : ∀ y, x = some y → At c W s (f y) t R) : At c W s (Mine.bd x f) t R := fun p e hz => ai e fun y e e' => k y e' p e hz
theorem At.cond {b : Bool} {x y : Option (α × St)} (h : b = true → At c W s x t R) (k : b = false → At c W s y t R) : At c W s (cond b x y) t R := fun p e hz => bC e (fun e q => h q p e hz) fun e q => k q p e hz
theorem At.ret {p : α × St} (h : eR p.2.O → wpAny (MD S) c.A t (bH S W c.F c.fm p.2 s (fun W => R W p.1)) no s) : At c W s (some p) t R := fun _ e => aj e h
theorem At.CM : At c W s none t R := fun _ e => nn e
theorem At.map {R2 : Wd → γ → β → Prop} {f : α × St → Option (γ × St)} (h : At c W s o t R) (k : ∀ p r, f p = some r → p.2 = r.2 ∧ ∀ W b, R W p.1 b → R2 W r.1 b) : At c W s (Mine.bd o f) t R2 :=
 fun r e hz => ai e fun p e e' => have z := k p r e; wpAny_mono (h p e' (z.1 ▸ hz)) (fun b s' q => z.1 ▸ q.map fun W _ r => z.2 W b r) fun _ _ x => x
theorem At.eq {t' : Sem β} (e : t' = t) (h : At c W s o t R) : At c W s o t' R := e ▸ h
theorem At.same {o' : Option (α × St)} (e : o' = o) (h : At c W s o t R) : At c W s o' t R := e ▸ h
theorem At.pre {t' : Sem β} (g : ∀ Q, wpAny (MD S) c.A t Q no s → wpAny (MD S) c.A t' Q no s) (h : At c W s o t R) : At c W s o t' R := fun p e hz => g _ (h p e hz)
theorem At.mf {k : Unit → Sem β} {p : Pos} (h : At c W s o (k ()) R) : At c W s o (standAt p >>= k) R := h.pre fun _ q => wpAny_bind (wpAny_standAt q)
theorem At.hold {vs : List Value} (h : At c W s o t R) : At c W s o (holding vs t) R := h.pre fun _ q => wpAny_holding q
theorem VR.truth {G : bS} {F : Addr → Option Obj} {fm : Fm} {A : Around} {E : Value → Shared → Prop} {x : AV} {b : Bool} {u : Value} {Q : Bool → Shared → Prop} (GO : a6 S G n) (h : bt σ.H x = some b) (hx : VR S W x u) (I : Inv S W F fm σ s.heap)
  (hq : ∀ s', Inv S W F fm σ s'.heap → Kp s s' → Q b s') : wpAny (MD S) A (truthy u) Q E s :=
 zJ h hx I.tobI GO.sys fun _ => hq _ I ⟨rfl, rfl⟩
noncomputable def SE (S : aP) (G : bS) (n : Nat) (i : Ex) : Prop := ∀ (c : Cx S n) (e : Expr), mE c.ks i e = true → ∀ W σ s, c.I W σ s → At c W s (ev G i σ) (eval e c.fm.env) (VR S)
noncomputable def ST (S : aP) (G : bS) (n : Nat) (i : Ex) : Prop := ∀ (c : Cx S n) (e : Expr), mE c.ks i e = true → ∀ W σ s, c.I W σ s → At c W s (cW G i σ) (isTrue e c.fm.env (eval e c.fm.env)) (fun _ b r => r = b)
noncomputable def zW (S : aP) (G : bS) (n : Nat) (i : dZ) : Prop := ∀ (c : Cx S n) (e : List Expr), jP c.ks i e = true → ∀ W σ s pos, c.I W σ s → At c W s (pU G i σ) (spliced (backTo pos (starEach e c.fm.env))) (bP S)
noncomputable def zV (S : aP) (G : bS) (n : Nat) (i : dZ) : Prop := ∀ (c : Cx S n) (e : List Expr), jP c.ks i e = true → ∀ W σ s pos, c.I W σ s → At c W s (o5 G i σ) (boolOp pos .And (evalEach e c.fm.env)) (VR S)
noncomputable def Me (S : aP) (G : bS) (n : Nat) (i : dZ) : Prop := ∀ (c : Cx S n) (e : List Expr), jP c.ks i e = true → ∀ W σ s pos, c.I W σ s → At c W s (SG G i σ) (boolOp pos .Or (evalEach e c.fm.env)) (VR S)
noncomputable def rY (S : aP) (G : bS) (n : Nat) (i : dZ) : Prop := ∀ (c : Cx S n) (e : List Expr), jP c.ks i e = true → ∀ W σ s, c.I W σ s → At c W s (uq G i σ) (allTrue .And e c.fm.env) (fun _ b r => r = b)
noncomputable def zX (S : aP) (G : bS) (n : Nat) (i : dZ) : Prop := ∀ (c : Cx S n) (e : List Expr), jP c.ks i e = true → ∀ W σ s, c.I W σ s → At c W s (KD G i σ) (allTrue .Or e c.fm.env) (fun _ b r => r = b)
noncomputable def LB (S : aP) (G : bS) (n : Nat) (i : jJ) : Prop := ∀ (c : Cx S n) (ops : List CmpOp) (cs : List Expr), mC c.ks i ops cs = true → ∀ W σ s x v pos, VR S W x v → c.I W σ s →
 At c W s (sq G x i σ) (compareChain pos v ops (markedEach ops cs (evalEach cs c.fm.env))) (fun _ b r => r = .bool b) ∧ At c W s (sq G x i σ) (testChain pos v ops (markedEach ops cs (evalEach cs c.fm.env))) (fun _ b r => r = b)
noncomputable def SK (S : aP) (G : bS) (n : Nat) (i : rX) : Prop := ∀ (c : Cx S n) (a : List (Option Expr)) (b : List Expr), mK c.ks i a b = true → ∀ W σ s pos, c.I W σ s →
 At c W s (yj G i σ) (evalPairs (pairTrees a b c.fm.env pos)) (fun W aN us => ∃ ps, Carries (PySem.strKind S.prog S.w) us ps ∧ eN S W aN ps)
variable {G : bS}
theorem dunder (x : Nm) {l : List Nat} {t : Str} (h : (!bV (CB x) l) = true) (e : t = ⟨l.toArray⟩) : (bz x == t) = false := by
 rw [e, bz, rQ]
 exact Bool.not_eq_true' _ ▸ h
theorem kX {x : Nm} (h : readable x = true) : (bz x == ("__debug__" : Str)) = false := dunder x (aX h).1 (by kernel_rfl)
theorem DH {a : List Nat} {b : Str} (h : bV a b.cps.toList = true) : b = ⟨a.toArray⟩ := by
 rw [gy] at h
 obtain ⟨⟨l⟩⟩ := b
 rw [eq_of_beq h]
theorem IW {v : AV} {k : Const} (hc : IV v k = true) (I : c.I W σ s) : At c W s (some (v, σ)) (constValue c.fm.env k) (VR S) := by
 cases k with
 | none => exact aZ hc fun _ _ e => ux e (.ret fun _ => wpAny_pure (bH.ret I .none))
 | bool b => exact aZ hc fun a h e => uu e (.ret fun _ => eq_of_beq h ▸ wpAny_pure (bH.ret I (.bool _)))
 | int b => exact aZ hc fun a h e => uw e (.ret fun _ => eq_of_beq h ▸ wpAny_mkInt (bH.tok I (.int _ _)))
 | str b => exact aZ hc fun a h e => Aa e (.ret fun _ => DH (aX h).1 ▸ wpAny_mkText (bH.tok I (.str _ _ (Nat.le_trans (Nat.le_of_ble_eq_true (aX h).2) (by decide)))))
 | _ => exact absurd hc Bool.false_ne_true
theorem UN {v : AV} : SE S G n (.c v) := fun c e h W σ s I => NK h fun k _ _ hc => .eq (eval_Constant ..) (IW hc I)
theorem MM : SE S G n .bad := fun _ _ _ _ _ _ _ => .CM
theorem S4 : SE S G n .no := fun _ _ h => (NM h).elim
theorem UP {x : Nm} : SE S G n (.v x) := fun c e h W σ s I => NO h fun pos hr => .opt fun v e => .ret fun _ => wpAny_Name (I.load c.ok e fun v r => bH.ret I r) (kX hr)
theorem UO {x : Nm} (GO : a6 S G n) : SE S G n (.g x) := fun c e h W σ s I => NL h fun pos hr hk => .opt fun v e => .ret fun _ => by
 obtain ⟨u, r, w⟩ := GO.glob x _ e W c.F σ.H s.heap I.tobI
 refine Name_function_global c.ok.kf (c.kd x _ hk) ?_ (kX hr)
 rcases w with ⟨mg, a, b⟩ | ⟨mg, mb, a, b, d, d'⟩
 ·exact loadGlobal_global (by rw [c.ok.gl]; exact a) b (bH.ret I r)
 ·exact loadGlobal_builtin (by rw [c.ok.gl]; exact a) b (by rw [c.ok.bu]; exact d) d' (bH.ret I r)
theorem wa {v : Expr} {a : Str} {env : Env} {t : Sem Value} (h : kO v = true) : attributeBase v a env t = t := by
 cases v <;> first | rfl | exact absurd h Bool.false_ne_true
theorem sub_eq {s : Expr} {o i : Value} (h : iF s = true) : subscripted s false o i = operate [o, i] (getItem o i) := by
 cases s with
 | Slice l u st p => cases st <;> exact absurd h Bool.false_ne_true
 | _ => rfl
theorem MN {o : oX} {a b : Ex} (ha : SE S G n a) (hb : SE S G n b) : SE S G n (.bin o a b) := fun c e h W σ s I => JM h fun l r pos h1 h2 => .eq (arm_eval_BinOp ..) ((ha c l h1 W σ s I).bd (fun p => ((a7 b).v _).bd fun q => .opt fun x => .app) fun W1 p u s1 L1 r1 I1 => (hb c r h2 W1 _ s1 I1).hold.bd (fun q => .opt fun x => .app) fun W2 q v s2 L2 r2 I2 => .mf (.opt fun x e => .ret fun hz => ed (Et e (r1.mono L2) r2 I2.xn hz.l)))
theorem ML {i : Ex} {a : Nm} (GO : a6 S G n) (hi : SE S G n i) : SE S G n (.at i a) := fun c e h W σ s I => Ht h fun v pos h1 h2 => .eq (arm_eval_Attribute ..) ((At.eq (wa h2) (hi c v h1 W σ s I)).bd (fun p => .opt fun r => .ret) fun W1 p u s1 L1 r1 I1 => .mf (.opt fun r e => .ret fun hz => wpAny_bind (wpAny_holding (wpAny_mono (uy e r1 GO.cls I1) (fun r s2 p => wpAny_bind (wpAny_letTemporaryGo (wpAny_pure p))) fun _ _ x => x))))
theorem MU {x i : Ex} (hx : SE S G n x) (hi : SE S G n i) : SE S G n (.ix x i) := fun c e h W σ s I => Hu h fun v sl pos h1 h2 h3 p q hz => Subscript_ ((hx c v h1 W σ s I).seq (fun p => ((a7 i).v _).bd fun q => .opt fun x => .ret) q hz fun W1 p u s1 q L1 r1 I1 k1 => (hi c sl h2 W1 _ s1 I1).seq (fun q => .opt fun x => .ret) q hz fun W2 p' w s2 q L2 r2 I2 k2 => ai q fun r q e => aj q (Exists.elim (BM (A := c.A) (E := no) e (r1.mono L2) r2 I2.tobI fun v t rv => (bH.tok (σ := p'.2) (R := fun W => VR S W r) I2 rv).lift (L1.trans L2) (k1.trans k2)) fun T z => Exists.elim z fun id z => tail_any z.1 z.2.1 z.2.2 (sub_eq h3)))
theorem xp {i : Ex} (hi : SE S G n i) {l : Option Expr} (h : opt c.ks i l) (I : c.I W σ s) : At c W s (ev G i σ) (evalPart l c.fm.env) (VR S) := by
 rcases h with ⟨rfl, rfl⟩ | ⟨l, rfl, h, _⟩
 ·exact .ret fun _ => wpAny_pure (bH.ret I .none)
 ·exact hi c l h W σ s I
theorem S6 {x lo hi : Ex} (hx : SE S G n x) (hl : SE S G n lo) (hh : SE S G n hi) : SE S G n (.sl x lo hi) := fun c e h W σ s I => NN h fun v l u p pos h1 h2 h3 _ q hz => Subscript_ ((hx c v h1 W σ s I).seq (fun p => ((a7 lo).v _).bd fun q => ((a7 hi).v _).bd fun r => .opt fun x => .ret) q hz fun W1 p o s1 q L1 r1 I1 k1 => wpAny_Slice ((xp hl h2 I1).seq (fun p => ((a7 hi).v _).bd fun r => .opt fun x => .ret) q hz fun W2 p' lv s2 q L2 r2 I2 k2 => (xp hh h3 I2).seq (fun p => .opt fun x => .ret) q hz fun W3 p'' uv s3 q L3 r3 I3 k3 => ai q fun r q e => aj q (wpAny_pure (Exists.elim (Ld (A := c.A) (E := no) e (r1.mono (L2.trans L3)) (r2.mono L3) r3 I3) fun T z => Exists.elim z fun id z => tail_any (ops := [.ref s3.heap.objs.size, o]) (z.1 _ _ _ _ _) z.2.1 (wpAny_mono z.2.2 (fun _ _ p => p.lift ((L1.trans L2).trans L3) ((k1.trans k2).trans k3)) fun _ _ x => x) rfl))))
theorem MX {i : Ex} (GO : a6 S G n) (hi : SE S G n i) : SE S G n (.not i) := fun c e h W σ s I => Cn h fun x pos h1 => .eq (arm_eval_UnaryOp ..) ((hi c x h1 W σ s I).bd (fun p => .opt fun x => .ret) fun W1 p u s1 L1 r1 I1 => .mf (.opt fun b e => .ret fun _ => wpAny_holding (not_of (VR.truth GO e r1 I1 fun s2 I2 k2 => ⟨W1, .refl W1, .bool _, I2, k2⟩))))
theorem MW {i : Ex} (hi : SE S G n i) : SE S G n (.neg i) := fun c e h W σ s I => JP h fun x pos h1 => .eq (arm_eval_UnaryOp ..) ((hi c x h1 W σ s I).bd (fun p => .opt fun x => .ret) fun W1 p u s1 L1 r1 I1 => .mf (.opt fun b e => .ret fun _ => wpAny_holding ((r1.je e).jW (P := fun u => wpAny (MD S) c.A (unaryOp .USub u) (bH S W1 c.F c.fm p.2 s1 (fun W => VR S W (.int (-b)))) no s1) fun t => P.neg_int (bH.tok I1 (.int _ _)))))
theorem BJ {x y : Option (α × St)} {p : Bool × St} {u : Bool} {t t' : Sem β} (r : u = p.1) (h : At c W s x t R) (k : At c W s y t' R) : At c W s (cond p.1 x y) (if u then t else t') R := by
 rw [r]
 generalize p.1 = b
 cases b
 ·exact k
 ·exact h
theorem MT {t a b : Ex} (ht : ST S G n t) (ha : SE S G n a) (hb : SE S G n b) : SE S G n (.ite t a b) := fun c e h W σ s I => Cm h fun t' a' b' pos h1 h2 h3 => .eq (arm_eval_IfExp ..) ((ht c t' h1 W σ s I).bd (fun p => .cond ((a7 a).v _) ((a7 b).v _)) fun W1 p u s1 L1 r1 I1 => BJ r1 (ha c a' h2 W1 _ s1 I1) (hb c b' h3 W1 _ s1 I1))
theorem M0 {es : dZ} (hs : zW S G n es) : SE S G n (.tup es) := fun c e h W σ s I => JQ h fun elts k pos h1 p q hz => wpAny_Tuple ((hs c elts h1 W σ s pos I).seq (fun p => .one) q hz fun W1 p us s1 q L1 r1 I1 k1 => aj (P := fun p => eR p.2.O → _ ∧ bH S W c.F c.fm p.2 s (fun W => VR S W p.1) _ _) q (fun hz => ⟨r1.length ▸ cX hz.hd, (bH.new (t := s1.toks) (R := fun W => VR S W (.tup p.1)) I1.xn rfl fun W' L e => .tup e hz.hd (r1.mono L)).lift L1 k1⟩) hz)
theorem Gd {vs : List AV} {us : List Value} (r : bP S W vs us) (z : vs.length ≤ dD) (I : c.I W σ s) : bH S W c.F c.fm { σ with O := vs.length :: σ.O } s (fun W => VR S W (.lst vs)) (.ref s.heap.objs.size) { s with heap := s.heap.push { cls := .type "list", data := .seq us.toArray } } :=
 bH.new (t := s.toks) I.xn rfl fun W' L e => .lst e z (r.mono L)
theorem Gb {ao : AO} {o : Obj} {os : List Nat} (r : OR S W ao o) (I : c.I W σ s) : bH S W c.F c.fm { σ with H := σ.H ++ [ao], O := os } s (fun W => VR S W (.aQ σ.H.length)) (.ref s.heap.objs.size) { s with heap := s.heap.push o } :=
 have J := I.Cz r
 ⟨_, J.2.1, .aQ J.2.2, J.1.xn, rfl, rfl⟩
theorem MV {es : dZ} {f : Bool} (hs : zW S G n es) : SE S G n (.lst es f) := fun c e h W σ s I => JO h fun elts pos h1 p q hz => wpAny_List ((hs c elts h1 W σ s pos I).seq (fun p => .cond .one .one) q hz fun W1 p us s1 q L1 r1 I1 k1 => bC q (fun q _ => aj (P := fun p => eR p.2.O → _ ∧ bH S W c.F c.fm p.2 s (fun W => VR S W p.1) _ _) q (fun hz => ⟨r1.length ▸ cX hz.hd, (Gd r1 hz.hd I1).lift L1 k1⟩) hz)
  fun q _ => aj (P := fun p => eR p.2.O → _ ∧ bH S W c.F c.fm p.2 s (fun W => VR S W p.1) _ _) q (fun hz => ⟨r1.length ▸ cX hz.hd, (Gb (.list hz.hd r1) I1).lift L1 k1⟩) hz)
end
section
variable {S : aP} {G : bS} {n : Nat} {c : Cx S n} {W : Wd} {σ : St} {s : Shared}
theorem IJ : zW S G n .nil := fun c e h W σ s pos I => by
 rw [g9 h]
 exact .ret fun _ => spliced_nil (bH.ret I .nil)
theorem lH {x : Expr} {xs : List Expr} {env : Env} (h : notStar x = true) : starEach (x :: xs) env = (false, eval x env) :: starEach xs env := by
 cases x <;> first | rfl | exact absurd h Bool.false_ne_true
theorem EC {i : Ex} {r : dZ} (hi : SE S G n i) (hr : zW S G n r) : zW S G n (.cons i r) := fun c e h W σ s pos I => fV h fun x xs h1 h2 h3 p q hz => wpAny_items_cons ((hi c x h1 W σ s I).seq (fun p => ((eS r).e _).bd fun q => .ret) q hz fun W1 p u s1 q L1 r1 I1 k1 => (hr c xs h2 W1 _ s1 pos I1).seq (fun q => .ret) q hz fun W2 p' w s2 q L2 r2 I2 k2 => aj q ⟨W2, L1.trans L2, .cons (r1.mono L2) r2, I2, k1.trans k2⟩) (lH h3)
theorem IK : SK S G n .nil := fun c a b h W σ s pos I => by
 rw [(rk h).1, (rk h).2]
 exact .ret fun _ => pairTrees_nil_walk (bH.ret I ⟨[], trivial, .nil⟩)
theorem ED {k : Nm} {i : Ex} {r : rX} (mr : ∀ σ, Mon σ.O (yj G r σ)) (hi : SE S G n i) (hr : SK S G n r) : SK S G n (.cons k i r) := fun c a b h W σ s pos I => xg h fun kd p a' v b' h1 h2 p q hz => pairTrees_cons_walk (Constant_str
 ((hi c v h1 W σ { s with toks := s.toks + 1 } I).seq (fun p => (mr _).bd fun q => .ret) q hz fun W1 p u s1 q L1 r1 I1 k1 => (hr c a' b' h2 W1 _ s1 pos I1).seq (fun q => .ret) q hz fun W2 p' w s2 q L2 r2 I2 k2 => aj q
  (Exists.elim r2 fun ps y => ⟨W2, L1.trans L2, ⟨(bz k, u) :: ps, ⟨strKind_is _ _ _ _, rfl, y.1⟩, .cons (r1.mono L2) y.2⟩, I2, (k1.trans k2).gens, (k1.trans k2).os⟩)))
theorem vj {ks : cG} {r : rX} {a : List (Option Expr)} {b : List Expr} (h : mK ks r a b = true) : a.all (·.isSome) = true ∧ a.length = b.length := by
 match r with
 | .nil => rw [(rk h).1, (rk h).2]; exact ⟨rfl, rfl⟩
 | .cons k i r => exact xg h fun kd p a' v b' h1 h2 => ⟨(vj h2).1, congrArg (· + 1) (vj h2).2⟩
theorem sO {r : rX} {σ : St} {p : List (Nm × AV) × St} (q : yj G r σ = some p) : p.1.map (·.1) = tD r := by
 match r with
 | .nil => exact aj q rfl
 | .cons k i r => exact ai q fun x q e1 => ai q fun y q e2 => aj q (congrArg (k :: ·) (sO e2))
theorem Inv.rr {F : Addr → Option Obj} {fm : Fm} {h : Heap} (I : Inv S W F fm σ h) (GO : a6 S G n) : (h.objs.size == sysModules) = false := by
 obtain ⟨o, hb⟩ := GO.sys
 have h1 := Heap.lt_size (I.p _ _ (I.base _ _ hb))
 exact Bool.eq_false_iff.mpr fun z => Nat.lt_irrefl _ ((beq_iff_eq.mp z : h.objs.size = sysModules) ▸ h1)
theorem sH {xb : rX} {keys : List (Option Expr)} {vals : List Expr} {pos : Pos} {p : List (Nm × AV) × St} {Q : Value → Shared → Prop} (GO : a6 S G n) (hk : SK S G n xb) (h1 : mK c.ks xb keys vals = true) (h2 : jZ (tD xb) = true) (h3 : 1 ≤ keys.length) (h4 : keys.length ≤ 15)
  (e : yj G xb σ = some p) (hz : eR p.2.O) (I : c.I W σ s) (k : ∀ W1 s1 a o ps, W.Le W1 → c.I W1 p.2 s1 → Kp s s1 → Un W1 c.F c.fm a → s1.heap.get? a = some o → jf S o ps → eN S W1 p.1 ps → (a == sysModules) = false → Q (.ref a) s1) :
  wpAny (MD S) c.A (eval (.Dict keys vals pos) c.fm.env) Q no s := by
 have m := vj h1
 refine wpAny_Dict_walk (knd := PySem.strKind S.prog S.w) m.1 m.2 (fun z => by rw [z] at h3; exact absurd h3 (Nat.not_succ_le_zero _)) h4 ?_
 have u := I.un
 have I0 : Inv S W (fY c.F s.heap.objs.size emptyDict) c.fm σ (s.heap.push emptyDict) := (I.push emptyDict).hold u (Heap.get?_push_size _ rfl)
 refine Mine.seq (s := { s with heap := s.heap.push emptyDict }) (hk (c.fz (fY c.F s.heap.objs.size emptyDict)) keys vals h1 W σ { s with heap := s.heap.push emptyDict } pos I0 p e hz) fun W1 us s1 L1 r1 I1 k1 => Exists.elim r1 fun ps y => ?_
 have J := I1.free u.f (fun x d kx l => u.ne (I.lY kx l))
 refine ⟨ps, y.1, AN.at J.2.2, fun h' d sb => ?_⟩
 have hn : (ps.map (·.1)).Nodup := by
  rw [y.2.keys, show p.1.map (fun p => bz p.1) = (p.1.map (·.1)).map bz from (by rw [List.map_map]; rfl), sO e]
  exact List.Pairwise.map _ (fun a b ne e => ne (iU e)) (lE h2)
 rw [merged_nil_of_nodup _ hn] at d
 exact jf.of d fun o' g3 d3 => k W1 { s1 with heap := h', toks := s1.toks + us.length } _ o' ps L1 (J.1.other c.ok J.2.1 sb) ⟨k1.gens, k1.os⟩ J.2.1 g3 d3 y.2 (I.rr GO)
theorem MS {xb : rX} {f : Bool} (GO : a6 S G n) (hk : SK S G n xb) : SE S G n (.cH xb f) := fun c e h W σ s I => JN h fun keys vals pos h1 h2 h3 h4 p q hz => ai q fun p' q e1 => bC q
 (fun q _ => aj (P := fun p => eR p.2.O → wpAny (MD S) c.A (eval (.Dict keys vals pos) c.fm.env) (bH S W c.F c.fm p.2 s fun W => VR S W p.1) no s) q (fun hz => sH GO hk h1 h2 h3 h4 e1 hz.tl I fun W1 s1 a o ps L1 I1 k1 u g d rs ns => have J := I1.xn.ud u g
  ⟨_, L1.trans J.2, .cH Wd.oE d ns hz.hd (rs.mono J.2), J.1, k1⟩) hz)
 fun q _ => aj (P := fun p => eR p.2.O → wpAny (MD S) c.A (eval (.Dict keys vals pos) c.fm.env) (bH S W c.F c.fm p.2 s fun W => VR S W p.1) no s) q (fun hz => sH GO hk h1 h2 h3 h4 e1 hz.tl I fun W1 s1 a o ps L1 I1 k1 u g d rs ns => have J := I1.xF (ao := .dict p'.1) u g (.dict rfl d hz.hd rs)
  ⟨_, L1.trans J.2.1, .aQ J.2.2, J.1.xn, k1⟩) hz
end
section
variable {S : aP} {G : bS} {n : Nat} {α β : Type} {c : Cx S n} {W : Wd} {σ : St} {s : Shared} {R : Wd → α → β → Prop}
theorem IH : zV S G n .nil := fun _ _ _ _ _ _ _ _ => .CM
theorem MZ : Me S G n .nil := fun _ _ _ _ _ _ _ _ => .CM
theorem wb {o : Option α} : bd o some = o := by cases o <;> rfl
theorem lQ {pos : Pos} {op : BoolOp} {x y : Sem Value} {r : List (Sem Value)} : boolOp pos op (x :: y :: r) = (do
  let v ← x
  standAt pos
  let t ← holding [v] (truthy v)
  match op, t with
  | .And, false | .Or, true => pure v
  | _, _ => boolOp pos op (y :: r)) := rfl
theorem At.test {x : AV} {u : Value} {b : Bool} {o : Option (α × St)} {k : Bool → Sem β} (GO : a6 S G n) (e : bt σ.H x = some b) (r : VR S W x u) (I : c.I W σ s) (h : ∀ s2, c.I W σ s2 → At c W s2 o (k b) R) : At c W s o (holding [u] (truthy u) >>= k) R :=
 fun p e' hz => wpAny_bind (wpAny_holding (VR.truth GO e r I fun s2 I2 k2 => iT (.refl W) k2 (h s2 I2 p e' hz)))
theorem IG {i : Ex} {r : dZ} (GO : a6 S G n) (hi : SE S G n i) (hr : zV S G n r) : zV S G n (.cons i r) := fun c e h W σ s pos I => fV h fun x xs h1 h2 h3 => by
 cases r with
 | nil => rw [g9 h2]; exact .same wb (hi c x h1 W σ s I)
 | cons i' r' =>
  cases xs with
  | nil => exact absurd h2 Bool.false_ne_true
  | cons x' xs' => exact .eq lQ ((hi c x h1 W σ s I).bd (fun p => .opt fun b => .cond ((eS _).a _) .ret) fun W1 p u s1 L1 r1 I1 => .mf (.opt fun b e => .test GO e r1 I1 fun s2 I2 => by
   cases b
   ·exact .ret fun _ => wpAny_pure (bH.ret I2 r1)
   ·exact hr c _ h2 W1 _ s2 pos I2))
theorem MY {i : Ex} {r : dZ} (GO : a6 S G n) (hi : SE S G n i) (hr : Me S G n r) : Me S G n (.cons i r) := fun c e h W σ s pos I => fV h fun x xs h1 h2 h3 => by
 cases r with
 | nil => rw [g9 h2]; exact .same wb (hi c x h1 W σ s I)
 | cons i' r' =>
  cases xs with
  | nil => exact absurd h2 Bool.false_ne_true
  | cons x' xs' => exact .eq lQ ((hi c x h1 W σ s I).bd (fun p => .opt fun b => .cond .ret ((eS _).o _)) fun W1 p u s1 L1 r1 I1 => .mf (.opt fun b e => .test GO e r1 I1 fun s2 I2 => by
   cases b
   ·exact hr c _ h2 W1 _ s2 pos I2
   ·exact .ret fun _ => wpAny_pure (bH.ret I2 r1)))
theorem MK {es : dZ} (hs : zV S G n es) : SE S G n (.and es) := fun c e h W σ s I => Ci h fun vs pos h1 => .eq (arm_eval_BoolOp ..) (hs c vs h1 W σ s pos I)
theorem S5 {es : dZ} (hs : Me S G n es) : SE S G n (.or es) := fun c e h W σ s I => Hv h fun vs pos h1 => .eq (arm_eval_BoolOp ..) (hs c vs h1 W σ s pos I)
theorem EB : rY S G n .nil := fun c e h W σ s I => by
 rw [g9 h]
 exact .ret fun _ => wpAny_pure (bH.ret I rfl)
theorem IP : zX S G n .nil := fun c e h W σ s I => by
 rw [g9 h]
 exact .ret fun _ => wpAny_pure (bH.ret I rfl)
theorem EA {i : Ex} {r : dZ} (hi : ST S G n i) (hr : rY S G n r) : rY S G n (.cons i r) := fun c e h W σ s I => fV h fun x xs h1 h2 h3 => .eq (arm_allTrue_cons ..) ((hi c x h1 W σ s I).bd (fun p => .cond ((eS r).at_ _) .ret) fun W1 p u s1 L1 r1 I1 => by
 obtain ⟨b, σ1⟩ := p
 obtain rfl : u = b := r1
 cases u
 ·exact .ret fun _ => wpAny_pure (bH.ret I1 rfl)
 ·exact hr c xs h2 W1 σ1 s1 I1)
theorem IM {i : Ex} {r : dZ} (hi : ST S G n i) (hr : zX S G n r) : zX S G n (.cons i r) := fun c e h W σ s I => fV h fun x xs h1 h2 h3 => .eq (arm_allTrue_cons ..) ((hi c x h1 W σ s I).bd (fun p => .cond .ret ((eS r).ot _)) fun W1 p u s1 L1 r1 I1 => by
 obtain ⟨b, σ1⟩ := p
 obtain rfl : u = b := r1
 cases u
 ·exact hr c xs h2 W1 σ1 s1 I1
 ·exact .ret fun _ => wpAny_pure (bH.ret I1 rfl))
theorem vl {op : CmpOp} {x : Expr} {t : Sem Value} (h : gg x = true) : markedBehindIn op x t = t :=
 markedBehindIn_of_false (by cases x <;> first | rfl | exact absurd h Bool.false_ne_true)
noncomputable def fC (S : aP) : Prop := ∀ (W : Wd) (F : Addr → Option Obj) (H : List AO) (A : Around) (s : Shared) (o : oZ) (x y : AV) (b : Bool) (u v : Value) (Q : Value → Shared → Prop), jT H o x y = some b → VR S W x u → VR S W y v →
 bI S W F H s.heap → A.units + 64 ≤ 9900 → Q (.bool b) s → wpAny (MD S) A (compareOp (kj o) u v) Q no s
theorem MP : LB S G n .nil := fun _ _ _ _ _ _ _ _ _ _ _ _ => ⟨.CM, .CM⟩
theorem Ro.cmp {A : Around} (r : Ro (n + 1) A) : A.units + 64 ≤ 9900 := Nat.le_trans (Nat.add_le_add_left (Nat.le_mul_of_pos_right 64 (Nat.succ_pos _)) _) r.un
theorem At.link {o : oZ} {x : AV} {v : Value} {x0 : Option (AV × St)} {t : Sem Value} {pos : Pos} {K : Value → Sem β} {f : AV × St → Bool → Option (α × St)} (CA : fC S) (rv : VR S W x v) (h : At c W s x0 t (VR S)) (m : ∀ p b, Mon p.2.O (f p b))
  (q : ∀ W1 p w s1 b, (∀ Q, Q (.bool b) s1 → wpAny (MD S) c.A (compareOp (kj o) v w) Q no s1) → VR S W1 p.1 w → c.I W1 p.2 s1 → At c W1 s1 (f p b) (K w) R) : At c W s (Mine.bd x0 fun p => Mine.bd (jT p.2.H o x p.1) fun b => f p b) (do let w ← holding [v] t; standAt pos; K w) R :=
 h.hold.bd (fun p => .opt fun b => m p b) fun W1 p w s1 L1 r1 I1 => .mf (.opt fun b e => q W1 p w s1 b (fun Q z => CA W1 c.F _ c.A s1 o _ _ _ _ _ _ e (rv.mono L1) r1 I1.tobI c.ro.cmp z) r1 I1)
theorem tJ {op op' : CmpOp} {ops' : List CmpOp} {y x' : Expr} {xs : List Expr} {env : Env} : ∃ t ts, markedEach (op' :: ops') (x' :: xs) (evalEach (x' :: xs) env) = t :: ts ∧ markedEach (op :: op' :: ops') (y :: x' :: xs) (evalEach (y :: x' :: xs) env) = eval y env :: t :: ts := by
 cases ops' <;> cases xs <;> exact ⟨_, _, rfl, rfl⟩
theorem MO {o : oZ} {i : Ex} {r : jJ} (CA : fC S) (hi : SE S G n i) (mr : ∀ x σ, Mon σ.O (sq G x r σ)) (hr : LB S G n r) : LB S G n (.cons o i r) := fun c ops cs h W σ s x v pos rv I => by
 revert hr mr
 refine FY h (fun y h1 h2 _ _ => ?_) fun y o' i' r' op' ops' x' xs h1 h2 h4 mr hr => ?_
 ·show At c W s _ (compareChain pos v [kj o] [markedBehindIn (kj o) y (eval y c.fm.env)]) _ ∧ At c W s _ (testChain pos v [kj o] [markedBehindIn (kj o) y (eval y c.fm.env)]) _
  rw [vl h2]
  exact ⟨.link CA rv (hi c y h1 W σ s I) (fun _ _ => .ret) fun W1 p w s1 b k r1 I1 => .ret fun _ => ed (k _ (bH.ret I1 rfl)), .link CA rv (hi c y h1 W σ s I) (fun _ _ => .ret) fun W1 p w s1 b k r1 I1 => .ret fun _ => wpAny_bind (ed (k _ (wpAny_holding (wpAny_truthy_bool (bH.ret I1 rfl)))))⟩
 ·obtain ⟨t, ts, ht, hm⟩ := tJ (op := kj o) (op' := op') (ops' := ops') (y := y) (x' := x') (xs := xs) (env := c.fm.env)
  have hr := fun W σ s x v rv I => hr c _ _ h4 W σ s x v pos rv I
  rw [ht] at hr
  rw [hm]
  exact ⟨.link CA rv (hi c y h1 W σ s I) (fun p _ => .cond (mr _ _) .ret) fun W1 p w s1 b k r1 I1 q e hz => wpAny_bind (wpAny_holding (k _ (wpAny_bind (wpAny_release (wpAny_bind (wpAny_holding (wpAny_truthy_bool (by
    cases b
    ·exact aj e (wpAny_pure (bH.ret I1 rfl))
    ·exact (hr W1 _ s1 _ w r1 I1).1 q e hz)))))))), .link CA rv (hi c y h1 W σ s I) (fun p _ => .cond (mr _ _) .ret) fun W1 p w s1 b k r1 I1 q e hz => wpAny_bind (wpAny_holding (k _ (wpAny_bind (wpAny_release (wpAny_bind (wpAny_holding (wpAny_truthy_bool (by
    cases b
    ·exact aj e (wpAny_pure (bH.ret I1 rfl))
    ·exact (hr W1 _ s1 _ w r1 I1).2 q e hz))))))))⟩
theorem MQ {a : Ex} {r : jJ} (ha : SE S G n a) (mr : ∀ x σ, Mon σ.O (sq G x r σ)) (hr : LB S G n r) : SE S G n (.cmp a r) := fun c e h W σ s I => Ck h fun l ops cs pos h1 h2 => .eq (arm_eval_Compare ..) ((ha c l h1 W σ s I).bd (fun p => (mr _ _).bd fun q => .ret) fun W1 p w s1 L1 r1 I1 => (hr c ops cs h2 W1 _ s1 _ w pos r1 I1).1.map fun p r e => aj (P := fun r : AV × St => p.2 = r.2 ∧ ∀ W b, b = .bool p.1 → VR S W r.1 b) e ⟨rfl, fun _ _ e => e ▸ .bool _⟩)
theorem Rw {a : Ex} {r : jJ} (ha : SE S G n a) (mr : ∀ x σ, Mon σ.O (sq G x r σ)) (hr : LB S G n r) : ST S G n (.cmp a r) := fun c e h W σ s I => Ck h fun l ops cs pos h1 h2 => .eq (arm_isTrue_Compare ..) ((ha c l h1 W σ s I).bd (fun p => mr _ _) fun W1 p w s1 L1 r1 I1 => (hr c ops cs h2 W1 _ s1 _ w pos r1 I1).2)
theorem Ry {i : Ex} (hi : ST S G n i) : ST S G n (.not i) := fun c e h W σ s I => Cn h fun x pos h1 => .eq (arm_isTrue_UnaryOp ..) ((hi c x h1 W σ s I).bd (fun p => .ret) fun W1 p u s1 L1 r1 I1 => .ret fun _ => wpAny_pure (bH.ret I1 (congrArg _ r1)))
theorem Rv {es : dZ} (hs : rY S G n es) : ST S G n (.and es) := fun c e h W σ s I => Ci h fun vs pos h1 => .eq (arm_isTrue_BoolOp ..) (hs c vs h1 W σ s I)
theorem Ut {es : dZ} (hs : zX S G n es) : ST S G n (.or es) := fun c e h W σ s I => Hv h fun vs pos h1 => .eq (arm_isTrue_BoolOp ..) (hs c vs h1 W σ s I)
theorem Rx {t a b : Ex} (ht : ST S G n t) (ha : ST S G n a) (hb : ST S G n b) : ST S G n (.ite t a b) := fun c e h W σ s I => Cm h fun t' a' b' pos h1 h2 h3 => .eq (arm_isTrue_IfExp ..) ((ht c t' h1 W σ s I).bd (fun p => .cond ((a7 a).t _) ((a7 b).t _)) fun W1 p u s1 L1 r1 I1 => BJ r1 (ha c a' h2 W1 _ s1 I1) (hb c b' h3 W1 _ s1 I1))
theorem oS {i : Ex} (GO : a6 S G n) (hi : SE S G n i) (hs : ∀ ks e, mE ks i e = true → ∀ env whole, isTrue e env whole = (do let v ← whole; standAt e.pos; holding [v] (truthy v)))
  (ht : ∀ σ p, cW G i σ = some p → ∃ v, ev G i σ = some (v, p.2) ∧ bt p.2.H v = some p.1) : ST S G n i := fun c e h W σ s I p q hz => Exists.elim (ht σ p q) fun v z => isTrue_plain (Mine.seq (hi c e h W σ s I _ z.1 hz) fun W1 u s1 L1 r1 I1 k1 => VR.truth GO z.2 r1 I1 fun s2 I2 k2 =>
 ⟨W1, L1, rfl, I2, k1.trans k2⟩) (hs _ _ h _ _)
theorem iY {i : Ex} (h : ∀ σ, cW G i σ = none) : ST S G n i := fun _ _ _ _ σ _ _ p e => nn ((h σ).symm.trans e)
end
section
variable {S : aP} {G : bS} {n : Nat} {W W' : Wd} {F : Addr → Option Obj} {fm : Fm} {σ : St} {s : Shared} {A : Around} {E : Value → Shared → Prop}
noncomputable def MR (S : aP) (W : Wd) (m : Sum AV (AV × Nm)) (f : Value) (vs : List Value) : Prop := match m with
 | .inl v => (VR S W v f ∧ vs = []) ∨ (∃ g x u, v = .ba g x ∧ VR S W x u ∧ f = .ref (S.fa g) ∧ vs = [u])
 | .inr p => (∃ l o t, p.1 = .str l ∧ i6 p.2 = some o ∧ l.length ≤ dD ∧ f = .builtin (oP o) ∧ vs = [.str ⟨l.toArray⟩ t]) ∨ (∃ k o a, p.1 = .aQ k ∧ kK p.2 = some o ∧ W.ρ[k]? = some a ∧ f = .builtin (ri o) ∧ vs = [.ref a])
theorem MR.mono {m : Sum AV (AV × Nm)} {f : Value} {vs : List Value} (L : W.Le W') (h : MR S W m f vs) : MR S W' m f vs := by
 cases m with
 | inl v => exact h.imp (fun z => ⟨z.1.mono L, z.2⟩) (.imp fun g => .imp fun x => .imp fun u z => ⟨z.1, z.2.1.mono L, z.2.2⟩)
 | inr p => exact h.imp id (.imp fun k => .imp fun o => .imp fun a z => ⟨z.1, z.2.1, L.get z.2.2.1, z.2.2.2⟩)
theorem vn {C x : Addr} {ox : Obj} {od : Option Obj} {name : Str} {pl : Sem Bool} {Q : Value × List Value → Shared → Prop} (X : S.K.In s.heap) (I : InstAt s.heap x ox C od)
  (hga : findIn S.K (.ref C) "__getattribute__" = some (some (.builtin "object.__getattribute__"))) (hk : findIn S.K (.ref C) "__getattr__" = some none)
  (hf : findIn S.K (.ref C) name = some none) (h : wpAny (MD S) A (getAttr (.ref x) name) (fun v s' => Q (v, []) s') E s) :
  wpAny (MD S) A (getMethod (.ref x) name pl) Q E s := by
 have hcan := PySem.F.canon_object_ga
 unfold getMethod specialOf
 refine wpAny_bind (wpAny_bind (I.type.here ((looks_findIn X hga).here ?_)))
 dsimp only
 rw [hcan, if_neg (by decide)]
 refine wpAny_bind (wpAny_bind (I.type.here ((looks_findIn X hk).here ?_)))
 refine wpAny_bind (wpAny_bind (I.type.here ((looks_findIn X hf).here ?_)))
 exact wpAny_bind (wpAny_mono h (fun v s' q => wpAny_pure q) fun _ _ z => z)
theorem DI {m : Nm} {o : SO} {x : Str} {t : Tok} {pl : Sem Bool} {Q : Value × List Value → Shared → Prop} (h : i6 m = some o) (q : Q (.builtin (oP o), [.str x t]) s) : wpAny (MD S) A (getMethod (.str x t) (bz m) pl) Q E s := DG h ▸ GK q
theorem Cg {m : Nm} {o : LO} {a : Addr} {items : Array Value} {n : Nat} {pl : Sem Bool} {Q : Value × List Value → Shared → Prop} (h : kK m = some o) (g : s.heap.get? a = some { cls := .type "list", data := .seq items n }) (q : Q (.builtin (ri o), [.ref a]) s) : wpAny (MD S) A (getMethod (.ref a) (bz m) pl) Q E s := Cf h ▸ FW g q
theorem Cv {x : AV} {m : Nm} {f : Sum AV (AV × Nm)} {o : Value} {pl : Sem Bool} (h : gu G σ.H x m = some f) (hx : VR S W x o) (GO : a6 S G n) (I : Inv S W F fm σ s.heap) :
  wpAny (MD S) A (getMethod o (bz m) pl) (bH S W F fm σ s (fun W p => MR S W f p.1 p.2)) no s :=
 bL h (fun q h e => ai h fun aN h e' => (hx.o6 e).wV I.tobI e' fun x d od ps r1 g dd rs z J hx => have C := GO.cls q.1
   Cw (P := fun f => wpAny (MD S) A (getMethod (.ref x) (bz m) pl) (bH S W F fm σ s (fun W p => MR S W f p.1 p.2)) no s) h
    (fun g hm hl => method_fn I.K J C.ga C.gt (C.ba m g hm).1 (C.ba m g hm).2 (show (PySem.W.lookIn (bz m) od).map (·.isSome) = some false by rw [dd.lookIn, rs.rd hl]; rfl) (bH.ret I (.inr ⟨g, _, _, rfl, hx, rfl, rfl⟩)))
    fun v hm hc hl => vn I.K J C.ga C.gt (C.CM m hm hc) (wpAny_mono (uy (G := G) (x := .inst q.1 q.2) (az rfl (az e' ((Ad hm hc).trans hl))) hx GO.cls I) (fun u s' p => p.map (R' := fun W (p : Value × List Value) => MR S W (.inl v) p.1 p.2) (b := (u, [])) fun _ _ r => .inl ⟨r, rfl⟩) fun _ _ x => x)) fun h =>
 bL h (fun l h e => ai h fun op h e' => (hx.gx e).gh fun t z => aj h (DI e' (bH.ret I (.inl ⟨l, op, t, rfl, e', z, rfl, rfl⟩)))) fun h =>
 ai h fun k h e => ai h fun op h e' => ai h fun vs h e2 => (hx.dU e).y6 I.tobI e2 fun a items j r g _ _ _ => aj h (Cg e' g (bH.ret I (.inr ⟨k, op, a, rfl, e', r, rfl, rfl⟩)))
theorem An {q : AV × Nm} {fv : Value} {first : List Value} {as : List AV} {vs : List Value} {p : AV × St} (h : Am q as σ = some p) (hf : MR S W (.inr q) fv first) (rs : bP S W as vs) (ok : fX S fm) (I : Inv S W F fm σ s.heap) (hz : eR p.2.O) :
  wpAny (MD S) A (call fv (first ++ vs)) (bH S W F fm p.2 s (VP S p.1)) no s := by
 obtain ⟨v, m⟩ := q
 revert hz
 rcases hf with ⟨l, o, t, rfl, e, z, rfl, rfl⟩ | ⟨k, o, a, rfl, e, r, rfl, rfl⟩
 ·exact ai (h : bd (js σ.H m l as) _ = _) fun q h e' => aj h fun hz => wpAny_mono (DE e' e z rs I hz.l) (fun _ _ p => p.xn) fun _ _ x => x
 ·exact ai (h : bd (eJ σ.H k) _ = _) fun xs h e1 => ai h fun q h e2 => aj h fun hz => Exists.elim (I.hs k a _ r (om e1)) fun ob g => (OR.listE (P := fun ob => s.heap.get? a = some ob → _) g.2 fun items j z rl g => wpAny_mono (FV e2 e r g rl.size z rl rs ok I hz.l) (fun _ _ p => p.xn) fun _ _ x => x) g.1
theorem Ao {f : Sum AV (AV × Nm)} {fv : Value} {first : List Value} {as : List AV} {vs : List Value} {p : AV × St} (GO : a6 S G n) (h : ip G f as σ = some p) (hf : MR S W f fv first) (rs : bP S W as vs) (ok : fX S fm) (ro : Ro (n + 1) A)
  (I : Inv S W F fm σ s.heap) (hz : eR p.2.O) : wpAny (MD S) A (call fv (first ++ vs)) (bH S W F fm p.2 s (VP S p.1)) no s := by
 cases f with
 | inr q => exact An h hf rs ok I hz
 | inl v =>
  revert hz
  rcases hf with ⟨hv, rfl⟩ | ⟨g, x, u, rfl, r, rfl, rfl⟩
  ·exact fun hz => sk GO h hv rs ok ro I hz
  ·have h : lG (G.call g (x :: as) σ.H) σ some = some p := h
   exact mR h fun q v e e' => aj e fun hz => wpAny_call (called GO e' (.cons r rs) ok (ro.mono (Nat.le_succ n)) I hz.l)
theorem kg {v : AV} {as : List AV} {p : AV × St} (h : eE G v as σ = some p) : qB v = true :=
 nk (P := fun v _ => qB v = true) h (fun _ _ _ => rfl) (fun _ _ _ _ => rfl) (fun _ _ _ _ => rfl) fun _ _ _ => rfl
theorem BS {f : Sum AV (AV × Nm)} {fv : Value} {first : List Value} {as : List AV} {r : AV × St} (GO : a6 S G n) (hf : MR S W f fv first) (hc : ip G f as σ = some r) : Keeps S W fv := by
 cases f with
 | inl v =>
  rcases hf with ⟨hv, _⟩ | ⟨g, x, u, _, _, rfl, _⟩
  ·exact w9 GO hv (kg (G := G) (σ := σ) hc)
  ·exact fun h q => keeps_K (GO.kf _).1 h q.1
 | inr p => rcases hf with ⟨l, o, t, _, _, _, rfl, _⟩ | ⟨k, o, a, _, _, _, rfl, _⟩ <;> exact BU
theorem j6 {ks : cG} {r : dZ} {es : List Expr} {pos : Pos} {env : Env} (h : jP ks r es = true) : (backTo pos (starEach es env)).any (·.1) = false := by
 match r with
 | .nil => rw [g9 h]; rfl
 | .cons i r =>
  refine fV h fun x xs h1 h2 h3 => ?_
  rw [lH h3]
  exact j6 (pos := pos) h2
theorem Em {M : Model} {ks : cG} {r : dZ} {es : List Expr} {pos : Pos} {env : Env} {f : Value} {Q : Args → Shared → Prop} (h : jP ks r es = true)
  (q : wpAny M A (spliced (backTo pos (starEach es env))) (fun vs s' => Q ⟨vs, []⟩ s') E s) : wpAny M A (evalArgs f true (backTo pos (starEach es env)) []) Q E s := by
 cases r with
 | nil =>
  obtain rfl := g9 h
  unfold evalArgs
  show wpAny M A (spliced [] >>= _) Q E s
  refine wpAny_bind (wpAny_mono q (fun vs s' h' => ?_) fun _ _ x => x)
  refine wpAny_holding ?_
  exact wpAny_bind (wpAny_pure (wpAny_bind (wpAny_pure (wpAny_pure h'))))
 | cons i r =>
  revert q
  refine fV h fun x xs h1 h2 h3 q => ?_
  rw [lH h3] at q ⊢
  exact evalArgs_plain q
theorem Jm {ks : cG} {as : dZ} {args : List Expr} {pos : Pos} {env : Env} (h2 : jP ks as args = true) (h5 : args.length ≤ 20) : methodCallForm (args.length + 0) (backTo pos (starEach args env)) [] = true := by
 unfold methodCallForm
 have : (backTo pos (starEach args env)).all (fun x => !x.1) = true := by
  have := j6 (pos := pos) (env := env) h2
  rw [List.any_eq_false] at this
  rw [List.all_eq_true]
  intro y hy
  have := this y hy
  simpa using this
 rw [this]
 simp; omega
theorem F9 {v : Expr} {env : Env} {apos pos : Pos} (h4 : apos.endLine = pos.line) : methodCallPos true v env apos pos = pure pos := by
 unfold methodCallPos
 rw [h4]; simp
theorem EH {g : Expr} {args : List Expr} {pos : Pos} {env : Env} (h : notAttr g = true) : eval (.Call g args [] pos) env = (do callWith pos (← eval g env) [] (backTo pos (starEach args env)) []) := by
 cases g <;> first | rfl | exact absurd h Bool.false_ne_true
end
section
variable {S : aP} {G : bS} {n : Nat} {α : Type} {c : Cx S n} {W : Wd} {σ : St} {s : Shared}
theorem At.args {r : dZ} {es : List Expr} {pos pos' : Pos} {f : Value} {first : List Value} {g : List AV × St → Option (α × St)} {R : Wd → α → Value → Prop} (hs : zW S G n r) (h : jP c.ks r es = true) (m : ∀ p, Mon p.2.O (g p)) (I : c.I W σ s) (hk : ∀ p q, g p = some q → Keeps S W f)
  (k : ∀ W1 p vs s1, W.Le W1 → bP S W1 p.1 vs → c.I W1 p.2 s1 → At c W1 s1 (g p) (call f (first ++ vs)) R) : At c W s (Mine.bd (pU G r σ) g) (callWith pos' f first (backTo pos (starEach es c.fm.env)) []) R := fun q e hz => ai e fun p e e' =>
 callWith_of (P := fun h => S.K.In h ∧ ∀ a o, W.P a = some o → h.get? a = some o) (by rw [j6 h]; rfl) (hk p q e) (Em h (Mine.seq (hs c es h W σ s pos I p e' (m p q e hz)) fun W1 vs s1 L1 r1 I1 k1 => ⟨⟨I1.K, fun a o e => I1.p a o (L1.P a o e)⟩, iT L1 k1 (k W1 p vs s1 L1 r1 I1 q e hz)⟩))
theorem Ak {f : Ex} {as : dZ} (GO : a6 S G n) (hf : SE S G n f) (hs : zW S G n as) : SE S G n (.call f as) := fun c e h W σ s I => xe h fun g args pos h1 h2 h3 => .eq (EH h3) ((hf c g h1 W σ s I).bd (fun p => ((eS as).e _).bd fun q => iq) fun W1 p w s1 L1 r1 I1 => .args hs h2 (fun q => iq) I1 (fun q r e => w9 GO r1 (kg e)) fun W2 q us s2 L2 r2 I2 r e hz => sk GO e (r1.mono L2) r2 c.ok c.ro I2 hz)
theorem At.aw {v : Expr} {m : Nm} {apos pos : Pos} {w : Value} {ks : cG} {as : dZ} {args : List Expr} {o : Option (α × St)} {R : Wd → α → Value → Prop} {R1 : Wd → Value × List Value → Prop} (h2 : jP ks as args = true) (h4 : apos.endLine = pos.line) (h5 : args.length ≤ 20)
  (p : ∀ pl, wpAny (MD S) c.A (getMethod w (bz m) pl) (bH S W c.F c.fm σ s R1) no s) (k : ∀ W1 fx s1, W.Le W1 → R1 W1 fx → c.I W1 σ s1 → At c W1 s1 o (callWith pos fx.1 fx.2 (backTo pos (starEach args c.fm.env)) []) R) :
  At c W s o (methodCall v (bz m) apos pos c.fm.env w (args.length + 0) (backTo pos (starEach args c.fm.env)) []) R := fun q e hz => by
 unfold methodCall
 rw [Jm h2 h5]
 refine wpAny_bind (wpAny_holding (Mine.seq (p _) fun W1 fx s1 L1 r1 I1 k1 => ?_))
 obtain ⟨fv, first⟩ := fx
 dsimp only
 rw [F9 h4]
 exact wpAny_bind (wpAny_pure (iT L1 k1 (k W1 (fv, first) s1 L1 r1 I1 q e hz)))
theorem we {o : Ex} {m : Nm} {as : dZ} (GO : a6 S G n) (ho : SE S G n o) (hs : zW S G n as) : SE S G n (.aw o m as) := fun c e h W σ s I => tI h fun v apos args pos h1 h2 h3 h4 h5 => .eq (arm_eval_Call ..) ((At.eq (wa h3) (ho c v h1 W σ s I)).bd (fun p => .opt fun f => ((eS as).e _).bd fun q => jw) fun W1 p w s1 L1 r1 I1 => .mf (.opt fun f e => .aw h2 h4 h5 (fun pl => Cv e r1 GO I1) fun W2 fx s2 L2 r2 I2 => .args hs h2 (fun q => jw) I2 (fun q r e => BS GO r2 e) fun W3 q us s3 L3 r3 I3 r e hz => Ao GO e (r2.mono L3) r3 c.ok c.ro I3 hz))
end
noncomputable def gR : List String := ["list_iterator", "tuple_iterator", "str_iterator", "str_ascii_iterator", "range_iterator"]
structure uh (S : aP) (W : Wd) (HC : List AO → Prop) (xs : List AV) (I : Addr) (St : Nat → Heap → Prop) : Prop where
 obj : ∀ i h, St i h → ∃ o T, h.get? I = some o ∧ o.cls = .type T ∧ T ∈ gR
 frame : ∀ i (h h' : Heap), St i h → (∀ o, h.get? I = some o → h'.get? I = some o) → St i h'
 item : ∀ (W' : Wd) (F : Addr → Option Obj) (H : List AO) (A : Around) (s : Shared) (i : Nat) (Q : Option Value → Shared → Prop), W.Le W' → bI S W' F H s.heap → HC H → A.handled = none → St i s.heap → i < xs.length →
  (∀ v h' tk, VR S W' (xs.getD i .none) v → St (i + 1) h' → Heap.ExtBut I s.heap h' → Q (some v) { s with heap := h', toks := tk }) → wpAny (MD S) A (pyNext (.ref I)) Q no s
 done : ∀ (W' : Wd) (F : Addr → Option Obj) (H : List AO) (A : Around) (s : Shared) (Q : Option Value → Shared → Prop), W.Le W' → bI S W' F H s.heap → HC H → A.handled = none → St xs.length s.heap →
  (∀ h' tk, Heap.ExtBut I s.heap h' → Q none { s with heap := h', toks := tk }) → wpAny (MD S) A (pyNext (.ref I)) Q no s
 self : ∀ i (A : Around) (s : Shared) (Q : Value → Shared → Prop), St i s.heap → Q (.ref I) s → wpAny (MD S) A (pyIter (.ref I)) Q no s
section
variable {S : aP} {G : bS} {n : Nat} {W W' : Wd} {F : Addr → Option Obj} {fm : Fm} {σ : St} {s : Shared} {A : Around} {E : Value → Shared → Prop} {h h' : Heap}
theorem Be {I : Addr} {o : Obj} {T : String} {tg : Expr} {v : Value} {Q : Unit → Shared → Prop} (e : s.heap.get? I = some o) (hc : o.cls = .type T) (hT : T ∈ gR) (q : Q () s) :
  wpAny (MD S) A (letOwnedTupleGo tg (.ref I) v) Q E s := by
 have hn : (["enumerate", "zip", "dict_itemiterator", "dict_reverseitemiterator", "odict_iterator", "itertools.zip_longest", "itertools.pairwise"] : List String).contains T = false := by
  simp only [gR, List.mem_cons, List.not_mem_nil, or_false] at hT
  rcases hT with rfl | rfl | rfl | rfl | rfl <;> decide +kernel
 obtain ⟨oc, od, dt, sl⟩ := o
 dsimp only at hc
 subst hc
 have step : ∀ a : Addr, wpAny (MD S) A (do
   let o ← load I
   match o.cls, o.data with
   | .type n, .fields vs =>
    if (["enumerate", "zip", "dict_itemiterator", "dict_reverseitemiterator", "odict_iterator", "itertools.zip_longest", "itertools.pairwise"] : List String).contains n && vs[0]? == some (rawInt a) then
     rule "for.unpacks-the-owned-tuple"
     updateField I 0 .none
   | _, _ => pure ()) Q E s := fun a => by
  refine wpAny_bind (wpAny_load e ?_)
  cases dt <;> first | exact wpAny_pure q | skip
  dsimp only
  rw [hn]
  exact wpAny_pure q
 cases tg <;> first | exact wpAny_pure q | skip
 ·cases v <;> first | exact wpAny_pure q | exact step _
 ·cases v <;> first | exact wpAny_pure q | exact step _
theorem uh.go {HC : List AO → Prop} {xs : List AV} {I : Addr} {St : Nat → Heap → Prop} {i : Nat} {tg : Expr} {v : Value} {Q : Unit → Shared → Prop} (It : uh S W HC xs I St) (st : St i s.heap) (q : Q () s) : wpAny (MD S) A (letOwnedTupleGo tg (.ref I) v) Q no s :=
 Exists.elim (It.obj i _ st) fun o z => Exists.elim z fun T z => Be z.1 z.2.1 z.2.2 q
theorem nW {T : String} {h : Heap} {I : Addr} {P : Obj → Prop} (m : T ∈ gR) (q : ∃ o, h.get? I = some o ∧ o.cls = .type T ∧ P o) : ∃ o T, h.get? I = some o ∧ o.cls = .type T ∧ T ∈ gR := Exists.elim q fun o z => ⟨o, T, z.1, z.2.1, m⟩
theorem BI {vs : List AV} {items : Array Value} (rs : bP S W vs items.toList) : items[vs.length]? = none := Array.getElem?_eq_none (Nat.le_of_eq rs.size)
theorem uh.list {vs : List AV} {ax I : Addr} (HC : List AO → Prop)
  (hl : ∀ (W' : Wd) (F : Addr → Option Obj) (H : List AO) (h : Heap), W.Le W' → bI S W' F H h → HC H → ∃ items, h.IsList ax items ∧ bP S W' vs items.toList) :
  uh S W HC vs I (fun i h => h.IsListIter I ax i) where
 obj := fun i h q => nW (.head _) q
 frame := fun i h h' q k => q.at k
 item := fun W' F H A s i Q L J hc hh q hi k => Exists.elim (hl W' F H s.heap L J hc) fun items z => Exists.elim (z.2.get hi) fun v y => wpAny_pyNext_list_item q z.1 (Array.getElem?_toList.symm.trans y.1) fun h' q' sb => k v h' s.toks y.2 q' sb.extBut
 done := fun W' F H A s Q L J hc hh q k => Exists.elim (hl W' F H s.heap L J hc) fun items z => wpAny_pyNext_list_end hh q z.1 (BI z.2) fun h' sb => k h' s.toks sb
 self := fun i A s Q q k => wpAny_pyIter_listiter q k
theorem uh.tuple {vs : List AV} {ax I : Addr}
  (hl : ∀ (W' : Wd) (F : Addr → Option Obj) (H : List AO) (h : Heap), W.Le W' → bI S W' F H h → ∃ items, h.IsTuple ax items ∧ bP S W' vs items.toList) :
  uh S W (fun _ => True) vs I (fun i h => h.IsTupleIter I ax i) where
 obj := fun i h q => nW (.tail _ (.head _)) q
 frame := fun i h h' q k => q.at k
 item := fun W' F H A s i Q L J hc hh q hi k => Exists.elim (hl W' F H s.heap L J) fun items z => Exists.elim (z.2.get hi) fun v y => wpAny_pyNext_tuple_item q z.1 (Array.getElem?_toList.symm.trans y.1) fun h' q' sb => k v h' s.toks y.2 q' sb.extBut
 done := fun W' F H A s Q L J hc hh q k => Exists.elim (hl W' F H s.heap L J) fun items z => wpAny_pyNext_tuple_end hh q z.1 (BI z.2) fun h' sb => k h' s.toks sb
 self := fun i A s Q q k => wpAny_pyIter_tupleiter q k
theorem uh.range {k : Nat} {I : Addr} : uh S W (fun _ => True) ((List.range k).map fun (i : Nat) => .int i) I (fun i h => IsRangeIter h I (i : Int) ((k : Int) - (i : Int)) 1) where
 obj := fun i h q => ⟨_, _, q, rfl, .tail _ (.tail _ (.tail _ (.tail _ (.head _))))⟩
 frame := fun i h h' q k => k _ q
 item := fun W' F H A s i Q L J hc hh q hi kk => by
  have hi' : i < k := by simpa using hi
  refine wpAny_pyNext_range_item q (Int.sub_pos_of_lt (Int.ofNat_lt.mpr hi')) fun h' q' sb => kk _ h' _ ?_ ?_ sb.extBut
  ·have : ((List.range k).map fun (i : Nat) => AV.int i).getD i .none = .int i := by simp [hi']
   rw [this]; exact .int _ _
  ·have e2 : (k : Int) - ((i + 1 : Nat) : Int) = (k : Int) - (i : Int) - 1 := by omega
   rw [e2]; exact q'
 done := fun W' F H A s Q L J hc hh q kk => by
  rw [List.length_map, List.length_range] at q
  exact wpAny_pyNext_range_end hh q (Int.le_of_eq (Int.sub_self _)) fun h' sb => kk h' s.toks sb
 self := fun i A s Q q k => wpAny_pyIter_rangeiter q k
theorem uh.str {str : List Nat} {t : Tok} {I : Addr} (T : String) (hT : T = "str_ascii_iterator" ∨ T = "str_iterator") : uh S W (fun _ => True) (str.map fun c => .str [c]) I (fun i h => h.IsStrIter I T ⟨str.toArray⟩ t i) where
 obj := fun i h q => nW (by rcases hT with rfl | rfl <;> decide) q
 frame := fun i h h' q k => Exists.elim q fun o r => ⟨o, k o r.1, r.2⟩
 item := fun W' F H A s i Q L J hc hh q hi kk => by
  have hi' : i < str.length := by simpa using hi
  have hr : VR S W' ((str.map fun c => AV.str [c]).getD i .none) (.str ⟨#[str[i]]⟩ s.toks) := by
   have : (str.map fun c => AV.str [c]).getD i .none = .str [str[i]] := by simp [hi']
   rw [this]; exact .str [_] _ rB
  rcases hT with rfl | rfl
  ·exact wpAny_pyNext_ascii_item q (c := str[i]) (by simp [hi']) fun h' q' sb => kk _ h' _ hr q' sb.extBut
  ·exact wpAny_pyNext_wide_item q (c := str[i]) (by simp [hi']) fun h' q' sb => kk _ h' _ hr q' sb.extBut
 done := fun W' F H A s Q L J hc hh q kk => by
  rw [List.length_map] at q
  rcases hT with rfl | rfl
  ·exact wpAny_pyNext_ascii_end hh q (by simp) fun h' sb => kk h' s.toks sb
  ·exact wpAny_pyNext_wide_end hh q (by simp) fun h' sb => kk h' s.toks sb
 self := fun i A s Q q k => by
  rcases hT with rfl | rfl
  ·exact wpAny_pyIter_striter_ascii q k
  ·exact wpAny_pyIter_striter_wide q k
theorem md {m : Nat} (z : m ≤ dD) : Builtin.Range.rangeSize 0 m 1 = m ∧ Builtin.Range.small 0 m 1 = true := by
 have e1 : Builtin.Range.rangeSize 0 m 1 = m := by
  unfold Builtin.Range.rangeSize
  rw [if_pos (by decide)]
  split <;> omega
 refine ⟨e1, ?_⟩
 unfold Builtin.Range.small
 rw [e1]
 have := iL z
 have q : ∀ i : Int, 0 ≤ i → i ≤ m → Builtin.Range.rangeFitsLong i = true := fun i a b => Bool.and_eq_true_iff.mpr ⟨decide_eq_true (by omega), decide_eq_true (by omega)⟩
 have q1 : Builtin.Range.rangeFitsLong 1 = true := by decide +kernel
 rw [q 0 (Int.le_refl _) (Int.natCast_nonneg m), q m (Int.natCast_nonneg m) (Int.le_refl _), q1, if_pos (by decide), q (m + (1 - 1)) (by omega) (by omega)]
 rw [Bool.or_true]; rfl
theorem wZ {x : AV} {xs : List AV} {u : Value} {Q : Value → Shared → Prop} (hx : lV x = some xs) (hv : VR S W x u) (I : Inv S W F fm σ s.heap)
  (k : ∀ o St, o.isFreed = false → uh S W (fun _ => True) xs s.heap.objs.size St → St 0 (s.heap.push o) → Q (.ref s.heap.objs.size) { s with heap := s.heap.push o }) :
  wpAny (MD S) A (pyIter u) Q no s := by
 cases x with
 | str l =>
  cases hx
  refine hv.gh fun t z => ?_
  cases ha : (⟨l.toArray⟩ : Str).cps.all (· < 128)
  ·exact wpAny_pyIter_wide ha (k _ _ rfl (.str _ (.inr rfl)) ⟨_, Heap.get?_push_size _ rfl, rfl, rfl⟩)
  ·exact wpAny_pyIter_ascii ha (k _ _ rfl (.str _ (.inl rfl)) ⟨_, Heap.get?_push_size _ rfl, rfl, rfl⟩)
 | tup vs =>
  cases hx
  exact hv.rS fun a items m d sl e z r => wpAny_pyIter_tuple ⟨_, I.p _ _ e, rfl, m, rfl⟩ (k _ _ rfl (.tuple fun W' F H h L J => ⟨items, ⟨_, J.p _ _ (L.P _ _ e), rfl, m, rfl⟩, r.mono L⟩) ⟨_, Heap.get?_push_size _ rfl, rfl, rfl⟩)
 | lst vs =>
  cases hx
  exact hv.vi fun a items m d sl e z r => wpAny_pyIter_list ⟨_, I.p _ _ e, rfl, m, rfl⟩ (k _ _ rfl (.list _ fun W' F H h L J _ => ⟨items, ⟨_, J.p _ _ (L.P _ _ e), rfl, m, rfl⟩, r.mono L⟩) ⟨_, Heap.get?_push_size _ rfl, rfl, rfl⟩)
 | pD m =>
  cases hx
  refine hv.Gx fun a _ _ _ e z => wpAny_pyIter_range (I.p _ _ e) (md z).2 ?_
  rw [(md z).1]
  exact k _ _ rfl .range (Heap.get?_push_size _ rfl)
 | _ => exact nn hx
end
section
variable {S : aP} {G : bS} {n : Nat} {W W' : Wd} {F : Addr → Option Obj} {fm : Fm} {σ : St} {s : Shared} {A : Around} {E : Value → Shared → Prop} {h h' : Heap}
theorem lP {x : Nm} {av : AV} {v : Value} {pos : Pos} {Q : Unit → Shared → Prop} (ok : fX S fm) (os : fm.env.kindOf (bz x) = some .cell → zR S fm) (I : Inv S W F fm σ s.heap) (r : VR S W av v)
  (k : fm.env.kindOf (bz x) = some .local ∨ fm.env.kindOf (bz x) = some .cell)
  (q : ∀ s', Inv S W F fm { σ with V := pt σ.V x av } s'.heap → Kp s s' → Q () s') : wpAny (MD S) A (assign (.Name (bz x) pos) fm.env v) Q E s := by
 rw [arm_assign_Name]
 exact wpAny_bind (wpAny_standAt (wpAny_bindName (I.store ok os r k q)))
theorem iP {x : Nm} {av : AV} {v : Value} {pos : Pos} {Q : Unit → Shared → Prop} (ok : fX S fm) (I : Inv S W F fm σ s.heap) (r : VR S W av v) (k : fm.env.kindOf (bz x) = some .local)
  (q : ∀ s', Inv S W F fm { σ with V := pt σ.V x av } s'.heap → Kp s s' → Q () s') : wpAny (MD S) A (assign (.Name (bz x) pos) fm.env v) Q E s :=
 lP ok (fun z => by rw [k] at z; cases z) I r (.inl k) q
@[elab_as_elim] theorem qu {P : List Expr → Prop} {x : Nm} {xs : List Nm} {l : List Expr} (h : vL (x :: xs) l = true) (f : ∀ pos es, vL xs es = true → P (.Name (bz x) pos :: es)) : P l := by
 cases l with
 | nil => exact absurd h Bool.false_ne_true
 | cons e es => exact to2 (P := fun e => P (e :: es)) (F := fun s => .Name s (bW e).p) (dq (aX (aX h).1).1) (gc (aX (aX h).1).2) (f _ _ (aX h).2)
theorem GQ {env : Env} {ts : List Nm} {es : List Expr} (h : vL ts es = true) : (assignEach es env).length = ts.length ∧ (assignEach es env).findIdx? (·.1) = none := by
 induction ts generalizing es with
 | nil => rw [List.isEmpty_iff.mp h]; exact ⟨rfl, rfl⟩
 | cons x xs ih =>
  refine qu h fun pos es h2 => ⟨congrArg (· + 1) (ih h2).1, ?_⟩
  show List.findIdx? (fun x : Bool × (Value → Sem Unit) => x.1) ((false, assign (.Name (bz x) pos) env) :: assignEach es env) = none
  rw [List.findIdx?_cons, (ih h2).2]; rfl
theorem vX {α : Type} {l : List α} {u : Unit} (h : RN l = some u) : l = [] := by cases l <;> first | rfl | exact nn h
theorem xY {ts : List Nm} {vs : List AV} {V V' : List (Nm × AV)} (h : v7 ts vs V = some V') : ts.length = vs.length := by
 induction ts generalizing vs V with
 | nil => exact ai h fun _ _ e => by rw [vX e]; rfl
 | cons x xs ih =>
  cases vs with
  | nil => exact nn h
  | cons v vs => exact congrArg (· + 1) (ih h)
theorem Ac {ks : cG} (ok : fX S fm) (kd : o2 ks fm.env) {ts : List Nm} {es : List Expr} {vs : List AV} {us : List Value} {V' : List (Nm × AV)} {Q : Unit → Shared → Prop}
  (h : v7 ts vs σ.V = some V') (ht : vL ts es = true) (hk : ∀ x ∈ ts, lk ks x = some .loc) (rs : bP S W vs us) (I : Inv S W F fm σ s.heap) (q : ∀ s', Inv S W F fm { σ with V := V' } s'.heap → Kp s s' → Q () s') :
  wpAny (MD S) A (assignInOrder ((assignEach es fm.env).map (·.2)) us) Q E s := by
 induction ts generalizing es vs us σ s with
 | nil =>
  rw [List.isEmpty_iff.mp ht]
  exact ai h fun _ h e => bP.jc (vX e ▸ rs : bP S W [] us) (wpAny_pure (q s (aj (P := fun V => Inv S W F fm { σ with V := V } s.heap) h I) (.refl s)))
 | cons x xs ih =>
  refine qu ht fun pos es h2 => ?_
  cases vs with
  | nil => exact nn h
  | cons v vs => exact rs.b7 fun u us r rs => wpAny_bind (wpAny_holding (iP ok I r (kd x _ (hk x (.head _))) fun s' I' k' => ih (σ := { σ with V := pt σ.V x v }) h h2 (fun y m => hk y (.tail _ m)) rs I' fun s'' I'' k'' => q s'' I'' (k'.trans k'')))
theorem CN {t : List Nm} (e : jb t = none) : isTup t = true := congrArg Option.isNone e
@[elab_as_elim] theorem xH {P : List Nm → Expr → Prop} {ks : cG} {t : List Nm} {tg : Expr} (h : lJ ks t tg = true) (f : ∀ x pos, lk ks x = some .loc → P [x] (.Name (bz x) pos))
  (f' : ∀ t es k pos, isTup t = true → vL t es = true → (∀ x ∈ t, lk ks x = some .loc) → P t (.Tuple es k pos)) : P t tg := by
 unfold lJ at h
 generalize q : jb t = o at h
 cases o with
 | some x =>
  have z := eO h
  rw [iM q]
  exact to2 (P := fun e => P [x] e) (F := fun s => .Name s (bW tg).p) (dq z.1) (gc z.2.1) (f x _ (nV z.2.2))
 | none =>
  have z := eO h
  exact ib (P := fun e => P t e) z.1 (f' t _ _ _ (CN q) z.2.1 fun x m => nV (List.all_eq_true.mp z.2.2 x m))
end
section
variable {S : aP} {G : bS} {n : Nat} {W : Wd} {σ : St} {s : Shared} {c : Cx S n} {E : Value → Shared → Prop}
theorem v5 {t : List Nm} {tg : Expr} {v : AV} {u : Value} {σ' : St} {Q : Unit → Shared → Prop} (h : gI t (isTup t) v σ = some σ') (ht : lJ c.ks t tg = true)
  (r : VR S W v u) (I : c.I W σ s) (q : ∀ s', c.I W σ' s' → Kp s s' → Q () s') : wpAny (MD S) c.A (assign tg c.fm.env u) Q E s := by
 revert h
 refine xH ht (fun x pos hk h => iP c.ok I r (c.kd x _ hk) fun s' I' => q s' (aj (P := fun σ => c.I W σ s') h I')) fun t es k pos it hm hk h => ?_
 rw [it] at h
 refine ai h fun vs h e => ai h fun V' h e' => (r.pJ e).tupI I.tobI fun a items g hs z rs => ?_
 have l := GQ (env := c.fm.env) hm
 exact wpAny_assign_Tuple c.ro.hd g (l.1.trans ((xY e').trans hs.symm)) l.2 fun h' sb => Ac c.ok c.kd e' hm hk rs (s := { s with heap := h' }) (I.fresh c.ok sb) fun s' I' k' => q s' (aj (P := fun σ => c.I W σ s') h I') ⟨k'.gens, k'.os⟩
noncomputable def Ha (S : aP) (G : bS) (n : Nat) (i : dZ) : Prop := ∀ (c : Cx S n) (e : List Expr), jP c.ks i e = true → ∀ W σ s, c.I W σ s →
 At c W s (j7 G i σ) (forIn e true fun d r => if r = true then do let ok ← isTrue d c.fm.env (eval d c.fm.env); pure (ForInStep.yield ok) else pure (ForInStep.yield r)) (fun _ b r => r = b)
theorem EF : Ha S G n .nil := fun c e h W σ s I => by
 rw [g9 h]
 exact .ret fun _ => wpAny_pure (bH.ret I rfl)
theorem qt {M : Model} {A : Around} {env : Env} {Q : Bool → Shared → Prop} : ∀ (e : List Expr), Q false s → wpAny M A (forIn e false fun c r => if r = true then do let ok ← isTrue c env (eval c env); pure (ForInStep.yield ok) else pure (ForInStep.yield r)) Q E s
 | [], q => by rw [List.forIn_nil]; exact wpAny_pure q
 | x :: xs, q => by
  rw [List.forIn_cons, if_neg (by decide)]
  exact wpAny_bind (wpAny_pure (qt xs q))
theorem EE {i : Ex} {r : dZ} (hi : ST S G n i) (hr : Ha S G n r) : Ha S G n (.cons i r) := fun c e h W σ s I => fV h fun x xs h1 h2 h3 p q hz => by
 rw [List.forIn_cons, if_pos rfl]
 refine wpAny_bind (wpAny_bind ((hi c x h1 W σ s I).seq (fun p => .cond ((eS r).ts _) .ret) q hz fun W1 p' u s1 q L1 r1 I1 k1 => wpAny_pure ?_))
 obtain ⟨b, σ1⟩ := p'
 obtain rfl : u = b := r1
 cases u
 ·exact aj q (qt xs ⟨W1, L1, rfl, I1, k1⟩)
 ·exact iT L1 k1 (hr c xs h2 W1 σ1 s1 I1 p q hz)
end
section
variable {α β : Type}
theorem oa (g : Str → α → β) (x : Str) : ∀ l : List (Str × α), (l.map fun p => (p.1, g p.1 p.2)).lookup x = (l.lookup x).map (g x)
 | [] => rfl
 | p :: r => by
  rw [List.map_cons, List.lookup_cons, List.lookup_cons]
  cases hb : x == p.1 with
  | true => rw [eq_of_beq hb]; rfl
  | false => exact oa g x r
theorem n8 (g : Str → α) (x : Str) : ∀ l : List Str, (l.map fun y => (y, g y)).lookup x = if x ∈ l then some (g x) else none
 | [] => rfl
 | y :: r => by
  rw [List.map_cons, List.lookup_cons, n8 g x r]
  cases hb : x == y with
  | true =>
   obtain rfl := eq_of_beq hb
   exact (if_pos (.head _)).symm
  | false =>
   have e : x ≠ y := ne_of_beq_false hb
   by_cases m : x ∈ r
   ·rw [if_pos m, if_pos (.tail _ m)]
   ·rw [if_neg m, if_neg fun z => (List.mem_cons.mp z).elim e m]
theorem lookup_mem {x : Str} {k : α} : ∀ {l : List (Str × α)}, l.lookup x = some k → (x, k) ∈ l
 | [], h => nn h
 | p :: r, h => by
  rw [List.lookup_cons] at h
  cases hb : x == p.1 with
  | true => rw [hb] at h; rw [eq_of_beq hb, ← Option.some.inj h]; exact .head _
  | false => rw [hb] at h; exact .tail _ (lookup_mem h)
theorem ra {x : Nm} {k : α} : ∀ {l : List (Nm × α)}, lk l x = some k → (x, k) ∈ l
 | [], h => nn h
 | p :: r, h => by
  rw [c9] at h
  by_cases e : p.1 = x
  ·rw [if_pos e] at h; rw [← e, ← Option.some.inj h]; exact .head _
  ·rw [if_neg e] at h; exact .tail _ (ra h)
end
noncomputable def yQ (p : Str × NameKind) : Option Str := if p.2 == .free then some p.1 else none
noncomputable def ml (cells : List (Str × Addr)) (names : List (Str × NameKind)) : List (Str × Addr) := (names.filterMap yQ).reverse.map fun y => (y, (cells.lookup y).getD 0)
theorem J0 {names : List (Str × NameKind)} {x : Str} : x ∈ (names.filterMap yQ).reverse ↔ (x, .free) ∈ names := by
 rw [List.mem_reverse, List.mem_filterMap]
 constructor
 ·rintro ⟨⟨y, k⟩, m, e⟩
  unfold yQ at e
  split at e
  ·rename_i z
   rw [← Option.some.inj e, ← eq_of_beq z]; exact m
  ·exact nn e
 ·exact fun m => ⟨_, m, rfl⟩
theorem As {cells : List (Str × Addr)} {names : List (Str × NameKind)} {x : Str} : (ml cells names).lookup x = if (x, .free) ∈ names then some ((cells.lookup x).getD 0) else none := by
 unfold ml
 rw [n8]
 simp only [J0]
theorem uM {α β : Type} {l : List α} {f : α → β → Sem (ForInStep β)} (g : β → α → β) (c : β) (h : ∀ x ∈ l, ∀ c, f x c = pure (.yield (g c x))) : forIn l c f = pure (l.foldl g c) := by
 induction l generalizing c with
 | nil => rfl
 | cons x l ih =>
  rw [List.forIn_cons, h x List.mem_cons_self, pure_bind]
  exact ih _ fun y hy => h y (List.mem_cons_of_mem _ hy)
theorem wM (look : Str → Addr) : ∀ (names : List (Str × NameKind)) (acc : List (Str × Addr)), names.foldl (fun cs p => if (p.2 == .free) = true then (p.1, look p.1) :: cs else cs) acc = ((names.filterMap yQ).reverse.map fun y => (y, look y)) ++ acc
 | [], _ => rfl
 | p :: r, acc => by
  rw [List.foldl_cons, wM look r]
  cases hk : (p.2 == NameKind.free) with
  | true => rw [if_pos rfl, List.filterMap_cons_some (show yQ p = some p.1 from if_pos hk), List.reverse_cons, List.map_append, List.append_assoc]; rfl
  | false => rw [if_neg Bool.false_ne_true, List.filterMap_cons_none (show yQ p = none from if_neg (by rw [hk]; exact Bool.false_ne_true))]
theorem uA {sc : Scope} {env : Env} (hf : ∀ p ∈ sc.names, p.2 = .free → ∃ c, env.cells.lookup p.1 = some c) : closureFor sc env = pure (ml env.cells sc.names) := by
 simp only [closureFor]
 rw [uM (fun cs p => if (p.2 == .free) = true then (p.1, (env.cells.lookup p.1).getD 0) :: cs else cs) [] (fun x hx c => by
  cases hk : (x.2 == NameKind.free) with
  | true =>
   obtain ⟨a, e⟩ := hf _ hx (eq_of_beq hk)
   have hc : cellOf env x.1 = pure a := by unfold cellOf; rw [e]
   rw [if_pos rfl, if_pos rfl, hc, e]; rfl
  | false => rw [if_neg Bool.false_ne_true, if_neg Bool.false_ne_true])]
 exact (pure_bind _ _).trans (congrArg pure ((wM (fun y => (env.cells.lookup y).getD 0) sc.names []).trans (List.append_nil _)))
noncomputable def Dq (env : Env) (x : Str) (k : NameKind) : NameKind := if (k == NameKind.free && env.scope.kind == .function && env.kindOf x == some .cell) then .cell else k
theorem oI {env : Env} {sc : Scope} {x : Str} : (relabel sc env).names.lookup x = (sc.names.lookup x).map (Dq env x) := by
 rw [← oa (Dq env)]
 unfold relabel
 refine congrArg (List.lookup x) (List.map_congr_left fun p _ => ?_)
 obtain ⟨y, k⟩ := p
 unfold Dq
 dsimp only
 split <;> rfl
theorem n6 {ks : cG} {x : Nm} {v : AV} : ∀ {V : List (Nm × AV)}, lk (g7 ks V) x = some v → lk V x = some v ∧ lk ks x = some .k8
 | [], h => nn h
 | p :: r, h => by
  unfold g7 at h
  rw [List.filter_cons] at h
  rw [c9]
  cases hb : Jz (lk ks p.1) with
  | true =>
   rw [hb, if_pos rfl, c9] at h
   by_cases e : p.1 = x
   ·rw [if_pos e] at h ⊢
    refine ⟨h, e ▸ ?_⟩
    revert hb
    cases lk ks p.1 with
    | none => exact fun z => absurd z Bool.false_ne_true
    | some k => cases k <;> first | exact fun _ => rfl | exact fun z => absurd z Bool.false_ne_true
   ·rw [if_neg e] at h ⊢; exact n6 h
  | false =>
   rw [hb, if_neg Bool.false_ne_true] at h
   have z := n6 h
   refine ⟨?_, z.2⟩
   by_cases e : p.1 = x
   ·rw [e, z.2] at hb; exact absurd hb.symm Bool.false_ne_true
   ·rw [if_neg e]; exact z.1
section
variable {S : aP} {G : bS} {n : Nat} {W W' : Wd} {F : Addr → Option Obj} {fm : Fm} {σ : St} {s : Shared} {A : Around} {E : Value → Shared → Prop} {h h' : Heap} {ks ks' : cG} {sc : Scope}
structure o4 (ks ks' : cG) (sc : Scope) : Prop where
 kind : sc.kind = .function
 names : ∀ p ∈ sc.names, Hy ks sc p = true
 kinds : ∀ x k, lk ks' x = some k → kindB ks sc (x, k) = true
theorem K8 (h : SH ks ks' sc = true) : o4 ks ks' sc :=
 have z := eO h
 ⟨of_decide_eq_true z.1, List.all_eq_true.mp z.2.1, fun x k e => List.all_eq_true.mp z.2.2 _ (ra e)⟩
theorem o4.name (so : o4 ks ks' sc) {p : Str × NameKind} {P : Prop} (m : p ∈ sc.names) (l : p.2 = .local → sc.names.lookup p.1 = some .local → P) (f : ∀ x, p.2 = .free → p.1 = bz x → lk ks x = some .k8 → P) (g : p.2 = .globalImplicit → P) : P :=
 (Bool.or_eq_true_iff.mp (so.names p m)).elim (fun z => l (of_decide_eq_true (aX z).1) (of_decide_eq_true (aX z).2)) fun z => (Bool.or_eq_true_iff.mp z).elim (fun z => Exists.elim (List.any_eq_true.mp (aX z).2) fun q y => f q.1 (of_decide_eq_true (aX z).1) (gc (aX y.2).1) (of_decide_eq_true (aX y.2).2)) fun z => g (of_decide_eq_true z)
noncomputable def compEnv (sc : Scope) (C : Addr) (env : Env) (b : Addr) : Env := { newEnv sc C env.globals (ml env.cells sc.names) env.qual none .none (some env) b with scope := relabel sc env }
theorem o4.free (so : o4 ks ks' sc) (kd : o2 ks fm.env) {x : Str} (m : (x, NameKind.free) ∈ sc.names) : fm.env.kindOf x = some .cell := so.name m (fun z => by cases z) (fun y _ (e : x = bz y) l => e ▸ kd y _ l) fun z => by cases z
theorem sr (so : o4 ks ks' sc) (kd : o2 ks fm.env) (I : Inv S W F fm σ h) {x : Str} {c : Addr} (q : (ml fm.env.cells sc.names).lookup x = some c) : fm.env.kindOf x = some .cell ∧ fm.env.cells.lookup x = some c ∧ (x, NameKind.free) ∈ sc.names := by
 rw [As] at q
 split at q
 ·rename_i m
  have k := so.free kd m
  obtain ⟨c', v, l, _⟩ := I.vars.cell x k
  rw [l] at q ⊢
  exact ⟨k, q, m⟩
 ·exact nn q
theorem pP (so : o4 ks ks' sc) (ok : fX S fm) (kd : o2 ks fm.env) {C b : Addr} : o2 ks' (compEnv sc C fm.env b) := by
 intro x k e
 show (relabel sc fm.env).names.lookup (bz x) = some (Sz k)
 have z := so.kinds x k e
 rw [oI]
 cases k with
 | loc => rw [of_decide_eq_true z]; rfl
 | k8 =>
  rw [of_decide_eq_true (aX z).1]
  have k1 : fm.env.kindOf (bz x) = some .cell := kd x _ (of_decide_eq_true (aX z).2)
  show some (Dq fm.env (bz x) .free) = _
  unfold Dq
  rw [k1, ok.kf]; rfl
 | cI => rw [of_decide_eq_true z]; rfl
theorem x8 (so : o4 ks ks' sc) {x : Str} {C b : Addr} (e : (compEnv sc C fm.env b).kindOf x = some .cell) : (x, NameKind.free) ∈ sc.names := by
 have e : (relabel sc fm.env).names.lookup x = some .cell := e
 rw [oI] at e
 cases q : sc.names.lookup x with
 | none => rw [q] at e; cases e
 | some k =>
  have m := lookup_mem q
  rw [q] at e
  exact so.name m (fun z _ => by obtain rfl : k = .local := z; cases e) (fun _ z _ _ => (z : k = .free) ▸ m) fun z => by obtain rfl : k = .globalImplicit := z; cases e
theorem uC (so : o4 ks ks' sc) (ok : fX S fm) (kd : o2 ks fm.env) {C b : Addr} (I : Inv S W F fm σ h) (k : ∀ a o, h.get? a = some o → h'.get? a = some o) (hC : h.objs.size ≤ C) (m : Str → Option Value) (hn : h'.Ns C m) :
  fX S ⟨compEnv sc C fm.env b, [C]⟩ ∧ Inv S W (mv fm F h) ⟨compEnv sc C fm.env b, [C]⟩ { σ with V := g7 ks' σ.V } h' := by
 have lt : ∀ a, (∃ o, h.get? a = some o) → a ≠ C := fun a q => Exists.elim q fun o e => Nat.ne_of_lt (Nat.lt_of_lt_of_le (Heap.lt_size e) hC)
 have cget : ∀ x c, fm.env.kindOf x = some .cell → fm.env.cells.lookup x = some c → ∃ o, h.get? c = some o ∧ mv fm F h c = some o := fun x c kx l => (I.fr x c kx l).elim (fun q => Exists.elim (I.own c q).2.2.2 fun o e => ⟨o, e, (kB q).trans e⟩) fun q => Exists.elim q fun o q => ⟨o, I.f c o q, I.nL q⟩
 have J := I.freeze.keeps k
 have ab := I.freeze.above hC
 have has : ∀ {x c}, (x, NameKind.free) ∈ sc.names → fm.env.cells.lookup x = some c → (compEnv sc C fm.env b).cells.lookup x = some c := fun {x c} m l => by
  show (ml fm.env.cells sc.names).lookup x = some c
  rw [As, if_pos m, l]; rfl
 refine ⟨⟨so.kind, ok.gl, ok.bu, .head _, fun x c l => ?_⟩, { tobI := J, own := fun a ma => ?_, fr := fun x c kx l => ?_, vars := ⟨⟨m, hn, fun x av e => ?_⟩, fun x e => ?_⟩ }⟩
 ·have z := sr so kd I l
  exact lt c (Exists.elim (cget x c z.1 z.2.1) fun o e => ⟨o, e.1⟩)
 ·rw [List.mem_singleton.mp ma]
  exact ⟨ab.1, ab.2.1, ab.2.2, Exists.elim hn fun o e => Exists.elim e fun _ e => Exists.elim e fun _ e => ⟨o, e.1⟩⟩
 ·have z := sr so kd I l
  exact .inr (Exists.elim (cget x c z.1 z.2.1) fun o e => ⟨o, e.2⟩)
 ·have z := n6 e
  obtain ⟨m0, hm, hv⟩ := I.vars.ns
  obtain ⟨v, r, w⟩ := hv x av z.1
  have kk := pP (C := C) (b := b) so ok kd x _ z.2
  have z' := aX (so.kinds x _ z.2)
  have k1 : fm.env.kindOf (bz x) = some .cell := kd x _ (of_decide_eq_true z'.2)
  refine ⟨v, r, ?_⟩
  rcases w with ⟨k2, _⟩ | ⟨_, c, lc, d⟩
  ·rw [k1] at k2; cases k2
  ·exact .inr ⟨kk, c, has (lookup_mem (of_decide_eq_true z'.1)) lc, mz d fun o => k c o⟩
 ·have m := x8 so e
  have k1 := so.free kd m
  obtain ⟨c, v, l, d⟩ := I.vars.cell x k1
  exact ⟨c, v, has m l, mz d fun o => k c o⟩
end
section
variable {S : aP} {G : bS} {n : Nat} {W W' : Wd} {σ : St} {s : Shared} {A : Around} {E : Value → Shared → Prop} {h h' : Heap}
theorem xl {M : Model} {env : Env} {R : Result → Shared → Prop} {α : Type} {t : Sem α} {Q : α → Shared → Prop} (h : wpAny M A t Q no s) : wpAny M A t Q (notedBy M A env fun e s' => R (.error e) s') s :=
 wpAny_mono h (fun _ _ q => q) fun _ _ x => x.elim
theorem qC {elt target iter : Expr} {ifs : List Expr} {scope : Scope} {pos : Pos} {it acc : Value} {env : Env} {R : Result → Shared → Prop} (I : Nat → Shared → Prop)
  (turn : ∀ n s, I n s → wpAny (MD S) A (pyNext it) (fun r s₁ => match r with
   | none => R (.ok .next) s₁
   | some v => wpAny (MD S) A (letOwnedTupleGo target it v) (fun _ s₁' => wpAny (MD S) A (assign target env v) (fun _ s₂ => wpAny (MD S) A (forIn ifs true fun c r => if r = true then do let ok ← isTrue c env (eval c env); pure (ForInStep.yield ok) else pure (ForInStep.yield r)) (fun ok s₃ => if ok = true then wpAny (MD S) A (eval elt env) (fun x s₄ => wpAny (MD S) A (call (.builtin "list.append") [acc, x]) (fun _ s₅ => ∃ m, m < n ∧ I m s₅) no s₄) no s₃
      else ∃ m, m < n ∧ I m s₃) no s₂) no s₁') no s₁) no s)
  (n : Nat) (h : I n s) :
  codeAny (MD S) A (.compLoop (.ListComp elt [⟨target, iter, ifs, 0⟩] scope pos) 0 it acc env) R s := by
 refine codeAny_loop rfl I (fun n s hI => ?_) n h
 show wpAny _ A ((compTurn (.ListComp elt [⟨target, iter, ifs, 0⟩] scope pos) 0 it acc env).onRaise (fun x => do noteFrame x env; theTreesLotGoes x)) _ _ s
 refine wpAny_noted (xl ?_)
 rw [compTurn_list]
 refine wpAny_bind (wpAny_standAt (wpAny_bind (wpAny_mono (turn n s hI) (fun r s₁ h₁ => ?_) fun _ _ h' => h')))
 cases r with
 | none => exact wpAny_pure h₁
 | some v =>
  refine wpAny_bind (wpAny_mono h₁ (fun _ s₁' h₁' => ?_) fun _ _ h' => h')
  refine wpAny_bind (wpAny_mono h₁' (fun _ s₂ h₂ => wpAny_bind (wpAny_mono h₂ (fun ok s₃ h₃ => ?_) fun _ _ h' => h')) fun _ _ h' => h')
  cases ok with
  | false => exact wpAny_pure ⟨rfl, h₃⟩
  | true =>
   exact wpAny_bind (wpAny_bind (wpAny_mono h₃ (fun x s₄ h₄ => wpAny_bind (wpAny_mono h₄ (fun _ s₅ h₅ => wpAny_pure (wpAny_pure ⟨rfl, h₅⟩)) fun _ _ h' => h')) fun _ _ h' => h'))
structure Turn (c : Cx S n) (St' : Nat → Heap → Prop) (a1 a2 : Addr) (W : Wd) (σ : St) (i : Nat) (ys : List AV) (h : Heap) : Prop where
 inv : Inv S W c.F c.fm σ h
 u1 : Un W c.F c.fm a1
 u2 : Un W c.F c.fm a2
 st : St' i h
 acc : ∃ items m, h.get? a2 = some { cls := .type "list", data := .seq items m } ∧ bP S W ys items.toList
variable {c : Cx S n} {St' : Nat → Heap → Prop} {a1 a2 : Addr} {i : Nat} {ys vs xs : List AV} {HC : List AO → Prop} {Wx : Wd}
theorem Turn.held {P : Prop} (T : Turn c St' a1 a2 W σ i ys h) (It : uh S Wx HC vs a1 St') (ne : a2 ≠ a1)
  (k : ∀ F', Inv S W F' c.fm σ h → (∀ W' σ' h', W.Le W' → Inv S W' F' c.fm σ' h' → Turn c St' a1 a2 W' σ' i ys h') → P) : P :=
 Exists.elim (It.obj i _ T.st) fun o1 z => Exists.elim z fun _ z => Exists.elim T.acc fun items y => Exists.elim y fun m y => k (fY (fY c.F a1 o1) a2 { cls := .type "list", data := .seq items m }) ((T.inv.hold T.u1 z.1).hold (T.u2.fY ne) y.1) fun W' σ' h' L J => have J1 := J.free ((jx ne).trans T.u2.f) fun x d k l => T.u2.ne (T.inv.lY k l)
  have J2 := J1.1.free T.u1.f fun x d k l => T.u1.ne (T.inv.lY k l)
  ⟨J2.1, J2.2.1, ⟨J1.2.1.P, T.u2.f, J1.2.1.ρ, J1.2.1.ow⟩, It.frame i _ _ T.st fun o e => Option.some.inj (z.1.symm.trans e) ▸ J2.2.2, items, m, J1.2.2, y.2.mono L⟩
theorem Turn.next {j : Nat} (T : Turn c St' a1 a2 W σ i ys h) (ne : a2 ≠ a1) (sb : Heap.ExtBut a1 h h') (st : St' j h') : Turn c St' a1 a2 W σ j ys h' :=
 ⟨T.inv.ext c.ok T.u1 sb, T.u1, T.u2, st, Exists.elim T.acc fun items y => Exists.elim y fun m y => ⟨items, m, sb a2 _ ne y.1, y.2⟩⟩
theorem Turn.push {v : AV} {u : Value} {items : Array Value} {m : Nat} (T : Turn c St' a1 a2 W σ i ys h) (It : uh S Wx HC vs a1 St') (ne : a2 ≠ a1) (sb : Heap.SameBut a2 h h') (g : h'.get? a2 = some { cls := .type "list", data := .seq (items.push u) m }) (rs : bP S W ys items.toList) (r : VR S W v u) : Turn c St' a1 a2 W σ i (ys ++ [v]) h' :=
 ⟨T.inv.other c.ok T.u2 sb, T.u1, T.u2, It.frame _ _ _ T.st fun o e => (sb.2 a1 ne.symm).trans e, _, _, g, (Array.toList_push : (items.push u).toList = _) ▸ rs.append (.cons r .nil)⟩
theorem jr {σ τ : St} (e : σ = τ) (h : eR τ.O) : eR σ.O := e ▸ h
inductive CL (c : Cx S n) (St' : Nat → Heap → Prop) (a1 a2 : Addr) (f : List AV → St → Option (List AV × St)) (vs xs : List AV) (HC : List AO → Prop) (W : Wd) (σ' : St) (s : Shared) (k : Nat) (s' : Shared) : Prop
 | mk (i : Nat) (Wi : Wd) (σi : St) (ys : List AV) (p : List AV × St) : i + k = vs.length → W.Le Wi → f (vs.drop i) σi = some p → p.2 = σ' → ys ++ p.1 = xs → Turn c St' a1 a2 Wi σi i ys s'.heap → HC σi.H → Kp s s' → CL c St' a1 a2 f vs xs HC W σ' s k s'
theorem x9 {elt : Ex} {t : List Nm} {cs : dZ} {σ' : St} {R : Result → Shared → Prop} {e' i' tg : Expr} {ifs : List Expr} {sc : Scope} {pos : Pos} (hel : SE S G n elt) (hcs : Ha S G n cs)
  (m1 : mE c.ks elt e' = true) (m2 : jP c.ks cs ifs = true) (m3 : lJ c.ks t tg = true) (It : uh S W HC vs a1 St') (ne : a2 ≠ a1)
  (hA : ∀ σ σ' v, gI t (isTup t) v σ = some σ' → HC σ.H → HC σ'.H) (hT : ∀ σ p, j7 G cs σ = some p → HC σ.H → HC p.2.H) (hE : ∀ σ p, ev G elt σ = some p → HC σ.H → HC p.2.H)
  (hz : eR σ'.O) (hzx : xs.length ≤ dD) (q : iw (gI t (isTup t)) (j7 G cs) (ev G elt) vs σ = some (xs, σ')) (T : Turn c St' a1 a2 W σ 0 [] s.heap) (hc : HC σ.H)
  (fin : ∀ W2 s2, W.Le W2 → c.I W2 σ' s2 → Un W2 c.F c.fm a2 → (∃ items m, s2.heap.get? a2 = some { cls := .type "list", data := .seq items m } ∧ bP S W2 xs items.toList) → Kp s s2 → R (.ok .next) s2) :
  codeAny (MD S) c.A (.compLoop (.ListComp e' [⟨tg, i', ifs, 0⟩] sc pos) 0 (.ref a1) (.ref a2) c.fm.env) R s := by
 refine qC (CL c St' a1 a2 (iw (gI t (isTup t)) (j7 G cs) (ev G elt)) vs xs HC W σ' s) ?_ vs.length (.mk 0 W σ [] (xs, σ') (Nat.zero_add _) (.refl W) q rfl rfl T hc (.refl s))
 intro k s1 I1
 cases I1 with | mk i Wi σi ys p hk Li qi hp hy Ti hci ki => ?_
 have mon := lj (fun v τ => jg (t := t) (b := isTup t) (v := v) (σ := τ)) (eS (G := G) cs).ts (a7 (G := G) elt).v
 rcases Nat.lt_or_ge i vs.length with hi | hi
 ·obtain ⟨k, rfl⟩ : ∃ k', k = k' + 1 := ⟨vs.length - (i + 1), by omega⟩
  have hk' : i + 1 + k = vs.length := (Nat.succ_add_eq_add_succ i k).trans hk
  rw [List.drop_eq_getElem_cons hi] at qi
  refine It.item Wi c.F σi.H c.A s1 i _ Li Ti.inv.tobI hci c.ro.hd Ti.st hi fun v h1 tk r1 st1 sb1 => ?_
  rw [show vs.getD i .none = vs[i] by simp [hi]] at r1
  have T1 := Ti.next ne sb1 st1
  refine It.go (s := { s1 with heap := h1, toks := tk }) st1 (T1.held It ne fun F' I2 back => ai qi fun σa q ea => ai q fun pb q eb => ?_)
  refine v5 (c := c.fz F') (s := { s1 with heap := h1, toks := tk }) ea m3 r1 I2 fun s2 I2 k2 => ?_
  have lim2 : eR pb.2.O := bC q (fun q _ => ai q fun x q ex => (a7 elt).v _ _ ex (ai q fun y q ey => mon _ _ _ ey (jr ((congrArg (·.2) (Option.some.inj q)).trans hp) hz))) fun q _ => mon _ _ _ q (jr hp hz)
  refine Mine.seq (hcs (c.fz F') ifs m2 Wi σa s2 I2 pb eb lim2) fun W3 b s3 L3 r3 I3 k3 => ?_
  obtain ⟨bb, σb⟩ := pb
  obtain rfl : b = bb := r3
  have K3 := ki.trans (Kp.trans (⟨k2.gens, k2.os⟩ : Kp s1 s2) k3)
  have hcb := hT _ _ eb (hA _ _ _ ea hci)
  cases b with
  | false =>
   rw [if_neg (by decide)]
   exact ⟨k, Nat.lt_succ_self k, .mk (i + 1) W3 σb ys p hk' (Li.trans L3) q hp hy (back W3 σb s3.heap L3 I3) hcb K3⟩
  | true =>
   rw [if_pos rfl]
   refine ai q fun x q ex => ai q fun y q ey => ?_
   refine Mine.seq (hel (c.fz F') e' m1 W3 σb s3 I3 x ex (mon _ _ _ ey (jr ((congrArg (·.2) (Option.some.inj q)).trans hp) hz))) fun W4 u s4 L4 r4 I4 k4 => ?_
   have T4 := back W4 _ s4.heap (L3.trans L4) I4
   obtain ⟨items4, m4, g4, rs4⟩ := T4.acc
   have hy' : ys ++ (x.1 :: y.1) = xs := (congrArg (ys ++ ·.1) (Option.some.inj q)).trans hy
   have hl4 : items4.size ≤ dD := rs4.size ▸ Nat.le_trans (Nat.le_add_right _ _) (List.length_append ▸ hy'.symm ▸ hzx : ys.length + (x.1 :: y.1).length ≤ dD)
   refine append_at g4 (fun h5 sb5 g5 => ⟨k, Nat.lt_succ_self k, .mk (i + 1) W4 x.2 (ys ++ [x.1]) y hk' (Li.trans (L3.trans L4)) ey ((congrArg (·.2) (Option.some.inj q)).trans hp) (by rw [List.append_assoc]; exact hy') (T4.push It ne sb5 g5 rs4 r4) (hE _ _ ex hcb) (K3.trans ⟨k4.gens, k4.os⟩)⟩) (cX hl4)
 ·obtain rfl : i = vs.length := Nat.le_antisymm (hk ▸ Nat.le_add_right i k) hi
  rw [List.drop_length] at qi
  refine It.done Wi c.F σi.H c.A s1 _ Li Ti.inv.tobI hci c.ro.hd Ti.st fun h1 tk sb1 => ?_
  have e := Option.some.inj qi
  obtain rfl : ys = xs := (List.append_nil ys).symm.trans ((congrArg (ys ++ ·.1) e).trans hy)
  obtain rfl : σi = σ' := (congrArg (·.2) e).trans hp
  exact fin Wi { s1 with heap := h1, toks := tk } Li (Ti.inv.ext c.ok Ti.u1 sb1) Ti.u2 (Exists.elim Ti.acc fun items y => Exists.elim y fun m y => ⟨items, m, sb1 a2 _ ne y.1, y.2⟩) ⟨ki.gens, ki.os⟩
end
section
variable {S : aP} {G : bS} {n : Nat}
theorem E5 (e : Ex) : pureE e = true → ∀ {σ : St} {p : AV × St}, ev G e σ = some p → p.2.H = σ.H :=
 have no : ∀ {P : Prop}, false = true → P := fun h => absurd h Bool.false_ne_true
 Ex.rec (motive_1 := fun e => pureE e = true → ∀ {σ : St} {p : AV × St}, ev G e σ = some p → p.2.H = σ.H) (motive_2 := fun es => pureEs es = true → ∀ {σ : St} {p : List AV × St}, pU G es σ = some p → p.2.H = σ.H) (motive_3 := fun _ => True) (motive_4 := fun _ => True)
  (fun v _ _ _ q => aj q rfl) (fun x _ _ _ q => ai q fun _ q _ => aj q rfl) (fun x _ _ _ q => ai q fun _ q _ => aj q rfl) no no (fun _ _ _ => no) (fun a b h k z _ _ q => ai q fun p q e1 => ai q fun p' q e2 => ai q fun _ q _ => aj q ((k (aX z).2 e2).trans (h (aX z).1 e1)))
  (fun _ _ _ _ _ _ => no) (fun _ _ _ _ _ => no) (fun _ _ _ _ => no) (fun _ _ => no) (fun _ _ => no) (fun _ _ => no) (fun _ _ => no) (fun _ _ _ _ _ _ => no) (fun es h z _ _ q => ai q fun p q e => aj q (h z e)) (fun _ _ _ => no) (fun _ _ _ => no) (fun _ _ _ _ => no) (fun _ _ _ _ _ => no) (fun _ _ _ _ _ _ _ _ => no)
  (fun _ _ _ q => aj q rfl) (fun e r h k z _ _ q => ai q fun p q e1 => ai q fun p' q e2 => aj q ((k (aX z).2 e2).trans (h (aX z).1 e1))) trivial (fun _ _ _ _ _ => trivial) trivial (fun _ _ _ _ _ => trivial) e
theorem Iq {t : List Nm} {b : Bool} {v : AV} {σ σ' : St} (h : gI t b v σ = some σ') : σ'.H = σ.H :=
 bC h (fun h _ => ai h fun _ h _ => ai h fun _ h _ => aj h rfl) fun h _ => ai h fun _ h _ => aj h rfl
theorem qb {i : Expr} {env : Env} {x : Value} (h : gg i = true) : foldedSetIterable i env x = pure x := by
 cases i <;> first | rfl | exact absurd h Bool.false_ne_true
variable {c : Cx S n} {W1 : Wd} {σ1 : St} {s1 : Shared} {use : Option (Value → Sem Unit)} {HC : List AO → Prop} {ks' : cG} {elt : Ex} {t : List Nm} {cs : dZ} {vs xs : List AV} {σ2 : St} {Q : Value → Shared → Prop} {e' i' tg : Expr} {ifs : List Expr} {sc : Scope} {pos : Pos}
noncomputable def Behind (c : Cx S n) (W1 : Wd) (σ : St) (xs : List AV) (s1 : Shared) (use : Option (Value → Sem Unit)) (Q : Value → Shared → Prop) : Prop :=
 ∀ W3 s2 a C mm, W1.Le W3 → c.I W3 σ s2 → Un W3 c.F c.fm C → s2.heap.Ns C mm → VR S W3 (.lst xs) (.ref a) → Kp s1 s2 → compPost (MD S) c.A no use Q (.ref a) C (.ok .next) s2
theorem sf {σ : St} (hQ : ∀ a s', bH S W1 c.F c.fm σ s1 (VP S (.lst xs)) a s' → Q a s') : Behind c W1 σ xs s1 none Q :=
 fun W3 s2 a C mm L I u hn r k => ⟨mm, hn, fun h' sb => hQ _ _ ⟨W3, L, r, I.other c.ok u sb, k.gens, k.os⟩⟩
theorem qy {σ : St} {x : Nm} {pos : Pos} (hk : c.fm.env.kindOf (bz x) = some .local) (hQ : ∀ s', bH S W1 c.F c.fm { σ with V := pt σ.V x (.lst xs) } s1 (fun _ _ => True) () s' → Q .none s') : Behind c W1 σ xs s1 (some (assign (.Name (bz x) pos) c.fm.env)) Q :=
 fun W3 s2 a C mm L I u hn r k => by
  obtain ⟨o, es, ep, g, rest⟩ := hn
  refine iP c.ok (I.hold u g) r hk fun s3 I5 k3 => ?_
  have J := I5.free u.f fun y d k l => u.ne (I.lY k l)
  exact ⟨mm, ⟨o, es, ep, J.2.2, rest⟩, fun h' sb => hQ _ ⟨W3, L, trivial, J.1.other c.ok J.2.1 sb, (k.trans k3).gens, (k.trans k3).os⟩⟩
structure Uz (S : aP) (G : bS) (n : Nat) (c : Cx S n) (HC : List AO → Prop) (ks' : cG) (elt : Ex) (t : List Nm) (cs : dZ) (e' tg : Expr) (ifs : List Expr) (sc : Scope) : Prop where
 hel : SE S G n elt
 hcs : Ha S G n cs
 m1 : mE ks' elt e' = true
 m2 : jP ks' cs ifs = true
 m3 : lJ ks' t tg = true
 so : o4 c.ks ks' sc
 hA : ∀ σ σ' v, gI t (isTup t) v σ = some σ' → HC σ.H → HC σ'.H
 hT : ∀ σ p, j7 G cs σ = some p → HC σ.H → HC p.2.H
 hE : ∀ σ p, ev G elt σ = some p → HC σ.H → HC p.2.H
theorem EN {a1 a2 C : Addr} {St' : Nat → Heap → Prop} {h4 : Heap} {m : Str → Option Value} {tk : Tok} (B : Uz S G n c HC ks' elt t cs e' tg ifs sc) (g1 : s1.heap.objs.size ≤ a1) (g2 : s1.heap.objs.size ≤ a2) (g3 : s1.heap.objs.size ≤ C) (n21 : a2 ≠ a1) (n1 : a1 ≠ C) (n2 : a2 ≠ C) (It : uh S W1 HC vs a1 St') (st : St' 0 h4)
  (acc : h4.get? a2 = some { cls := .type "list", data := .seq #[] }) (hn : h4.Ns C m) (k4 : ∀ a o, s1.heap.get? a = some o → h4.get? a = some o) (I1 : c.I W1 σ1 s1) (hc : HC σ1.H) (hz : eR (xs.length :: σ2.O))
  (q : iw (gI t (isTup t)) (j7 G cs) (ev G elt) vs { σ1 with V := g7 ks' σ1.V } = some (xs, σ2)) (hQ : Behind c W1 { σ2 with V := σ1.V, O := xs.length :: σ2.O } xs s1 use Q) :
  codeAny (MD S) c.A (.compLoop (.ListComp e' [⟨tg, i', ifs, 0⟩] sc pos) 0 (.ref a1) (.ref a2) (compEnv sc C c.fm.env 0)) (compPost (MD S) c.A no use Q (.ref a2) C) { s1 with heap := h4, toks := tk } := by
 have J := uC (b := 0) B.so c.ok c.kd I1 k4 g3 m hn
 have b1 := I1.freeze.above g1
 have b2 := I1.freeze.above g2
 refine x9 (c := ⟨⟨compEnv sc C c.fm.env 0, [C]⟩, ks', mv c.fm c.F s1.heap, c.A, J.1, pP B.so c.ok c.kd, c.ro⟩) B.hel B.hcs B.m1 B.m2 B.m3 It n21 B.hA B.hT B.hE hz.tl hz.hd q
  ⟨J.2, ⟨b1.1, b1.2.1, b1.2.2, fun z => n1 (List.mem_singleton.mp z)⟩, ⟨b2.1, b2.2.1, b2.2.2, fun z => n2 (List.mem_singleton.mp z)⟩, st, _, _, acc, .nil⟩ hc fun W2 s2 L J u2 z k => Exists.elim z fun items z => Exists.elim z fun mi z => Exists.elim J.vars.ns fun mm hns => ?_
 have J' := J.ud u2 z.1
 have ow := J'.1.own _ (.head _)
 exact hQ _ _ _ _ mm (L.trans J'.2) (I1.Lr c.ok (L.trans J'.2) J'.1.tobI) ⟨ow.1, (I1.above g3).f, ow.2.2.1, (I1.above g3).ow⟩ hns.1 (.lst Wd.oE hz.hd (z.2.mono J'.2)) ⟨k.gens, k.os⟩
theorem pO (B : Uz S G n c HC ks' elt t cs e' tg ifs sc) (hz : eR (xs.length :: σ2.O)) (q : iw (gI t (isTup t)) (j7 G cs) (ev G elt) vs { σ1 with V := g7 ks' σ1.V } = some (xs, σ2)) (hc : HC σ1.H)
  (hQ : Behind c W1 { σ2 with V := σ1.V, O := xs.length :: σ2.O } xs s1 use Q) (I1 : c.I W1 σ1 s1) (o : Obj) (St' : Nat → Heap → Prop) (It : uh S W1 HC vs s1.heap.objs.size St') (st : St' 0 (s1.heap.push o)) :
  wpAny (MD S) c.A (newList []) (fun acc s3 => wpAny (MD S) c.A (newFunctionEnv sc c.fm.env.globals (ml c.fm.env.cells sc.names) [] c.fm.env.qual none .none (some c.fm.env)) (fun cenv s4 => codeAny (MD S) c.A (.compStart (.ListComp e' [⟨tg, i', ifs, 0⟩] sc pos) 0 (.ref s1.heap.objs.size) acc { cenv with scope := relabel sc c.fm.env }) (compPost (MD S) c.A no use Q acc cenv.locals) s4) no s3) no { s1 with heap := s1.heap.push o } := by
 refine wpAny_newList ?_ (Nat.zero_le _)
 refine wpAny_newFunctionEnv (fun x hx => ?_) (fun x hx => by cases hx) (fun h4 hn sb => ?_) B.so.kind
 ·exact B.so.name hx (fun e _ => by rw [e]; exact fun z => by cases z) (fun _ e _ _ => by rw [e]; exact fun z => by cases z) fun e => by rw [e]; exact fun z => by cases z
 have e2 : (s1.heap.push o).objs.size = s1.heap.objs.size + 1 := Heap.size_push ..
 have e3 : ((s1.heap.push o).push { cls := .type "list", data := .seq ([] : List Value).toArray }).objs.size = s1.heap.objs.size + 1 + 1 := (Heap.size_push ..).trans (congrArg (· + 1) e2)
 have keep : ∀ a o', a ≠ s1.heap.objs.size + 1 + 1 → (((s1.heap.push o).push { cls := .type "list", data := .seq ([] : List Value).toArray }).push { cls := .type "dict", data := .dict #[] }).get? a = some o' → h4.get? a = some o' := fun a o' ne e => (sb.2 a (e3 ▸ ne)).trans e
 have lt : ∀ {a o'}, s1.heap.get? a = some o' → a ≠ s1.heap.objs.size + 1 + 1 := fun e => Nat.ne_of_lt (Nat.lt_of_lt_of_le (Heap.lt_size e) (Nat.le_add_right _ 2))
 have loop : ∀ tk, codeAny (MD S) c.A (.compLoop (.ListComp e' [⟨tg, i', ifs, 0⟩] sc pos) 0 (.ref s1.heap.objs.size) (.ref (s1.heap.push o).objs.size) (compEnv sc ((s1.heap.push o).push { cls := .type "list", data := .seq ([] : List Value).toArray }).objs.size c.fm.env 0))
   (compPost (MD S) c.A no use Q (.ref (s1.heap.push o).objs.size) ((s1.heap.push o).push { cls := .type "list", data := .seq ([] : List Value).toArray }).objs.size) { s1 with heap := h4, toks := tk } := fun tk =>
  EN B (Nat.le_refl _) (e2 ▸ Nat.le_add_right _ 1) (e3 ▸ Nat.le_add_right _ 2) (e2 ▸ Nat.succ_ne_self _) (e3 ▸ Nat.ne_of_lt (Nat.lt_add_of_pos_right (n := s1.heap.objs.size) (k := 2) (by decide))) (e3 ▸ e2 ▸ Nat.ne_of_lt (Nat.lt_succ_self _)) It
   (It.frame 0 _ _ st fun o' e => keep _ o' (Nat.ne_of_lt (Nat.lt_add_of_pos_right (n := s1.heap.objs.size) (k := 2) (by decide))) (Heap.get?_push_of_some _ (Heap.get?_push_of_some _ e))) (keep _ _ (e2 ▸ Nat.ne_of_lt (Nat.lt_succ_self _)) (Heap.get?_push_of_some _ (Heap.get?_push_size _ rfl))) hn
   (fun a o' e => keep a o' (lt e) (Heap.get?_push_of_some _ (Heap.get?_push_of_some _ (Heap.get?_push_of_some _ e)))) I1 hc hz q hQ
 exact codeAny_compStart_list (loop _) (xl (It.self 0 c.A _ _ (It.frame 0 _ _ st fun o' e => keep _ o' (Nat.ne_of_lt (Nat.lt_add_of_pos_right (n := s1.heap.objs.size) (k := 2) (by decide))) (Heap.get?_push_of_some _ (Heap.get?_push_of_some _ e))) (loop _)))
theorem sv {it : Ex} (hit : SE S G n it) (hel : SE S G n elt) (hcs : Ha S G n cs) {i : Expr} (h1 : mE c.ks it i = true) (h2 : mE ks' elt e' = true) (h3 : jP ks' cs ifs = true) (h4 : lJ ks' t tg = true) (h5 : SH c.ks ks' sc = true) (h6 : gg i = true)
  {σ : St} {s : Shared} {W : Wd} {p : AV × St} (q : ev G (.comp ks' elt t it cs) σ = some p) (I : c.I W σ s) (hz : eR p.2.O) (hB : ∀ xs W1 s1, p.1 = .lst xs → W.Le W1 → Kp s s1 → Behind c W1 p.2 xs s1 use Q) :
  wpAny (MD S) c.A (comprehension (.ListComp e' [⟨tg, i, ifs, 0⟩] sc pos) sc c.fm.env (firstIterPos [⟨tg, i, ifs, 0⟩] pos) (newList []) false (eval i c.fm.env) use) Q no s := by
 have so := K8 h5
 refine wpAny_comprehension_free (g := ⟨tg, i, ifs, 0⟩) (gs := []) (cl := ml c.fm.env.cells sc.names) rfl (fun x => qb h6) (uA fun p m z => so.name m (fun a _ => by rw [a] at z; cases z) (fun y _ hy hk => Exists.elim (I.vars.cell (bz y) (c.kd y _ hk)) fun d l => Exists.elim l fun v l => ⟨d, hy ▸ l.1⟩) fun a => by rw [a] at z; cases z) so.kind
  (fun p m z => so.name m (fun _ l => l) (fun _ a _ _ => by rw [a] at z; cases z) fun a => by rw [a] at z; cases z) ((hit c i h1 W σ s I).seq (fun p => .opt fun vs => Mon.bd (L := p.2.O) (lj (fun _ _ => jg) (eS cs).ts (a7 elt).v vs ⟨p.2.H, g7 ks' p.2.V, p.2.O⟩) fun q => .one) q hz fun W1 p1 u s1 q L1 r1 I1 k1 => ai q fun vs q e2 => ai q fun x q e3 => ?_)
 have e := Option.some.inj q
 have e' : ({ x.2 with V := p1.2.V, O := x.1.length :: x.2.O } : St) = p.2 := congrArg (·.2) e
 have hB' : Behind c W1 { x.2 with V := p1.2.V, O := x.1.length :: x.2.O } x.1 s1 use Q := e' ▸ hB x.1 W1 s1 (congrArg (·.1) e).symm L1 k1
 have hz' : eR (x.1.length :: x.2.O) := jr e' hz
 refine bL e2 (fun k ec ek => bC ec (fun el pu => (r1.dU ek).y6 I1.tobI el fun ax items m er g _ _ _ => ?_) fun e3 _ => nn e3) fun e2 => wZ e2 r1 I1 fun ob St' hf It st => pO ⟨hel, hcs, h2, h3, h4, so, fun _ _ _ _ _ => trivial, fun _ _ _ _ => trivial, fun _ _ _ _ => trivial⟩ hz' e3 trivial hB' I1 ob St' It st
 have hcn : cs = .nil := by cases cs <;> first | rfl | exact absurd (aX pu).2 Bool.false_ne_true
 subst hcn
 refine wpAny_pyIter_list ⟨_, g, rfl, m, rfl⟩ (pO (HC := fun H => eJ H k = some vs) ⟨hel, hcs, h2, h3, h4, so, fun σ σ' v q hc => by rw [Iq q]; exact hc, fun σ p q hc => aj q hc, fun σ p q hc => by rw [E5 elt (aX pu).1 q]; exact hc⟩ hz' e3 el hB' I1 _ _ (.list _ fun W' F' H' h' L J hc => ?_) ⟨_, Heap.get?_push_size _ rfl, rfl, rfl⟩)
 exact Exists.elim (J.hs k ax _ (L.get er) (om hc)) fun ob z => OR.listE (P := fun ob => h'.get? ax = some ob → _) z.2 (fun items m _ rl g => ⟨items, ⟨_, g, rfl, m, rfl⟩, rl⟩) z.1
theorem II {it : Ex} (hit : SE S G n it) (hel : SE S G n elt) (hcs : Ha S G n cs) : SE S G n (.comp ks' elt t it cs) := fun c e h W σ s I => xf h fun e' tg i ifs sc pos h1 h2 h3 h4 h5 h6 p q hz => by
 rw [arm_eval_ListComp]
 exact sv hit hel hcs h1 h2 h3 h4 h5 h6 q I hz fun xs W1 s1 e L1 k1 => sf fun a s' p => (e.symm ▸ p : bH S W1 c.F c.fm _ s1 (VP S _) a s').lift L1 k1
end
section
variable {S : aP} {G : bS} {n : Nat}
theorem tv {o : Option AV} {H : List AO} {σ : St} {p : Bool × St} {P : Prop} (q : bd o (fun r => bd (bt H r) fun b => some (b, σ)) = some p) (k : ∀ v, o = some v → σ = p.2 → bt H v = some p.1 → P) : P :=
 ai q fun v q e => ai q fun b q e' => aj (P := fun p : Bool × St => (∀ v, o = some v → σ = p.2 → bt H v = some p.1 → P) → P) q (fun k => k v e rfl e') k
theorem tw {o : Option (AV × St)} {p : Bool × St} {P : Prop} (q : bd o (fun r => bd (bt r.2.H r.1) fun b => some (b, r.2)) = some p) (k : ∀ v, o = some (v, p.2) → bt p.2.H v = some p.1 → P) : P :=
 ai q fun v q e => ai q fun b q e' => aj (P := fun p : Bool × St => (∀ v, o = some (v, p.2) → bt p.2.H v = some p.1 → P) → P) q (fun k => k v.1 e e') k
theorem VS {v : AV} (GO : a6 S G n) : ST S G n (.c v) := oS GO UN (fun ks e h env w => NK h fun c k pos _ => rfl) fun σ p q => ai q fun b q e => aj (P := fun p : Bool × St => ∃ v', ev G (.c v) σ = some (v', p.2) ∧ bt p.2.H v' = some p.1) q ⟨v, rfl, e⟩
theorem VW {x : Nm} (GO : a6 S G n) : ST S G n (.v x) := oS GO UP (fun ks e h env w => NO h fun pos _ => rfl) fun σ p q => tv q fun v e z t => ⟨v, az e (z ▸ rfl), z ▸ t⟩
theorem VV {x : Nm} (GO : a6 S G n) : ST S G n (.g x) := oS GO (UO GO) (fun ks e h env w => NL h fun pos _ _ => rfl) fun σ p q => tv q fun v e z t => ⟨v, az e (z ▸ rfl), z ▸ t⟩
theorem Ur {i : Ex} {a : Nm} (GO : a6 S G n) (hi : SE S G n i) : ST S G n (.at i a) := oS GO (ML GO hi) (fun ks e h env w => Ht h fun v pos _ _ => rfl) fun σ p q => ai q fun x q e1 => tv q fun v e z t => ⟨v, az e1 (az e (z ▸ rfl)), z ▸ t⟩
theorem Us {x i : Ex} (GO : a6 S G n) (hx : SE S G n x) (hi : SE S G n i) : ST S G n (.ix x i) := oS GO (MU hx hi) (fun ks e h env w => Hu h fun v s pos _ _ _ => rfl) fun σ p q => ai q fun x q e1 => ai q fun y q e2 => tv q fun v e z t => ⟨v, az e1 (az e2 (az e (z ▸ rfl))), z ▸ t⟩
theorem Lo {f : Ex} {as : dZ} (GO : a6 S G n) (hf : SE S G n f) (hs : zW S G n as) : ST S G n (.call f as) := oS GO (Ak GO hf hs) (fun ks e h env w => xe h fun g args pos _ _ _ => rfl) fun σ p q => ai q fun x q e1 => ai q fun y q e2 => tw q fun v e t => ⟨v, az e1 (az e2 e), t⟩
theorem GP {o : Ex} {m : Nm} {as : dZ} (GO : a6 S G n) (ho : SE S G n o) (hs : zW S G n as) : ST S G n (.aw o m as) := oS GO (we GO ho hs) (fun ks e h env w => tI h fun v ap args pos _ _ _ _ _ => rfl) fun σ p q => ai q fun x q e1 => ai q fun f q e2 => ai q fun y q e3 => tw q fun v e t => ⟨v, az e1 (az e2 (az e3 e)), t⟩
structure AE (S : aP) (G : bS) (n : Nat) (i : Ex) : Prop where
 e : SE S G n i
 t : ST S G n i
structure HV (S : aP) (G : bS) (n : Nat) (es : dZ) : Prop where
 e : zW S G n es
 a : zV S G n es
 o : Me S G n es
 at_ : rY S G n es
 ot : zX S G n es
 ts : Ha S G n es
theorem HV.nil : HV S G n .nil := ⟨IJ, IH, MZ, EB, IP, EF⟩
theorem HV.cons (GO : a6 S G n) {e : Ex} {r : dZ} (h : AE S G n e) (k : HV S G n r) : HV S G n (.cons e r) := ⟨EC h.e k.e, IG GO h.e k.a, MY GO h.e k.o, EA h.t k.at_, IM h.t k.ot, EE h.t k.ts⟩
theorem kh : ∀ (r : jJ) (x : AV) (σ : St), Mon σ.O (sq G x r σ)
 | .nil, _, _ => .no
 | .cons _ e r, x, σ => wi (a7 e) (kh r) x σ
theorem sP : ∀ (r : rX) (σ : St), Mon σ.O (yj G r σ)
 | .nil, _ => .ret
 | .cons _ e r, σ => wI (a7 e) (sP r) σ
theorem d0 (GO : a6 S G n) (CA : fC S) (i : Ex) : AE S G n i :=
 Ex.rec (motive_1 := fun i => AE S G n i) (motive_2 := fun es => HV S G n es) (motive_3 := fun r => LB S G n r) (motive_4 := fun ks => SK S G n ks)
  (fun v => ⟨UN, VS GO⟩) (fun x => ⟨UP, VW GO⟩) (fun x => ⟨UO GO, VV GO⟩) ⟨S4, iY fun _ => rfl⟩ ⟨MM, iY fun _ => rfl⟩
  (fun e a h => ⟨ML GO h.e, Ur GO h.e⟩) (fun e i h1 h2 => ⟨MU h1.e h2.e, Us GO h1.e h2.e⟩) (fun e lo hi h1 h2 h3 => ⟨S6 h1.e h2.e h3.e, iY fun _ => rfl⟩)
  (fun o a b h1 h2 => ⟨MN h1.e h2.e, iY fun _ => rfl⟩) (fun a r h1 h2 => ⟨MQ h1.e (kh r) h2, Rw h1.e (kh r) h2⟩) (fun es h => ⟨MK h.a, Rv h.at_⟩) (fun es h => ⟨S5 h.o, Ut h.ot⟩)
  (fun e h => ⟨MX GO h.e, Ry h.t⟩) (fun e h => ⟨MW h.e, iY fun _ => rfl⟩) (fun t a b h1 h2 h3 => ⟨MT h1.t h2.e h3.e, Rx h1.t h2.t h3.t⟩)
  (fun es h => ⟨M0 h.e, iY fun _ => rfl⟩) (fun es f h => ⟨MV h.e, iY fun _ => rfl⟩) (fun ks f h => ⟨MS GO h, iY fun _ => rfl⟩)
  (fun f as h1 h2 => ⟨Ak GO h1.e h2.e, Lo GO h1.e h2.e⟩) (fun o m as h1 h2 => ⟨we GO h1.e h2.e, GP GO h1.e h2.e⟩) (fun ks elt t it cs h1 h2 h3 => ⟨II h2.e h1.e h3.ts, iY fun _ => rfl⟩)
  .nil (fun e r h1 h2 => .cons GO h1 h2) MP (fun o e r h1 h2 => MO CA h1.e (kh r) h2) IK (fun k e r h1 h2 => ED (sP r) h1.e h2) i
theorem z5 (GO : a6 S G n) (CA : fC S) : ∀ es : dZ, HV S G n es
 | .nil => .nil
 | .cons e r => .cons GO (d0 GO CA e) (z5 GO CA r)
end
noncomputable def Nv (o : Option Kd) : Bool := decide (o = some .loc) || decide (o = some .k8)
theorem Fx {o : Option Kd} (h : Nv o = true) : o = some .loc ∨ o = some .k8 := (Bool.or_eq_true_iff.mp h).imp of_decide_eq_true of_decide_eq_true
noncomputable def mT (ks : cG) (t : Tg) (e : Expr) : Bool := match t with
 | .v n => gT 2 e && xk n (bW e).s && Nv (lk ks n)
 | .at i a => gT 3 e && xk a (bW e).s && mE ks i (bW e).a
 | .ix a i => gT 4 e && mE ks a (bW e).a && mE ks i (bW e).b && iF (bW e).b
 | .bad => true
@[elab_as_elim] theorem JY {P : Expr → Prop} {ks : cG} {x : Nm} {e : Expr} (h : mT ks (.v x) e = true) (f : ∀ pos, (lk ks x = some .loc ∨ lk ks x = some .k8) → P (.Name (bz x) pos)) : P e :=
 have z := eO h
 to2 (F := fun s => .Name s (bW e).p) (dq z.1) (gc z.2.1) (f _ (Fx z.2.2))
@[elab_as_elim] theorem Co {P : Expr → Prop} {ks : cG} {i : Ex} {a : Nm} {e : Expr} (h : mT ks (.at i a) e = true) (f : ∀ v pos, mE ks i v = true → P (.Attribute v (bz a) pos)) : P e :=
 have z := eO h
 to2 (F := fun s => .Attribute (bW e).a s (bW e).p) (dq z.1) (gc z.2.1) (f _ _ z.2.2)
@[elab_as_elim] theorem Cp {P : Expr → Prop} {ks : cG} {a i : Ex} {e : Expr} (h : mT ks (.ix a i) e = true) (f : ∀ v s pos, mE ks a v = true → mE ks i s = true → iF s = true → P (.Subscript v s pos)) : P e :=
 have z := ik h
 ib z.1 (f _ _ _ z.2.1 z.2.2.1 z.2.2.2)
section
variable {S : aP} {G : bS} {n : Nat} {W W' : Wd} {F : Addr → Option Obj} {fm : Fm} {σ σ' : St} {s : Shared} {A : Around} {E : Value → Shared → Prop}
theorem bP.Uo {vs : List AV} {items : Array Value} (rs : bP S W vs items.toList) {j : Nat} {a : AV} {v : Value} (r : VR S W a v) : bP S W (vs.set j a) (items.setIfInBounds j v).toList :=
 (Array.toList_setIfInBounds : (items.setIfInBounds j v).toList = _) ▸ rs.set r
theorem tX {x k r : AV} {o i v : Value} (h : tW x k r σ = some σ') (hx : VR S W x o) (hk : VR S W k i) (hv : VR S W r v) (ok : fX S fm) (I : Inv S W F fm σ s.heap) : wpAny (MD S) A (setItem o i v) (bH S W F fm σ' s (fun _ _ => True)) E s :=
 ai h fun n h e => bL h (fun str h ek => ai h fun aN h e2 => ai h fun kvs' h e3 => (hx.dU e).FK I.tobI e2 fun a o ps e' g d z rs => (hk.gx ek).gh fun t _ => aj h (
   have r' := rs.Rg d.nd e3 hv
   wpAny_setItem_pairs (strKind_is _ _ _ _) (d.at g) (fun h' d' sb => jf.of d' fun o' g' dd => ⟨W, .refl W, trivial, I.set e' sb g' (.dict rfl dd (r'.2.symm ▸ z) r'.1) ok, rfl, rfl⟩) (rs.length ▸ cX z))) fun h =>
  ai h fun j h ek => ai h fun vs h e2 => ai h fun p h e3 => (hx.dU e).y6 I.tobI e2 fun a items m e' g hs z rs => (hk.je ek).jW fun t => aj h (fZ e3 fun b q => by
   subst q
   have b1 := of_decide_eq_true (aX b).1
   have b2 := of_decide_eq_true (aX b).2
   have u := PySem.IsL.update (g : IsL s.heap a items m) (fun xs => xs.setIfInBounds j.toNat v)
   rw [if_pos (beq_iff_eq.mpr Array.size_setIfInBounds)] at u
   exact ki_setAt (n := m) g b1 (Int.lt_trans ((Int.toNat_lt b1).mp b2) (iL z)) (hs ▸ (Int.toNat_lt b1).mp b2) ⟨W, .refl W, trivial, I.set e' (Heap.SameBut.update ..) u (.list (Nat.le_trans (Nat.le_of_eq List.length_set) z) (rs.Uo hv)) ok, rfl, rfl⟩)
end
section
variable {S : aP} {G : bS} {n : Nat} {c : Cx S n} {W : Wd} {σ σ' : St} {s : Shared} {α β : Type} {R : Wd → α → β → Prop}
theorem At.rH {o : Option (α × St)} {t : Sem β} {f : α × St → Option St} {r : St} {Q : β → Shared → Prop} (h : At c W s o t R) (m : ∀ p, cm p.2.O (f p)) (e : Mine.bd o f = some r) (hz : eR r.O)
  (k : ∀ W1 p b s1, f p = some r → W.Le W1 → R W1 p.1 b → c.I W1 p.2 s1 → Kp s s1 → Q b s1) : wpAny (MD S) c.A t Q no s :=
 ai e fun p e e' => Mine.seq (h p e' (m p r e hz)) fun W1 b s1 L r I k' => k W1 p b s1 e L r I k'
theorem Hq {x : Nm} (h : lk c.ks x = some .loc ∨ lk c.ks x = some .k8) : c.fm.env.kindOf (bz x) = some .local ∨ c.fm.env.kindOf (bz x) = some .cell := h.imp (c.kd x _) (c.kd x _)
theorem HM {t : Tg} {tg : Expr} {av : AV} {v : Value} (GO : a6 S G n) (CA : fC S) (os : zR S c.fm) (hm : mT c.ks t tg = true) (q : iO G t av σ = some σ') (I : c.I W σ s) (hz : eR σ'.O) (r : VR S W av v) :
  wpAny (MD S) c.A (assign tg c.fm.env v) (bH S W c.F c.fm σ' s (fun _ _ => True)) no s := by
 cases t with
 | bad => exact nn q
 | v x => exact JY hm fun pos hl => lP c.ok (fun _ => os) I r (Hq hl) fun s' I' k' => aj q ⟨W, .refl W, trivial, I', k'⟩
 | «at» e a =>
  refine Co hm fun o pos hm1 => ?_
  rw [arm_assign_Attribute]
  refine wpAny_bind (wpAny_holding (((d0 GO CA e).e c o hm1 W σ s I).rH (fun p => gH) q hz fun W1 p u s1 q L1 r1 I1 k1 => wpAny_bind (wpAny_standAt (wpAny_bind (wpAny_holding (wpAny_mono (tV q r1 (r.mono L1) GO.cls c.ok I1 hz) (fun _ s2 p => wpAny_release (p.lift L1 k1)) fun _ _ x => x))))))
 | ix e i =>
  refine Cp hm fun o sl pos h1 h2 h3 => ?_
  rw [arm_assign_Subscript]
  exact wpAny_bind (wpAny_holding (((d0 GO CA e).e c o h1 W σ s I).rH (fun p => ((a7 i).v _).m8 fun q => eL) q hz fun W1 p u s1 q L1 r1 I1 k1 => wpAny_bind (wpAny_holding (((d0 GO CA i).e c sl h2 W1 _ s1 I1).rH (fun p => eL) q hz fun W2 p' w s2 q L2 r2 I2 k2 => wpAny_bind (wpAny_standAt (wpAny_bind (wpAny_holding (wpAny_mono (tX q (r1.mono L2) r2 (r.mono (L1.trans L2)) c.ok I2) (fun _ s3 p => wpAny_release (p.lift (L1.trans L2) (k1.trans k2))) fun _ _ x => x))))))))
end
noncomputable def SF (ks : cG) : List Tg → List Expr → Bool
 | [], l => l.isEmpty
 | t :: ts, l => (match l with | [] => false | e :: es => mT ks t e && notStar e && SF ks ts es)
noncomputable def eqB : Bool → Bool → Bool
 | true, true => true | false, false => true | _, _ => false
noncomputable def nq (x : Nm) (p : Pos) (e : Expr) : Bool := p.line == (bW e).p.line && !((bW e).sc.names.any fun q => q.1 == bz x && (q.2 == .local || q.2 == .cell))
noncomputable def u7 (e : Ex) : Bool := match e with | .comp .. => true | _ => false
@[elab_as_elim] theorem yO {P : Ex → Prop} {e : Ex} (h : u7 e = true) (k : ∀ ks elt t it cs, P (.comp ks elt t it cs)) : P e := by
 cases e with
 | comp ks elt t it cs => exact k ks elt t it cs
 | _ => exact absurd h Bool.false_ne_true
noncomputable def MC (b : oX) (o : Operator) : Bool := (match b with | .add => true | .sub => true | .mul => false | .fdiv => false | .mod => false) && decide (o = ni b)
theorem Er {b : oX} {o : Operator} (h : MC b o = true) : (b = .add ∨ b = .sub) ∧ o = ni b :=
 ⟨by cases b with
  | add => exact .inl rfl
  | sub => exact .inr rfl
  | _ => exact absurd (aX h).1 Bool.false_ne_true, of_decide_eq_true (aX h).2⟩
structure SJ where
 n : Nat
 w : Stmt
 a : Expr
 b : Expr
 l : List Stmt
 m : List Stmt
 es : List Expr
 u : Option Expr
 v : Option Expr
 op : Operator
 p : Pos
noncomputable def C1 (s : Stmt) : SJ := ⟨0, s, .Constant .none 0 ⟨0, 0, 0, 0⟩, .Constant .none 0 ⟨0, 0, 0, 0⟩, [], [], [], none, none, .Add, ⟨0, 0, 0, 0⟩⟩
noncomputable def bJ (s : Stmt) : SJ := match s with
 | .Expr v p => { C1 s with n := 1, a := v, p := p }
 | .Assign ts v p => { C1 s with n := 2, es := ts, a := v, p := p }
 | .AugAssign t o v p => { C1 s with n := 3, a := t, op := o, b := v, p := p }
 | .If t a b p => { C1 s with n := 4, a := t, l := a, m := b, p := p }
 | .While t a b p => { C1 s with n := 5, a := t, l := a, m := b, p := p }
 | .For t i a b p => { C1 s with n := 6, a := t, b := i, l := a, m := b, p := p }
 | .Return v p => { C1 s with n := 7, u := v, p := p }
 | .Break p => { C1 s with n := 8, p := p }
 | .Pass p => { C1 s with n := 9, p := p }
 | .Assert t m p => { C1 s with n := 10, a := t, v := m, p := p }
 | s => C1 s
noncomputable def IB (n : Nat) (q : SJ) : Stmt := match n with
 | 1 => .Expr q.a q.p
 | 2 => .Assign q.es q.a q.p
 | 3 => .AugAssign q.a q.op q.b q.p
 | 4 => .If q.a q.l q.m q.p
 | 5 => .While q.a q.l q.m q.p
 | 6 => .For q.a q.b q.l q.m q.p
 | 7 => .Return q.u q.p
 | 8 => .Break q.p
 | 9 => .Pass q.p
 | 10 => .Assert q.a q.v q.p
 | _ => q.w
theorem Eu (s : Stmt) : IB (bJ s).n (bJ s) = s := by cases s <;> rfl
noncomputable def th (n : Nat) (s : Stmt) : Bool := Nat.beq (bJ s).n n
theorem iS {n : Nat} {s : Stmt} (h : th n s = true) : IB n (bJ s) = s := Nat.eq_of_beq_eq_true h ▸ Eu s
theorem qU {n : Nat} {s : Stmt} {P : Stmt → Prop} (h : th n s = true) (f : P (IB n (bJ s))) : P s := iS h ▸ f
theorem to3 {β : Type} {P : Stmt → Prop} {F : β → Stmt} {s : Stmt} {a b : β} (h : F a = s) (q : a = b) (p : P (F b)) : P s := h ▸ q ▸ p
noncomputable section
mutual
noncomputable def mS : cG → Sx → Stmt → Bool
 | ks, .exp e, s => th 1 s && mE ks e (bJ s).a && hJ (bJ s).a
 | ks, .asg t e, s => th 2 s && bindB (jb (bJ s).es) fun x => mT ks t x && mE ks e (bJ s).a && hJ (bJ s).a && mP x
 | ks, .qx n e, s => th 2 s && bindB (jb (bJ s).es) fun x => gT 2 x && xk n (bW x).s && (tf (lk ks n) && u7 e && mE ks e (bJ s).a && nq n (bW x).p (bJ s).a)
 | ks, .iO ts e, s => th 2 s && bindB (jb (bJ s).es) fun x => gT 11 x && (SF ks ts (bW x).l && mE ks e (bJ s).a && hJ (bJ s).a && mP (bJ s).a)
 | ks, .aug t o e, s => th 3 s && MC o (bJ s).op && mT ks t (bJ s).a && mE ks e (bJ s).b
 | ks, .ite t a b, s => th 4 s && mE ks t (bJ s).a && qm ks a (bJ s).l && qm ks b (bJ s).m
 | ks, .mW t b, s => th 5 s && mE ks t (bJ s).a && qm ks b (bJ s).l && (bJ s).m.isEmpty
 | ks, .fr ts tup e b, s => th 6 s && (bJ s).m.isEmpty && (lJ ks ts (bJ s).a && eqB tup (isTup ts) && mE ks e (bJ s).b && qm ks b (bJ s).l && gg (bJ s).b)
 | ks, .ret e, s => th 7 s && bindB (bJ s).u fun x => mE ks e x
 | _, .brk, s => th 8 s
 | _, .pass, s => th 9 s
 | ks, .xZ e, s => th 10 s && mE ks e (bJ s).a && (bJ s).v.isNone
 | _, .bad, _ => true
noncomputable def qm : cG → cT → List Stmt → Bool
 | _, .nil, l => l.isEmpty
 | ks, .cons s r, l => (match l with | [] => false | x :: xs => mS ks s x && qm ks r xs)
end
end
section
variable {ks : cG} {st : Stmt}
section
variable {P : Stmt → Prop}
@[elab_as_elim] theorem JU {e : Ex} (h : mS ks (.exp e) st = true) (f : ∀ v pos, mE ks e v = true → hJ v = true → P (.Expr v pos)) : P st :=
 have z := eO h
 qU z.1 (f _ _ z.2.1 z.2.2)
@[elab_as_elim] theorem JV {t : Ex} {a b : cT} (h : mS ks (.ite t a b) st = true) (f : ∀ t' a' b' pos, mE ks t t' = true → qm ks a a' = true → qm ks b b' = true → P (.If t' a' b' pos)) : P st :=
 have z := ik h
 qU z.1 (f _ _ _ _ z.2.1 z.2.2.1 z.2.2.2)
@[elab_as_elim] theorem JT (h : mS ks .brk st = true) (f : ∀ pos, P (.Break pos)) : P st := qU h (f _)
@[elab_as_elim] theorem F3 (h : mS ks .pass st = true) (f : ∀ pos, P (.Pass pos)) : P st := qU h (f _)
@[elab_as_elim] theorem JW {e : Ex} (h : mS ks (.ret e) st = true) (f : ∀ v pos, mE ks e v = true → P (.Return (some v) pos)) : P st :=
 let ⟨_, q, h'⟩ := gJ (aX h).2
 to3 (F := fun o => .Return o (bJ st).p) (iS (aX h).1) q (f _ _ h')
@[elab_as_elim] theorem F2 {e : Ex} (h : mS ks (.xZ e) st = true) (f : ∀ t pos, mE ks e t = true → P (.Assert t none pos)) : P st :=
 have z := eO h
 to3 (F := fun o => .Assert (bJ st).a o (bJ st).p) (iS z.1) (Option.isNone_iff_eq_none.mp z.2.2) (f _ _ z.2.1)
@[elab_as_elim] theorem JX {t : Ex} {b : cT} (h : mS ks (.mW t b) st = true) (f : ∀ t' b' pos, mE ks t t' = true → qm ks b b' = true → P (.While t' b' [] pos)) : P st :=
 have z := ik h
 to3 (F := fun o => .While (bJ st).a (bJ st).l o (bJ st).p) (iS z.1) (List.isEmpty_iff.mp z.2.2.2) (f _ _ _ z.2.1 z.2.2.1)
theorem Jd {a b : Bool} (h : eqB a b = true) : a = b := by cases a <;> cases b <;> first | rfl | cases h
@[elab_as_elim] theorem Hx {ts : List Nm} {tup : Bool} {e : Ex} {b : cT} (h : mS ks (.fr ts tup e b) st = true) (f : ∀ tg it body pos, lJ ks ts tg = true → tup = isTup ts → mE ks e it = true → qm ks b body = true → gg it = true → P (.For tg it body [] pos)) : P st :=
 have x := eO h
 have z := aX x.2.2
 have y := ik z.1
 to3 (F := fun o => .For (bJ st).a (bJ st).b (bJ st).l o (bJ st).p) (iS x.1) (List.isEmpty_iff.mp x.2.1) (f _ _ _ _ y.1 (Jd y.2.1) y.2.2.1 y.2.2.2 z.2)
theorem vk {f' : Expr → Bool} (h : (th 2 st && bindB (jb (bJ st).es) f') = true) (f : ∀ x, f' x = true → P (.Assign [x] (bJ st).a (bJ st).p)) : P st :=
 let ⟨_, q, h'⟩ := gJ (aX h).2
 to3 (F := fun o => .Assign o (bJ st).a (bJ st).p) (iS (aX h).1) (iM q) (f _ h')
@[elab_as_elim] theorem JR {t : Tg} {e : Ex} (h : mS ks (.asg t e) st = true) (f : ∀ tg v pos, mT ks t tg = true → mE ks e v = true → hJ v = true → mP tg = true → P (.Assign [tg] v pos)) : P st :=
 vk h fun _ h =>
 have z := ik h
 f _ _ _ z.1 z.2.1 z.2.2.1 z.2.2.2
@[elab_as_elim] theorem FZ {x : Nm} {e : Ex} (h : mS ks (.qx x e) st = true) (f : ∀ p v pos, lk ks x = some .loc → u7 e = true → mE ks e v = true → nq x p v = true → P (.Assign [.Name (bz x) p] v pos)) : P st :=
 vk h fun t h =>
 have y := eO h
 have z := ik y.2.2
 to2 (P := fun t => P (.Assign [t] (bJ st).a (bJ st).p)) (F := fun s => .Name s (bW t).p) (dq y.1) (gc y.2.1) (f _ _ _ (nV z.1) z.2.1 z.2.2.1 z.2.2.2)
@[elab_as_elim] theorem F1 {ts : List Tg} {e : Ex} (h : mS ks (.iO ts e) st = true) (f : ∀ es k p v pos, SF ks ts es = true → mE ks e v = true → hJ v = true → mP v = true → P (.Assign [.Tuple es k p] v pos)) : P st :=
 vk h fun t h =>
 have z := ik (aX h).2
 ib (P := fun t => P (.Assign [t] (bJ st).a (bJ st).p)) (aX h).1 (f _ _ _ _ _ z.1 z.2.1 z.2.2.1 z.2.2.2)
@[elab_as_elim] theorem JS {t : Tg} {o : oX} {e : Ex} (h : mS ks (.aug t o e) st = true) (f : ∀ tg v pos, (o = .add ∨ o = .sub) → mT ks t tg = true → mE ks e v = true → P (.AugAssign tg (ni o) v pos)) : P st :=
 have z := ik h
 have w := Er z.2.1
 to3 (F := fun o => .AugAssign (bJ st).a o (bJ st).b (bJ st).p) (iS z.1) w.2 (f _ _ _ w.1 z.2.2.1 z.2.2.2)
end
theorem F4 {l : List Stmt} (h : qm ks .nil l = true) : l = [] := List.isEmpty_iff.mp h
@[elab_as_elim] theorem oo {P : List Stmt → Prop} {i : Sx} {r : cT} {l : List Stmt} (h : qm ks (.cons i r) l = true) (f : ∀ x xs, mS ks i x = true → qm ks r xs = true → P (x :: xs)) : P l := by
 cases l with
 | nil => exact absurd h Bool.false_ne_true
 | cons x xs => exact f x xs (aX h).1 (aX h).2
end
noncomputable def FR (S : aP) (W : Wd) (f : Fl) (g : Flow) : Prop := match f with
 | .nx => g = .next
 | .bk => g = .brk
 | .rt v => ∃ u, g = .ret u ∧ VR S W v u
section
variable {S : aP} {G : bS} {n : Nat}
noncomputable def SX (S : aP) (G : bS) (n : Nat) (i : Sx) : Prop := ∀ (c : Cx S n) (st : Stmt), mS c.ks i st = true → zR S c.fm → ∀ W σ s, c.I W σ s → At c W s (ex G i σ) (exec st c.fm.env) (FR S)
noncomputable def Ei (S : aP) (G : bS) (n : Nat) (i : cT) : Prop := ∀ (c : Cx S n) (l : List Stmt), qm c.ks i l = true → zR S c.fm → ∀ W σ s, c.I W σ s → At c W s (b0 G i σ) (execs l c.fm.env) (FR S)
section
variable {W : Wd} {p r : Fl × St} {g : Flow} {k : St → Option (Fl × St)} {P : Flow → Prop}
theorem Kw (q : CR p k = some r) (h : FR S W p.1 g) (n : k p.2 = some r → P .next) (b : p = r → FR S W r.1 .brk → P .brk) (t : ∀ u, p = r → FR S W r.1 (.ret u) → P (.ret u)) : P g := by
 obtain ⟨f, σ⟩ := p
 cases f with
 | nx => exact (h : g = .next) ▸ n q
 | bk => exact (h : g = .brk) ▸ b (Option.some.inj q) (Option.some.inj q ▸ rfl)
 | rt v => exact Exists.elim h fun u z => z.1 ▸ t u (Option.some.inj q) (Option.some.inj q ▸ ⟨u, rfl, z.2⟩)
theorem Hs (q : lp p k = some r) (h : FR S W p.1 g) (n : k p.2 = some r → P .next) (b : p.2 = r.2 → FR S W r.1 .next → P .brk) (t : ∀ u, p.2 = r.2 → FR S W r.1 (.ret u) → P (.ret u)) : P g := by
 obtain ⟨f, σ⟩ := p
 cases f with
 | nx => exact (h : g = .next) ▸ n q
 | bk => exact (h : g = .brk) ▸ aj (P := fun r : Fl × St => (σ = r.2 → FR S W r.1 .next → P .brk) → P .brk) q (fun b => b rfl rfl) b
 | rt v => exact Exists.elim h fun u z => z.1 ▸ aj (P := fun r : Fl × St => (∀ u, σ = r.2 → FR S W r.1 (.ret u) → P (.ret u)) → P (.ret u)) q (fun t => t u rfl ⟨u, rfl, z.2⟩) t
end
theorem Fp {b : Bool} {X Y : Prop} (h : b = true) (x : X) : if b = true then X else Y := (if_pos h).symm ▸ x
theorem Br {b : Bool} {X Y : Prop} (h : b = false) (y : Y) : if b = true then X else Y := (if_neg (h ▸ Bool.false_ne_true)).symm ▸ y
theorem tN {fm : Fm} (ok : fX S fm) : interactive fm.env = false := by unfold interactive; rw [ok.kf]; rfl
theorem rq {v : Expr} {t : Option Expr} {l : Nat} {env : Env} (h : hJ v = true) : swapsWith v t l env = pure false := by
 cases v <;> first | rfl | exact absurd h Bool.false_ne_true
theorem OS {W : Wd} {v : AV} {u : Value} {P : Value → Prop} (h : BG v = true) (r : VR S W v u) (n : P .none) (t : ∀ s i, P (.str s i)) : P u := by
 cases v with
 | none => exact (VR.jK r rfl) ▸ n
 | str s => exact (VR.gx r rfl).gh fun i _ => t _ i
 | _ => exact absurd h Bool.false_ne_true
theorem Rl : SX S G n .bad := fun _ _ _ _ _ _ _ _ => .CM
theorem Rn {e : Ex} (he : SE S G n e) : SX S G n (.exp e) := fun c st h os W σ s I => JU h fun v pos h1 h2 p q hz => wpAny_Expr ((he c v h1 W σ s I).seq (fun p => .cond .ret .no) q hz fun W1 p1 u s1 q L1 r1 I1 k1 => bC q (fun q e => have z := aj (P := fun p : Fl × St => bH S W c.F c.fm p.2 s (fun W => FR S W p.1) .next s1) q ⟨W1, L1, rfl, I1, k1⟩
  OS (P := fun u => match u with | .ref _ => False | _ => bH S W c.F c.fm p.2 s (fun W => FR S W p.1) .next s1) e r1 z fun _ _ => z) fun q _ => nn q) (tN c.ok) (rq h2)
theorem Rm : SX S G n .brk := fun c st h os W σ s I => JT h fun pos => .ret fun _ => wpAny_Break (bH.ret I rfl)
theorem K7 : SX S G n .pass := fun c st h os W σ s I => F3 h fun pos => .ret fun _ => wpAny_Pass (bH.ret I rfl)
theorem Rr {e : Ex} (he : SE S G n e) : SX S G n (.ret e) := fun c st h os W σ s I => JW h fun v pos h1 p q hz => wpAny_Return_some ((he c v h1 W σ s I).seq (fun p => .ret) q hz fun W1 p1 u s1 q L1 r1 I1 k1 => aj (P := fun p : Fl × St => bH S W c.F c.fm p.2 s (fun W => FR S W p.1) (.ret u) s1) q ⟨W1, L1, ⟨u, rfl, r1⟩, I1, k1⟩)
theorem K5 {e : Ex} (he : ST S G n e) : SX S G n (.xZ e) := fun c st h os W σ s I => F2 h fun v pos h1 p q hz => wpAny_Assert_holds ((he c v h1 W σ s I).seq (fun p => .cond .ret .no) q hz fun W1 p1 u s1 q L1 r1 I1 k1 => bC q (fun q e => ⟨r1.trans e, aj (P := fun p : Fl × St => bH S W c.F c.fm p.2 s (fun W => FR S W p.1) .next s1) q ⟨W1, L1, rfl, I1, k1⟩⟩) fun q _ => nn q)
theorem Rp {t : Ex} {a b : cT} (ht : ST S G n t) (ha : Ei S G n a) (hb : Ei S G n b) : SX S G n (.ite t a b) := fun c st h os W σ s I => JV h fun t' a' b' pos h1 h2 h3 p q hz => wpAny_If ((ht c t' h1 W σ s I).seq (fun p => .cond (dR a _) (dR b _)) q hz fun W1 p1 u s1 q L1 r1 I1 k1 => bC q (fun q e => Fp (r1.trans e) (iT L1 k1 (ha c a' h2 os W1 _ s1 I1 p q hz))) fun q e => Br (r1.trans e) (iT L1 k1 (hb c b' h3 os W1 _ s1 I1 p q hz)))
theorem HI : Ei S G n .nil := fun c l h os W σ s I => F4 h ▸ .ret fun _ => wpAny_execs_nil (bH.ret I rfl)
theorem Dv {i : Sx} {r : cT} (hi : SX S G n i) (hr : Ei S G n r) : Ei S G n (.cons i r) := fun c l h os W σ s I => oo h fun x xs h1 h2 p q hz => wpAny_execs_cons ((hi c x h1 os W σ s I).seq (fun p => ry (dR r)) q hz fun W1 p1 g s1 q L1 r1 I1 k1 => Kw (P := fun g => match g with | .next => wpAny (MD S) c.A (execs xs c.fm.env) (bH S W c.F c.fm p.2 s (fun W => FR S W p.1)) no s1 | f => bH S W c.F c.fm p.2 s (fun W => FR S W p.1) f s1) q r1
   (fun q => iT L1 k1 (hr c xs h2 os W1 _ s1 I1 p q hz)) (fun e r => ⟨W1, L1, r, e ▸ I1, k1⟩) fun u e r => ⟨W1, L1, r, e ▸ I1, k1⟩)
theorem D1 {fm : Fm} {test : Expr} {body : List Stmt} {pos : Pos} {A : Around} {s : Shared} {RR : Flow → Shared → Prop} (I : Nat → Shared → Prop)
  (turn : ∀ n s, I n s → wpAny (MD S) A (isTrue test fm.env (eval test fm.env)) (fun b s₂ => if b then wpAny (MD S) A (execs body fm.env) (fun f s₃ => match f with
    | .next | .cont => ∃ m, m < n ∧ I m s₃
    | .brk => RR .next s₃
    | .ret v => RR (.ret v) s₃) no s₂ else RR .next s₂) no s) (n : Nat) (h : I n s) : wpAny (MD S) A (exec (.While test body [] pos) fm.env) RR no s := by
 refine wpAny_While (codeAny_whileLoop I (fun n s hI => wpAny_mono (turn n s hI) (fun b s2 z => ?_) fun _ _ x => x.elim) n h)
 cases b with
 | true =>
  rw [if_pos rfl] at z ⊢
  exact wpAny_mono z (fun f s3 y => by cases f <;> exact y) fun _ _ x => x.elim
 | false =>
  rw [if_neg (by decide)] at z ⊢
  exact wpAny_execs_nil z
inductive WL (c : Cx S n) (f : Nat → St → Option (Fl × St)) (W : Wd) (r : Fl × St) (s : Shared) (k : Nat) (s' : Shared) : Prop
 | mk (Wi : Wd) (σi : St) : W.Le Wi → f k σi = some r → c.I Wi σi s' → Kp s s' → WL c f W r s k s'
theorem Rt {t : Ex} {b : cT} (ht : ST S G n t) (hb : Ei S G n b) : SX S G n (.mW t b) := fun c st h os W σ s I => JX h fun t' b' pos h1 h2 p q hz => D1 (WL c (fun k => fk k (cW G t) (b0 G b)) W p s) (fun k s1 J => by
  cases J with | mk Wi σi Li qi Ii ki => ?_
  cases k with
  | zero => exact nn qi
  | succ k =>
  exact (ht c t' h1 Wi σi s1 Ii).seq (fun p => .cond ((dR b _).bd fun q => oj (lK (a7 t).t (dR b) k)) .ret) qi hz fun W1 p1 u s2 q L1 r1 I1 k1 => bC q (fun q e => Fp (r1.trans e) ((hb c b' h2 os W1 p1.2 s2 I1).seq (fun p => oj (lK (a7 t).t (dR b) k)) q hz fun W2 p2 g s3 q L2 r2 I2 k2 => have L := Li.trans (L1.trans L2)
    have kk := ki.trans (k1.trans k2)
    Hs (P := fun g => match g with | .next | .cont => ∃ m, m < k + 1 ∧ WL c (fun k => fk k (cW G t) (b0 G b)) W p s m s3 | .brk => bH S W c.F c.fm p.2 s (fun W => FR S W p.1) .next s3 | .ret v => bH S W c.F c.fm p.2 s (fun W => FR S W p.1) (.ret v) s3) q r2
     (fun q => ⟨k, Nat.lt_succ_self k, .mk W2 p2.2 L q I2 kk⟩) (fun e r => ⟨W2, L, r, e ▸ I2, kk⟩) fun u e r => ⟨W2, L, r, e ▸ I2, kk⟩))
    fun q e => Br (r1.trans e) (aj (P := fun p : Fl × St => bH S W c.F c.fm p.2 s (fun W => FR S W p.1) .next s2) q ⟨W1, Li.trans L1, rfl, I1, ki.trans k1⟩)) G.fuel (.mk W σ (.refl W) q I (.refl s))
end
section
variable {S : aP} {G : bS} {n : Nat}
theorem NP {t : Tg} {P : Prop} {v : AV} {σ σ' : St} (q : iO G t v σ = some σ') (k : t ≠ .bad → P) : P := k fun z => by rw [z] at q; exact nn q
theorem GL {ks : cG} {t : Tg} {tg v : Expr} {env : Env} (h : mT ks t tg = true) (ne : t ≠ .bad) : swappedStores [tg] v env = pure none ∧ assignEach [tg] env = [(false, assign tg env)] := by
 cases t with
 | bad => exact absurd rfl ne
 | v x => exact JY h fun _ _ => ⟨rfl, rfl⟩
 | «at» e a => exact Co h fun _ _ _ => ⟨rfl, rfl⟩
 | ix e i => exact Cp h fun _ _ _ _ _ _ => ⟨rfl, rfl⟩
theorem Eo {env : Env} {A : Around} {E : Value → Shared → Prop} {s : Shared} {Q : Flow → Shared → Prop} {tg v : Expr} {pos : Pos} (hs : hJ v = true) (w : swappedStores [tg] v env = pure none ∧ assignEach [tg] env = [(false, assign tg env)])
  (h : wpAny (MD S) A (eval v env) (fun u s1 => wpAny (MD S) A (assign tg env u) (fun _ => Q .next) E s1) E s) : wpAny (MD S) A (exec (.Assign [tg] v pos) env) Q E s := by
 rw [PyProof.Rows.exec_Assign]
 refine wpAny_bind (wpAny_standAt ?_)
 rw [show swapsWithSole [tg] v pos.line env = pure false from rq hs]
 refine wpAny_bind (wpAny_pure ?_)
 rw [if_neg (by decide)]
 refine wpAny_bind (wpAny_mono h (fun v s₁ h₁ => ?_) fun _ _ x => x)
 rw [w.1, w.2]
 exact wpAny_bind (wpAny_pure (wpAny_bind (wpAny_mono h₁ (fun _ _ z => wpAny_pure z) fun _ _ x => x)))
theorem bH.nx {c : Cx S n} {W1 : Wd} {σ' : St} {p : Fl × St} {s : Shared} {u : Unit} {s1 : Shared} (q : some (Fl.nx, σ') = some p) (h : bH S W1 c.F c.fm σ' s (fun _ _ => True) u s1) : bH S W1 c.F c.fm p.2 s (fun W => FR S W p.1) .next s1 :=
 aj (P := fun p : Fl × St => bH S W1 c.F c.fm p.2 s (fun W => FR S W p.1) .next s1) q (by cases h with | mk W' L r I k => exact ⟨W', L, rfl, I, k⟩)
theorem Rj {t : Tg} {e : Ex} (GO : a6 S G n) (CA : fC S) : SX S G n (.asg t e) := fun c st h os W σ s I => JR h fun tg v pos h1 h2 h3 h4 p q hz => ai q fun p1 q e1 => ai q fun σ2 q e2 => NP e2 fun ne => Eo h3 (GL h1 ne)
 (Mine.seq ((d0 GO CA e).e c v h2 W σ s I p1 e1 (m7 _ _ e2 (jr (congrArg (·.2) (Option.some.inj q)) hz))) fun W1 u s1 L1 r1 I1 k1 => wpAny_mono (HM GO CA os h1 e2 I1 (jr (congrArg (·.2) (Option.some.inj q)) hz) r1) (fun _ s2 p => (p.lift L1 k1).nx q) fun _ _ x => x)
structure Mf (S : aP) (n : Nat) (c : Cx S n) (ts : List Tg) (es : List Expr) (vs : List AV) (σ σ' : St) : Prop where
 l1 : ts.length = vs.length
 l2 : (assignEach es c.fm.env).length = ts.length
 l3 : (assignEach es c.fm.env).findIdx? (·.1) = none
 run : ∀ (W : Wd) (s : Shared) (us : List Value), c.I W σ s → bP S W vs us → wpAny (MD S) c.A (assignInOrder ((assignEach es c.fm.env).map (·.2)) us) (bH S W c.F c.fm σ' s (fun _ _ => True)) no s
theorem yg {e : Expr} {es : List Expr} {env : Env} (h : notStar e = true) : assignEach (e :: es) env = (false, assign e env) :: assignEach es env := by
 cases e <;> first | rfl | exact absurd h Bool.false_ne_true
theorem Lq {c : Cx S n} (GO : a6 S G n) (CA : fC S) (os : zR S c.fm) {ts : List Tg} : ∀ {es : List Expr} {vs : List AV} {σ σ' : St}, SF c.ks ts es = true → i4 G ts vs σ = some σ' → eR σ'.O → Mf S n c ts es vs σ σ' := by
 induction ts with
 | nil =>
  intro es vs σ σ' hm q hz
  obtain rfl : es = [] := List.isEmpty_iff.mp hm
  refine ai q fun _ q e => ?_
  obtain rfl : vs = [] := by
   cases vs with
   | nil => rfl
   | cons => exact nn e
  exact aj q ⟨rfl, rfl, rfl, fun W s us I rs => rs.jc (P := fun us => wpAny (MD S) c.A (assignInOrder ((assignEach [] c.fm.env).map (·.2)) us) (bH S W c.F c.fm σ s (fun _ _ => True)) no s) (wpAny_pure (bH.ret I trivial))⟩
 | cons t ts ih =>
  intro es vs σ σ' hm q hz
  cases es with
  | nil => exact absurd hm Bool.false_ne_true
  | cons e es =>
  cases vs with
  | nil => exact nn q
  | cons v vs =>
  have h := eO hm
  refine ai q fun σ1 q e1 => ?_
  have T := ih h.2.2 q hz
  have ec := yg (es := es) (env := c.fm.env) h.2.1
  exact ⟨congrArg (· + 1) T.l1, ec ▸ congrArg (· + 1) T.l2, by rw [ec, List.findIdx?_cons, T.l3]; rfl, fun W s us I rs => ec ▸ rs.b7 (P := fun us => wpAny (MD S) c.A (assignInOrder (((false, assign e c.fm.env) :: assignEach es c.fm.env).map (·.2)) us) (bH S W c.F c.fm σ' s (fun _ _ => True)) no s)
   fun u us r rs => wpAny_bind (wpAny_holding (Mine.seq (HM GO CA os h.1 e1 I (lh _ _ q hz) r) fun W1 _ s1 L1 _ I1 k1 => iT L1 k1 (T.run W1 s1 us I1 (rs.mono L1))))⟩
theorem K4 {ts : List Tg} {e : Ex} (GO : a6 S G n) (CA : fC S) : SX S G n (.iO ts e) := fun c st h os W σ s I => F1 h fun es k p v pos h1 h2 h3 h4 r q hz => ai q fun p1 q e1 => ai q fun vs q e2 => ai q fun σ2 q e3 => by
 have z2 : eR σ2.O := jr (congrArg (·.2) (Option.some.inj q)) hz
 have T := Lq GO CA os h1 e3 z2
 refine Assign_Tuple (hs := rq (t := some (.Tuple es k p)) (l := pos.line) (env := c.fm.env) h3) (hw := (by cases v <;> first | rfl | exact absurd h4 Bool.false_ne_true)) (Mine.seq ((d0 GO CA e).e c v h2 W σ s I p1 e1 (lh _ _ e3 z2)) fun W1 u s1 L1 r1 I1 k1 => ?_)
 refine (r1.pJ e2).rS fun a items m d sl ea z rs => ?_
 refine wpAny_assign_Tuple c.ro.hd ⟨_, I1.p _ _ ea, rfl, m, rfl⟩ (by rw [T.l2, T.l1, rs.length, Array.length_toList]) T.l3 fun h' sb => ?_
 exact wpAny_mono (T.run W1 { s1 with heap := h' } items.toList (I1.fresh c.ok sb) rs) (fun _ s2 p => by
  cases p with | mk W' L r I k => exact bH.nx (u := ()) q ⟨W', L1.trans L, trivial, I, k1.trans ⟨k.gens, k.os⟩⟩) fun _ _ x => x
end
section
variable {S : aP} {G : bS} {n : Nat}
theorem A4 {fm : Fm} {target iter : Expr} {body : List Stmt} {pos : Pos} {A : Around} {s : Shared} {RR : Flow → Shared → Prop} (hs : gg iter = true)
  (h : wpAny (MD S) A (eval iter fm.env) (fun x s1 => wpAny (MD S) A (pyIter x) (fun it s2 => ∃ (I : Nat → Shared → Prop) (n : Nat), I n s2 ∧
   ∀ n s, I n s → wpAny (MD S) A (pyNext it) (fun r s₁ => match r with
    | none => RR .next s₁
    | some v => wpAny (MD S) A (letOwnedTupleGo target it v) (fun _ s₁' => wpAny (MD S) A (assign target fm.env v) (fun _ s₂ => wpAny (MD S) A (execs body fm.env) (fun f s₃ => match f with
      | .next | .cont => ∃ m, m < n ∧ I m s₃
      | .brk => RR .next s₃
      | .ret v => RR (.ret v) s₃) no s₂) no s₁') no s₁) no s) no s1) no s) : wpAny (MD S) A (exec (.For target iter body [] pos) fm.env) RR no s := by
 have he : exec (.For target iter body [] pos) fm.env = (do
  standAt pos
  let x ← foldedSetIterable iter fm.env (← eval iter fm.env)
  standAt iter.pos
  runOwn (.forLoop target (← holding [x] (pyIter x)) body [] fm.env) fm.env) := rfl
 rw [he]
 refine wpAny_bind (wpAny_standAt (wpAny_bind (wpAny_mono h (fun x s1 h1 => ?_) fun _ _ z => z)))
 rw [qb hs]
 refine wpAny_bind (wpAny_pure (wpAny_bind (wpAny_standAt (wpAny_bind (wpAny_holding (wpAny_mono h1 (fun it s2 h2 => ?_) fun _ _ z => z))))))
 obtain ⟨I, k, hI, turn⟩ := h2
 refine wpAny_runOwn (codeAny_forLoop_any I (fun n s hI => wpAny_mono (M := MD S) (A := A) (turn n s hI) (fun r s1 z => ?_) fun _ _ z => z.elim) k hI)
 cases r with
 | none => exact wpAny_execs_nil z
 | some v => exact wpAny_mono (M := MD S) (A := A) z (fun _ _ z => wpAny_mono (M := MD S) (A := A) z (fun _ _ z => wpAny_mono (M := MD S) (A := A) z (fun f s3 y => by cases f <;> exact y) fun _ _ z => z.elim) fun _ _ z => z.elim) fun _ _ z => z.elim
inductive FL (c : Cx S n) (St' : Nat → Heap → Prop) (a1 : Addr) (f : List AV → St → Option (Fl × St)) (vs : List AV) (W : Wd) (r : Fl × St) (s : Shared) (k : Nat) (s' : Shared) : Prop
 | mk (i : Nat) (Wi : Wd) (σi : St) : i + k = vs.length → W.Le Wi → f (vs.drop i) σi = some r → c.I Wi σi s' → Un Wi c.F c.fm a1 → St' i s'.heap → Kp s s' → FL c St' a1 f vs W r s k s'
theorem Um {ts : List Nm} {tup : Bool} {e : Ex} {b : cT} (he : SE S G n e) (hb : Ei S G n b) : SX S G n (.fr ts tup e b) := fun c st h os W σ s I => Hx h fun tg it body pos h1 ht h2 h3 h4 p q hz => by
 subst ht
 have mon := qa (fun v τ => jg (t := ts) (b := isTup ts) (v := v) (σ := τ)) (dR (G := G) b)
 refine A4 h4 ((he c it h2 W σ s I).seq (fun p => .opt fun vs => mon vs p.2) q hz fun W1 p1 u s1 q L1 r1 I1 k1 => ai q fun vs q e2 => wZ e2 r1 I1 fun ob St' hf It st => ⟨FL c St' s1.heap.objs.size (jO (gI ts (isTup ts)) (b0 G b)) vs W1 p s, vs.length, .mk 0 W1 p1.2 (Nat.zero_add _) (.refl W1) q (I1.push ob) I1.un st ⟨k1.gens, k1.os⟩, fun k s2 J => ?_⟩)
 cases J with | mk i Wi σi hk Li qi Ii ui sti ki => ?_
 rcases Nat.lt_or_ge i vs.length with hi | hi
 ·obtain ⟨k, rfl⟩ : ∃ k', k = k' + 1 := ⟨vs.length - (i + 1), by omega⟩
  have hk' : i + 1 + k = vs.length := (Nat.succ_add_eq_add_succ i k).trans hk
  rw [List.drop_eq_getElem_cons hi] at qi
  refine It.item Wi c.F σi.H c.A s2 i _ Li Ii.tobI trivial c.ro.hd sti hi fun w h2' tk rw1 st1 sb1 => ?_
  rw [show vs.getD i .none = vs[i] by simp [hi]] at rw1
  have I2 := Ii.ext c.ok ui sb1
  refine It.go (s := { s2 with heap := h2', toks := tk }) st1 (Exists.elim (It.obj _ _ st1) fun oi z => Exists.elim z fun _ z => ai qi fun σa q ea => v5 (c := c.fz (fY c.F s1.heap.objs.size oi)) (s := { s2 with heap := h2', toks := tk }) ea h1 rw1 (I2.hold ui z.1) fun s3 I4 k3 => ai q fun pb q eb => Mine.seq (hb (c.fz (fY c.F s1.heap.objs.size oi)) body h3 os Wi σa s3 I4 pb eb (oj (mon _) p q hz)) fun W5 g s5 L5 r5 I5 k5 => ?_)
  have B := I5.free ui.f fun x d k l => ui.ne (I2.lY k l)
  have L := Li.trans L5
  have kk : Kp s s5 := ki.trans (Kp.trans (⟨k3.gens, k3.os⟩ : Kp s2 s3) k5)
  exact Hs (P := fun g => match g with | .next | .cont => ∃ m, m < k + 1 ∧ FL c St' s1.heap.objs.size (jO (gI ts (isTup ts)) (b0 G b)) vs W1 p s m s5 | .brk => bH S W c.F c.fm p.2 s (fun W => FR S W p.1) .next s5 | .ret v => bH S W c.F c.fm p.2 s (fun W => FR S W p.1) (.ret v) s5) q r5
   (fun q => ⟨k, Nat.lt_succ_self k, .mk (i + 1) W5 pb.2 hk' L q B.1 B.2.1 (It.frame _ _ _ st1 fun o e => Option.some.inj (z.1.symm.trans e) ▸ B.2.2) kk⟩) (fun e r => ⟨W5, L1.trans L, r, e ▸ B.1, kk⟩) fun u e r => ⟨W5, L1.trans L, r, e ▸ B.1, kk⟩
 ·obtain rfl : i = vs.length := Nat.le_antisymm (hk ▸ Nat.le_add_right i k) hi
  rw [List.drop_length] at qi
  exact It.done Wi c.F σi.H c.A s2 _ Li Ii.tobI trivial c.ro.hd sti fun h2' tk sb1 => aj (P := fun p : Fl × St => bH S W1 c.F c.fm p.2 s (fun W => FR S W p.1) .next { s2 with heap := h2', toks := tk }) qi ⟨Wi, Li, rfl, Ii.ext c.ok ui sb1, ki.gens, ki.os⟩ |>.lift L1 (.refl s)
end
section
variable {S : aP} {G : bS} {n : Nat} {A : Around} {E : Value → Shared → Prop} {s : Shared} {env : Env} {Q : Flow → Shared → Prop}
theorem Iu {oe v : Expr} {a : Str} {p pos : Pos} {op : Operator} (h : wpAny (MD S) A (eval oe env) (fun ov s1 => wpAny (MD S) A (getAttr ov a true) (fun old s2 => wpAny (MD S) A (eval v env) (fun u s3 => wpAny (MD S) A (inplaceOp op old u) (fun new s4 => wpAny (MD S) A (setAttr ov a new) (fun _ => Q .next) E s4) E s3) E s2) E s1) E s) :
  wpAny (MD S) A (exec (.AugAssign (.Attribute oe a p) op v pos) env) Q E s := by
 have he : exec (.AugAssign (.Attribute oe a p) op v pos) env = (do
  standAt pos
  let ov ← eval oe env
  let new ← holding [ov] do
   standAt p.atName
   let old ← getAttr ov a true
   let v ← holding [old] (eval v env)
   standAt pos
   operate [old, v] (inplaceOp op old v)
  standAt p.atName
  holding [new, ov] (setAttr ov a new)
  release [new, ov] []
  pure .next) := rfl
 rw [he]
 refine wpAny_bind (wpAny_standAt (wpAny_bind (wpAny_mono h (fun ov s1 h => ?_) fun _ _ x => x)))
 refine wpAny_bind (wpAny_holding (wpAny_bind (wpAny_standAt (wpAny_bind (wpAny_mono h (fun old s2 h => ?_) fun _ _ x => x)))))
 refine wpAny_bind (wpAny_holding (wpAny_mono h (fun u s3 h => wpAny_bind (wpAny_standAt (ed (wpAny_mono h (fun new s4 h => ?_) fun _ _ x => x)))) fun _ _ x => x))
 exact wpAny_bind (wpAny_standAt (wpAny_bind (wpAny_holding (wpAny_mono h (fun _ s5 h => wpAny_bind (wpAny_release (wpAny_pure h))) fun _ _ x => x))))
theorem Iv {oe sl v : Expr} {p pos : Pos} {op : Operator} (hs : iF sl = true) (h : wpAny (MD S) A (eval oe env) (fun ov s1 => wpAny (MD S) A (eval sl env) (fun iv s2 => wpAny (MD S) A (getItem ov iv) (fun old s3 => wpAny (MD S) A (eval v env) (fun u s4 => wpAny (MD S) A (inplaceOp op old u) (fun new s5 => wpAny (MD S) A (setItem ov iv new) (fun _ => Q .next) E s5) E s4) E s3) E s2) E s1) E s) :
  wpAny (MD S) A (exec (.AugAssign (.Subscript oe sl p) op v pos) env) Q E s := by
 have he : exec (.AugAssign (.Subscript oe sl p) op v pos) env = (do
  standAt pos
  let ov ← eval oe env
  let iv ← holding [ov] (eval sl env)
  let new ← holding [ov, iv] do
   standAt p
   let old ← getItem ov iv
   let v ← holding [old] (eval v env)
   standAt pos
   operate [old, v] (inplaceOp op old v)
  standAt p
  augStore sl ov iv new) := rfl
 have ha : ∀ ov iv new, augStore sl ov iv new = (do holding [new, ov, iv] (setItem ov iv new); release [new, ov, iv] []; pure .next) := fun ov iv new => by
  cases sl with
  | Slice l u st p => cases st <;> exact absurd hs Bool.false_ne_true
  | _ => rfl
 rw [he]
 refine wpAny_bind (wpAny_standAt (wpAny_bind (wpAny_mono h (fun ov s1 h => wpAny_bind (wpAny_holding (wpAny_mono h (fun iv s2 h => ?_) fun _ _ x => x))) fun _ _ x => x)))
 refine wpAny_bind (wpAny_holding (wpAny_bind (wpAny_standAt (wpAny_bind (wpAny_mono h (fun old s3 h => ?_) fun _ _ x => x)))))
 refine wpAny_bind (wpAny_holding (wpAny_mono h (fun u s4 h => wpAny_bind (wpAny_standAt (ed (wpAny_mono h (fun new s5 h => wpAny_bind (wpAny_standAt ?_)) fun _ _ x => x)))) fun _ _ x => x))
 rw [ha]
 exact wpAny_bind (wpAny_holding (wpAny_mono h (fun _ s6 h => wpAny_bind (wpAny_release (wpAny_pure h))) fun _ _ x => x))
end
section
variable {S : aP} {G : bS} {n : Nat}
theorem Rk {t : Tg} {o : oX} {e2 : Ex} (GO : a6 S G n) (CA : fC S) : SX S G n (.aug t o e2) := fun c st h os W σ s I => JS h fun tg v pos ho h1 h2 r q0 hz => ai q0 fun σ2 q e0 => by
 have z2 : eR σ2.O := jr (congrArg (·.2) (Option.some.inj q)) hz
 have he := (d0 GO CA e2).e
 cases t with
 | bad => exact nn e0
 | v x =>
  refine JY h1 fun p hl => wpAny_AugAssign_Name (ai e0 fun a e0 ea => I.load c.ok ea fun u ru => ?_)
  exact (he c v h2 W σ s I).rH (fun p => .opt fun r => .app) e0 z2 fun W1 p1 ub s1 e0 L1 r1 I1 k1 => ai e0 fun x' e0 er => aj (P := fun σ2 => some (Fl.nx, σ2) = some r → eR σ2.O → wpAny (MD S) c.A (inplaceOp (ni o) u ub) _ no s1) e0 (fun q z2 => Mine.seq (nQ er (ru.mono L1) r1 (I1.xn (o := x'.2 ++ p1.2.O)) z2.l ho) fun W2 ur s2 L2 r2 I2 k2 => I2.store c.ok (fun _ => os) r2 (Hq hl) fun s3 I3 k3 => bH.nx (u := ()) q ⟨W2, L1.trans L2, trivial, I3, k1.trans (k2.trans k3)⟩) q z2
 | «at» e a =>
  refine Co h1 fun oe p m1 => Iu (((d0 GO CA e).e c oe m1 W σ s I).rH (fun p => .opt fun x => ((a7 e2).v _).m8 fun q => .opt fun r => .r9 gH) e0 z2 fun W1 p1 ov s1 e0 L1 r1 I1 k1 => ai e0 fun x e0 ex1 => ?_)
  refine Mine.seq (uy ex1 r1 GO.cls I1) fun W2 old s2 L2 r2 I2 k2 => (he c v h2 W2 _ s2 I2).rH (fun q => .opt fun r => .r9 gH) e0 z2 fun W3 p3 ub s3 e0 L3 r3 I3 k3 => ai e0 fun y e0 er => ?_
  exact Mine.seq (nQ er (r2.mono L3) r3 (I3.xn (o := y.2 ++ p3.2.O)) (gH _ e0 z2).l ho) fun W4 ur s4 L4 r4 I4 k4 => wpAny_mono (tV e0 (r1.mono (L2.trans (L3.trans L4))) r4 GO.cls c.ok I4 z2)
   (fun _ s5 pp => (pp.lift (L1.trans (L2.trans (L3.trans L4))) (k1.trans (k2.trans (k3.trans k4)))).nx q) fun _ _ x => x
 | ix e i =>
  refine Cp h1 fun oe sl p m1 m2 m3 => Iv m3 (((d0 GO CA e).e c oe m1 W σ s I).rH (fun p => ((a7 i).v _).m8 fun k => .opt fun x => ((a7 e2).v _).m8 fun q => .opt fun r => .r9 eL) e0 z2 fun W1 p1 ov s1 e0 L1 r1 I1 k1 => ((d0 GO CA i).e c sl m2 W1 _ s1 I1).rH (fun k => .opt fun x => ((a7 e2).v _).m8 fun q => .opt fun r => .r9 eL) e0 z2 fun W2 p2 iv s2 e0 L2 r2 I2 k2 => ai e0 fun x e0 ex1 => ?_)
  refine Exists.elim (BM ex1 (r1.mono L2) r2 I2.tobI fun old tk ro' => ?_) fun T z => Exists.elim z fun id z => z.2.2
  refine (he c v h2 W2 p2.2 { s2 with toks := tk } I2).rH (fun q => .opt fun r => .r9 eL) e0 z2 fun W3 p3 ub s3 e0 L3 r3 I3 k3 => ai e0 fun y e0 er => ?_
  exact Mine.seq (nQ er (ro'.mono L3) r3 (I3.xn (o := y.2 ++ p3.2.O)) (eL _ e0 z2).l ho) fun W4 ur s4 L4 r4 I4 k4 => wpAny_mono (tX e0 (r1.mono (L2.trans (L3.trans L4))) (r2.mono (L3.trans L4)) r4 c.ok I4)
   (fun _ s5 pp => (pp.lift (L1.trans (L2.trans (L3.trans L4))) (k1.trans (k2.trans (Kp.trans (⟨k3.gens, k3.os⟩ : Kp s2 s3) k4)))).nx q) fun _ _ x => x
theorem zE {c : Cx S n} {x : Nm} {p pos vp : Pos} {elt : Expr} {gens : List Comprehension} {sc : Scope} (hk : c.fm.env.kindOf (bz x) = some .local) (h : nq x p (.ListComp elt gens sc vp) = true) :
  swapsWith (.ListComp elt gens sc vp) (some (.Name (bz x) p)) pos.line c.fm.env = pure true := by
 have hb : c.fm.env.blockKind = .function := by unfold Env.blockKind; rw [c.ok.kf]; rfl
 have z : (p.line == vp.line && !(sc.names.any fun q => q.1 == bz x && (q.2 == .local || q.2 == .cell))) = true := h
 show (pure (c.fm.env.blockKind == .function && c.fm.env.kindOf (bz x) == some .local && p.line == vp.line && !(sc.names.any fun q => q.1 == bz x && (q.2 == .local || q.2 == .cell))) : Sem Bool) = pure true
 rw [hb, hk, (aX z).1, (aX z).2]
 rfl
theorem K1 {x : Nm} {e : Ex} (GO : a6 S G n) (CA : fC S) : SX S G n (.qx x e) := fun c st h os W σ s I => FZ h fun p v pos hl hc => yO (P := fun e => mE c.ks e v = true → nq x p v = true → At c W s (ex G (.qx x e) σ) (exec (.Assign [.Name (bz x) p] v pos) c.fm.env) (FR S)) hc fun ks' elt t it cs h1 => xf (P := fun v => nq x p v = true → At c W s (ex G (.qx x (.comp ks' elt t it cs)) σ) (exec (.Assign [.Name (bz x) p] v pos) c.fm.env) (FR S)) h1
  fun e' tg i ifs sc vp m1 m2 m3 m4 m5 m6 hw r q0 hz => ai q0 fun p1 q e1 => by
 have hk := c.kd x _ hl
 rw [PySem.exec_Assign_Name_used _ _ _ _ (zE hk hw)]
 refine wpAny_bind (wpAny_standAt (wpAny_bind ?_))
 show wpAny _ c.A (do let _ ← comprehension (.ListComp e' [⟨tg, i, ifs, 0⟩] sc vp) sc c.fm.env (firstIterPos [⟨tg, i, ifs, 0⟩] vp) (newList []) false (eval i c.fm.env) (some (assign (.Name (bz x) p) c.fm.env))) _ _ s
 refine wpAny_bind (wpAny_mono (sv (Q := fun _ s' => bH S W c.F c.fm r.2 s (fun W => FR S W r.1) .next s') (d0 GO CA it).e (d0 GO CA elt).e (z5 GO CA cs).ts m1 m2 m3 m4 m5 m6 e1 I ((congrArg (·.2.O) (Option.some.inj q) : p1.2.O = r.2.O).symm ▸ hz) fun xs W1 s1 e L1 k1 => qy hk fun s' p => ?_) (fun _ s' hq => wpAny_pure (wpAny_pure hq)) fun _ _ x => x)
 exact bH.nx (u := ()) (e ▸ q) (p.lift L1 k1)
theorem Hb (GO : a6 S G n) (CA : fC S) (i : Sx) : SX S G n i :=
 Sx.rec (motive_1 := fun i => SX S G n i) (motive_2 := fun l => Ei S G n l) (fun e => Rn (d0 GO CA e).e) (fun t e => Rj GO CA) (fun x e => K1 GO CA) (fun ts e => K4 GO CA) (fun t o e => Rk GO CA) (fun t a b ha hb => Rp (d0 GO CA t).t ha hb) (fun t b hb => Rt (d0 GO CA t).t hb)
  (fun ts tup e b hb => Um (d0 GO CA e).e hb) (fun e => Rr (d0 GO CA e).e) Rm K7 (fun e => K5 (d0 GO CA e).t) Rl HI (fun s r hi hr => Dv hi hr) i
theorem mY (GO : a6 S G n) (CA : fC S) : ∀ l : cT, Ei S G n l
 | .nil => HI
 | .cons s r => Dv (Hb GO CA s) (mY GO CA r)
end
section
open AutoSeq1 (wpAny_loadPart')
open MeetsSeq MeetsSeq2 MeetsSeq3 SeqRoads2
section
variable {prog : Program} {w : World}
noncomputable def D6 (prog : Program) (w : World) (A : Around) (s : Shared) (y x : Value) : Prop :=
 ∀ (E : Value → Shared → Prop) (Q : Bool → Shared → Prop), Q true s → wpAny (model prog w) A (eqBool y x) Q E s
theorem D6.of {A : Around} {s : Shared} {y x : Value} (h : EqAt A s y x true) : D6 prog w A s y x := fun E Q q => h prog w E Q q
noncomputable def lb (prog : Program) (w : World) (A : Around) (R : Result → Shared → Prop) : Fin → Shared → Prop :=
 fun fin s' => match fin with | .done f => R (.ok f) s' | .again c' => c'.quiet = true ∧ codeAny (model prog w) A c' R s'
theorem wh {A : Around} {E : Value → Shared → Prop} {s : Shared} {T : String} {name : Str} {id : String} {B : Builtin} {self : Value} {rest : List Value} {Q : Value → Shared → Prop} (slot : Slot T name id) (hT : s.TypeIs self T)
  (entry : entryFor table id = some B) (args : argsOk id ⟨self :: rest, []⟩)
  (g : wpAny (model prog w) A.in1 (B ⟨self :: rest, []⟩) (lb prog w A (wants Q E)) (fun e s' => wants Q E (.error e) s') s) :
  wpAny (model prog w) A (call (.builtin id) (self :: rest)) Q E s :=
 wpAny_call (codeAny_call_builtin slot.plain entry (slot.check _ _ _ _ _ _ _ _ hT args g))
theorem AP (l b : Addr) (items b4 : Array Value) (n n2 : Nat) (dd dd2 : Option Addr) (sl sl2 : Array (Option Value)) (hsz : items.size = b4.size) (A : Around) (R : Result → Shared → Prop) (s : Shared)
  (hl : s.heap.get? l = some { cls := .type "list", dict := dd, data := .seq items n, slots := sl }) (hb : s.heap.get? b = some { cls := .type "list", dict := dd2, data := .seq b4 n2, slots := sl2 })
  (he : ∀ j (h1 : j < items.size) (h2 : j < b4.size), D6 prog w A.in1 s items[j] b4[j]) (h : R (.ok (.ret (.bool true))) s) (k : Nat) :
  ∀ i : Nat, items.size - i = k → wpAny (model prog w) A.in1 (Builtin.«list.__eq__.loop» ⟨[.ref l, .ref b, rawInt i, rawInt 2], []⟩) (lb prog w A R) (fun e s' => R (.error e) s') s := by
 obtain ⟨hp, g, d, tk, os⟩ := s
 induction k with
 | zero =>
  intro i hk
  unfold lb
  wp_walk using wpAny_loadPart' hl, wpAny_loadPart' hb
  have hi1 : items[((i : Nat) : Int).toNat]? = none := by simp; omega
  have hi2 : b4[((i : Nat) : Int).toNat]? = none := by simp; omega
  rw [hi1, hi2]
  wp_walk using wpAny_loadPart' hl, wpAny_loadPart' hb
  show R (.ok (.ret (.bool (items.size == b4.size)))) _
  rw [hsz]
  simpa using h
 | succ k ih =>
  intro i hk
  unfold lb
  wp_walk using wpAny_loadPart' hl, wpAny_loadPart' hb
  have hlt : i < items.size := by omega
  have hlt2 : i < b4.size := by omega
  have hi1 : items[((i : Nat) : Int).toNat]? = some items[i] := by simp [hlt]
  have hi2 : b4[((i : Nat) : Int).toNat]? = some b4[i] := by simp [hlt2]
  have hc : ((i : Int) + 1) = ((i + 1 : Nat) : Int) := by push_cast; rfl
  rw [hi1, hi2]
  refine wpAny_bind (he i hlt hlt2 _ _ ?_)
  wp_walk
  rw [hc]
  exact ⟨plainId_quiet plain_eq_loop _, codeAny_builtin entry_eq_loop (by
   rw [Around.under_plainId plain_eq_loop _]
   exact ih (i + 1) (by omega))⟩
theorem yh {l b : Addr} {items b4 : Array Value} {A : Around} {s : Shared} {E : Value → Shared → Prop} {Q : Value → Shared → Prop} (hl : s.heap.IsList l items) (hb : s.heap.IsList b b4) (hsz : items.size = b4.size) (hu : A.units < cLine)
  (he : ∀ j (h1 : j < items.size) (h2 : j < b4.size), D6 prog w A.in1 s items[j] b4[j]) (h : Q (.bool true) s) : wpAny (model prog w) A (richCompare .Eq (.ref l) (.ref b)) Q E s := by
 obtain ⟨⟨cls, dd, data, sl⟩, ho, hc, n, hd⟩ := id hl
 obtain ⟨⟨cls2, dd2, data2, sl2⟩, ho2, hc2, n2, hd2⟩ := id hb
 simp only at hc hd hc2 hd2
 subst hc hd hc2 hd2
 refine wpAny_richCompare_same_room (op := .Eq) ⟨_, ho, rfl⟩ ⟨_, ho2, rfl⟩ F.slot_list_eq (wh F.slot_list_eq ⟨_, ho, rfl⟩ F.entry_list_eq (F.args_list_eq_2 _ _) ?_) hu
 have H : wants (fun v s' => v ≠ .notImplemented ∧ Q v s') E (.ok (.ret (.bool true))) s := ⟨(fun x => nomatch x), h⟩
 generalize wants (fun v s' => v ≠ .notImplemented ∧ Q v s') E = R at H ⊢
 have L := AP l b items b4 n n2 dd dd2 sl sl2 hsz A R s ho ho2 he H _ 0 rfl
 clear H h he
 obtain ⟨hp, g, d, tk, os⟩ := s
 have f3 := AutoSeq1.sub_list_list
 have hne : ¬ (items.size != b4.size) = true := by simp [hsz]
 unfold lb
 wp_walk using wpAny_loadPart' ho, wpAny_loadPart' ho2
 exact ⟨plainId_quiet plain_eq_loop _, codeAny_builtin entry_eq_loop (by
  rw [Around.under_plainId plain_eq_loop _]
  exact L)⟩
theorem uH {l b : Addr} {items b4 : Array Value} {A : Around} {s : Shared} {E : Value → Shared → Prop} {Q : Value → Shared → Prop} (hl : s.heap.IsTuple l items) (hb : s.heap.IsTuple b b4) (hsz : items.size = b4.size) (hu : A.units < cLine)
  (he : ∀ j (h1 : j < items.size) (h2 : j < b4.size), D6 prog w A.in1 s items[j] b4[j]) (h : Q (.bool true) s) : wpAny (model prog w) A (richCompare .Eq (.ref l) (.ref b)) Q E s := by
 obtain ⟨⟨cls, dd, data, sl⟩, ho, hc, n, hd⟩ := id hl
 obtain ⟨⟨cls2, dd2, data2, sl2⟩, ho2, hc2, n2, hd2⟩ := id hb
 simp only at hc hd hc2 hd2
 subst hc hd hc2 hd2
 refine wpAny_richCompare_same_room (op := .Eq) ⟨_, ho, rfl⟩ ⟨_, ho2, rfl⟩ F.slot_tuple_eq (wh F.slot_tuple_eq ⟨_, ho, rfl⟩ F.entry_tuple_eq (F.args_tuple_eq_2 _ _) ?_) hu
 have H : wants (fun v s' => v ≠ .notImplemented ∧ Q v s') E (.ok (.ret (.bool true))) s := ⟨(fun x => nomatch x), h⟩
 generalize wants (fun v s' => v ≠ .notImplemented ∧ Q v s') E = R at H ⊢
 clear h
 obtain ⟨hp, g, d, tk, os⟩ := s
 have f2 := AutoSeq1.sub_tuple_tuple
 have hZ : (items.toList.zip b4.toList).length = items.size := by simp; omega
 unfold lb
 wp_walk using wpAny_loadPart' ho, wpAny_loadPart' ho2, wpAny_forIn_list _ (fun rest q s' => q.1 = none ∧ s' = ⟨hp, g, d, tk, os⟩ ∧ ∃ i, rest = (items.toList.zip b4.toList).drop i) _
 case turn =>
  rintro ⟨y, x⟩ rest q s' ⟨hb', rfl, i, hz⟩
  have hlt : i < (items.toList.zip b4.toList).length := by
   rcases Nat.lt_or_ge i (items.toList.zip b4.toList).length with h' | h'
   ·exact h'
   ·rw [List.drop_of_length_le h'] at hz; cases hz
  have h1 : i < items.size := hZ ▸ hlt
  have h2 : i < b4.size := hsz ▸ h1
  rw [List.drop_eq_getElem_cons hlt] at hz
  injection hz with hyx hrest
  have hy : y = items[i] := by have := congrArg Prod.fst hyx; simpa using this
  have hx : x = b4[i] := by have := congrArg Prod.snd hyx; simpa using this
  subst hy hx
  refine wpAny_bind (he i h1 h2 _ _ ?_)
  wp_walk
  exact ⟨rfl, rfl, i + 1, hrest⟩
 case fin =>
  rintro ⟨b1, b2⟩ s' ⟨hb', rfl, i, hz⟩
  simp only at hb'
  subst hb'
  wp_walk
  simpa [Builtin.Tuple.tupleCompareSizes, hsz] using H
 case h =>
  exact ⟨rfl, rfl, 0, rfl⟩
theorem D6.refs {l b : Addr} {A : Around} {s : Shared} (h : ∀ (E : Value → Shared → Prop) (Q : Value → Shared → Prop), Q (.bool true) s → wpAny (model prog w) A (richCompare .Eq (.ref l) (.ref b)) Q E s) : D6 prog w A s (.ref l) (.ref b) := fun E Q hq => by
 by_cases hne : l = b
 ·subst hne; exact EqAt.same _ prog w E Q hq
 ·unfold eqBool
  refine wpAny_holding ?_
  refine wpAny_ite_split (fun hab => absurd (by have := eq_of_beq hab; injection this) hne) (fun _ => ?_)
  exact wpAny_bind (h E _ (wpAny_truthy_bool hq))
end
end
noncomputable def L2 (R : AV → Value → Prop) : List AV → List Value → Prop
 | [], l => l = []
 | a :: as, l => ∃ u us, l = u :: us ∧ R a u ∧ L2 R as us
noncomputable def K2 (R : AV → Value → Prop) : List (Nm × AV) → List (Str × Value) → Prop
 | [], l => l = []
 | p :: as, l => ∃ u us, l = (bz p.1, u) :: us ∧ R p.2 u ∧ K2 R as us
noncomputable def Flat (z : AV) (u : Value) : Prop := match z with
 | .none => u = .none
 | .bool b => u = .bool b
 | .int i => ∃ t, u = .int i t
 | .str s => ∃ t, u = .str ⟨s.toArray⟩ t
 | _ => False
noncomputable def Dat (S : aP) (h : Heap) : Nat → Bool → AV → Value → Prop
 | 0, _, z, u => Flat z u
 | k + 1, d, z, u => match z with
  | .tup zs => ∃ a items, u = .ref a ∧ h.IsTuple a items ∧ L2 (Dat S h k d) zs items.toList
  | .lst zs => ∃ a items, u = .ref a ∧ h.IsList a items ∧ L2 (Dat S h k d) zs items.toList
  | .cH aN => d = true ∧ ∃ a ps, u = .ref a ∧ h.DictOf (strKind S.prog S.w) a ps ∧ (a == sysModules) = false ∧ (ps.map (·.1)).Nodup ∧ K2 (Dat S h k false) aN ps
  | _ => Flat z u
section
variable {S : aP} {s : Shared} {A : Around} {k : Nat} {u v : Value}
theorem all_true (n : Nat) : ((List.range n).all fun _ => true) = true := List.all_eq_true.mpr fun _ _ => rfl
theorem xJ (h : A.units + (k + 1) < cLine) : A.in1.units + k < cLine := by rw [Around.in1_units]; omega
theorem uf (h : A.units + (k + 1) < cLine) : A.units < cLine := Nat.lt_of_le_of_lt (Nat.le_add_right _ _) h
noncomputable def Rows (P : Value → Value → Prop) (us vs : List Value) : Prop := ∀ (j : Nat) u v, us[j]? = some u → vs[j]? = some v → P u v
theorem Rows.at {P : Value → Value → Prop} {us vs : Array Value} (r : Rows P us.toList vs.toList) (j : Nat) (h1 : j < us.size) (h2 : j < vs.size) : P us[j] vs[j] := r j _ _ (by simp [h1]) (by simp [h2])
theorem L2.rows {R : AV → Value → Prop} {P : Value → Value → Prop} (h : ∀ z u v, R z u → R z v → P u v) : ∀ {zs : List AV} {us vs : List Value}, L2 R zs us → L2 R zs vs → us.length = vs.length ∧ Rows P us vs
 | [], _, _, x, y => by
  rw [show _ = [] from x, show _ = [] from y]
  exact ⟨rfl, fun j u v e => nn e⟩
 | a :: as, us, vs, x, y => by
  obtain ⟨u, us, rfl, x1, x2⟩ := x
  obtain ⟨v, vs, rfl, y1, y2⟩ := y
  have r := L2.rows h x2 y2
  refine ⟨congrArg (· + 1) r.1, fun j a b e1 e2 => ?_⟩
  cases j with
  | zero => exact Option.some.inj e1 ▸ Option.some.inj e2 ▸ h _ _ _ x1 y1
  | succ j => exact r.2 j a b e1 e2
theorem mF {z : AV} (x : Flat z u) (y : Flat z v) : EqAt A s u v true := by
 cases z with
 | none => rw [show u = .none from x, show v = .none from y]; exact .same _
 | bool b => rw [show u = .bool b from x, show v = .bool b from y]; exact .same _
 | int i =>
  obtain ⟨t, rfl⟩ := x
  obtain ⟨t', rfl⟩ := y
  exact (beq_self_eq_true i : (i == i) = true) ▸ EqAt.int_int (A := A) (s := s) i t i t'
 | str l =>
  obtain ⟨t, rfl⟩ := x
  obtain ⟨t', rfl⟩ := y
  exact (beq_self_eq_true _ : ((⟨l.toArray⟩ : Str) == ⟨l.toArray⟩) = true) ▸ EqAt.str_str (A := A) (s := s) ⟨l.toArray⟩ t ⟨l.toArray⟩ t'
 | _ => exact x.elim
theorem ES (k : Nat) : ∀ {z : AV} {u v : Value} {A : Around}, Dat S s.heap k false z u → Dat S s.heap k false z v → A.units + k < cLine → EqAt A s u v true := by
 induction k with
 | zero => exact fun x y _ => mF x y
 | succ k ih =>
  intro z u v A x y hu
  have H : ∀ z u v, Dat S s.heap k false z u → Dat S s.heap k false z v → EqAt A.in1 s u v true := fun z u v x y => ih x y (xJ hu)
  have FE := mF (s := s) (A := A) (u := u) (v := v) (z := z)
  cases z with
  | tup zs =>
   obtain ⟨a, items, rfl, hl, x⟩ := x
   obtain ⟨b, w5, rfl, hb, y⟩ := y
   have r := L2.rows H x y
   by_cases e : a = b
   ·exact e ▸ .same _
   ·refine .of_refs e ?_
    have := RcAt.tuples (e := fun _ => true) hl hb (uf hu) fun j h1 h2 => r.2.at j h1 h2
    rw [all_true, show (items.size == w5.size) = true from beq_iff_eq.mpr r.1] at this
    exact this
  | lst zs =>
   obtain ⟨a, items, rfl, hl, x⟩ := x
   obtain ⟨b, w5, rfl, hb, y⟩ := y
   have r := L2.rows H x y
   by_cases e : a = b
   ·exact e ▸ .same _
   ·refine .of_refs e ?_
    have := RcAt.lists (e := fun _ => true) hl hb r.1 (uf hu) fun j h1 h2 => r.2.at j h1 h2
    rw [all_true] at this
    exact this
  | cH aN => exact (Bool.false_ne_true x.1).elim
  | _ => exact FE x y
theorem pR {kb : List (Str × Value)} (hu : A.units + k < cLine) : ∀ {aN : List (Nm × AV)} {ps qs : List (Str × Value)}, K2 (Dat S s.heap k false) aN ps → K2 (Dat S s.heap k false) aN qs → (∀ p, p ∈ qs → valueAt kb p.1 = some p.2) → ps.length = qs.length ∧ KeqHits A s kb ps true
 | [], _, _, x, y, _ => by
  rw [show _ = [] from x, show _ = [] from y]
  exact ⟨rfl, .nil⟩
 | p :: r, _, _, x, y, g => by
  obtain ⟨v, vs, rfl, x1, x2⟩ := x
  obtain ⟨u, us, rfl, y1, y2⟩ := y
  have z := pR hu x2 y2 fun p m => g p (.tail _ m)
  exact ⟨congrArg (· + 1) z.1, .hit (e := true) (b := true) (g _ (.head _)) (ES k x1 y1 hu) z.2⟩
noncomputable def R1 (S : aP) (s : Shared) (A : Around) (u v : Value) : Prop := ∃ a b, u = .ref a ∧ v = .ref b ∧ ∀ (E : Value → Shared → Prop) (Q : Value → Shared → Prop), Q (.bool true) s → wpAny (model S.prog S.w) A (richCompare .Eq (.ref a) (.ref b)) Q E s
theorem R1.eq (h : R1 S s A u v) : D6 S.prog S.w A s u v := by
 obtain ⟨a, b, rfl, rfl, h⟩ := h
 exact .refs h
theorem Dm {P : Prop} {d : Bool} {z : AV} (H : ∀ z u v, Dat S s.heap k true z u → Dat S s.heap k true z v → D6 S.prog S.w A.in1 s u v) (x : Dat S s.heap (k + 1) true z u) (y : Dat S s.heap (k + 1) true z v) (hu : A.units + (k + 1) < cLine)
  (r : R1 S s A u v → P) (f : Flat z u → Flat z v → P) : P := by
 cases z with
 | tup zs =>
  obtain ⟨a, items, rfl, hl, x⟩ := x
  obtain ⟨b, w5, rfl, hb, y⟩ := y
  have w := L2.rows H x y
  exact r ⟨a, b, rfl, rfl, fun E Q h => uH hl hb w.1 (uf hu) (fun j h1 h2 => w.2.at j h1 h2) h⟩
 | lst zs =>
  obtain ⟨a, items, rfl, hl, x⟩ := x
  obtain ⟨b, w5, rfl, hb, y⟩ := y
  have w := L2.rows H x y
  exact r ⟨a, b, rfl, rfl, fun E Q h => yh hl hb w.1 (uf hu) (fun j h1 h2 => w.2.at j h1 h2) h⟩
 | cH aN =>
  obtain ⟨_, a, ps, rfl, da, ha, na, x⟩ := x
  obtain ⟨_, b, qs, rfl, db, hb, nb, y⟩ := y
  have w := pR (kb := qs) (xJ hu) x y fun p m => Exists.elim (List.mem_iff_getElem?.mp m) fun i hi => valueAt_of_get nb (k := p.1) (v := p.2) hi
  exact r ⟨a, b, rfl, rfl, fun E Q h => keq_eq (r := true) ha hb da db (uf hu) (fun _ => w.2) (by rw [show (_ == _) = true from beq_iff_eq.mpr w.1]; exact h)⟩
 | _ => exact f x y
theorem ET (k : Nat) : ∀ {z : AV} {u v : Value} {A : Around}, Dat S s.heap k true z u → Dat S s.heap k true z v → A.units + k < cLine → D6 S.prog S.w A s u v := by
 induction k with
 | zero => exact fun x y _ => .of (mF x y)
 | succ k ih => exact fun {z u v A} x y hu => Dm (d := true) (fun z u v x y => ih x y (xJ hu)) x y hu R1.eq fun x y => .of (mF x y)
theorem AD {z : AV} {E : Value → Shared → Prop} {Q : Value → Shared → Prop} (x : Dat S s.heap (k + 1) true z u) (y : Dat S s.heap (k + 1) true z v) (hu : A.units + (k + 1) < cLine) (hq : Q (.bool true) s) : wpAny (MD S) A (compareOp .Eq u v) Q E s :=
 Dm (d := true) (fun z u v x y => ET k x y (xJ hu)) x y hu (fun h => by
  obtain ⟨a, b, rfl, rfl, h⟩ := h
  exact h E Q hq) fun x y => by
 cases z with
 | none => rw [show u = .none from x, show v = .none from y]; exact RcAt.none_none _ _ _ _ hq
 | bool b => rw [show u = .bool b from x, show v = .bool b from y]; exact RcAt.bool_bool _ _ _ _ _ _ ((beq_self_eq_true b).symm ▸ hq)
 | int i =>
  obtain ⟨t, rfl⟩ := x
  obtain ⟨t', rfl⟩ := y
  exact P.eq_int ((beq_self_eq_true i).symm ▸ hq)
 | str l =>
  obtain ⟨t, rfl⟩ := x
  obtain ⟨t', rfl⟩ := y
  exact eq_str ((beq_self_eq_true (⟨l.toArray⟩ : Str)).symm ▸ hq)
 | _ => exact x.elim
end
section
variable {S : aP} {W : Wd} {F : Addr → Option Obj} {H : List AO} {s : Shared} {k : Nat} {d : Bool}
theorem wK {x z : AV} {v : Value} (q : AZ x = some z) (r : VR S W x v) : Dat S s.heap k d z v := by
 have f : Flat z v := by
  cases x with
  | none => exact aj (P := fun z => Flat z v) q r
  | bool b => exact aj (P := fun z => Flat z v) q r
  | int i => exact aj (P := fun z => Flat z v) q r
  | str l => exact aj (P := fun z => Flat z v) q (r.gh (P := fun v => Flat (.str l) v) fun t _ => ⟨t, rfl⟩)
  | _ => exact nn q
 cases k with
 | zero => exact f
 | succ k =>
  cases z with
  | tup => exact f.elim
  | lst => exact f.elim
  | cH => exact f.elim
  | _ => exact f
theorem mO {f : AV → Option AV} {R : AV → Value → Prop} (hf : ∀ x z v, f x = some z → VR S W x v → R z v) : ∀ {vs zs : List AV} {us : List Value}, rn f vs = some zs → bP S W vs us → L2 R zs us
 | [], _, _, q, r => aj (P := fun zs => L2 R zs _) q r
 | _ :: _, _, _, q, r => ai q fun y q e1 => ai q fun zq q e2 => aj (P := fun zs => L2 R zs _) q (r.b7 (P := fun us => L2 R (y :: zq) us) fun u us r1 r2 => ⟨u, us, rfl, hf _ _ _ e1 r1, mO hf e2 r2⟩)
theorem rm {f : AV → Option AV} {R : AV → Value → Prop} (hf : ∀ x z v, f x = some z → VR S W x v → R z v) : ∀ {vs zs : List (Nm × AV)} {us : List (Str × Value)}, JZ f vs = some zs → eN S W vs us → K2 R zs us
 | [], _, _, q, r => aj (P := fun zs => K2 R zs _) q r
 | p :: _, _, _, q, r => ai q fun y q e1 => ai q fun zq q e2 => aj (P := fun zs => K2 R zs _) q (r.b7 (P := fun us => K2 R ((p.1, y) :: zq) us) fun u us r1 r2 => ⟨u, us, rfl, hf _ _ _ e1 r1, rm hf e2 r2⟩)
theorem AB (I : bI S W F H s.heap) (hb : ∃ o, S.hB sysModules = some o) (k : Nat) : ∀ (d : Bool) (x z : AV) (v : Value), gp H k d x = some z → VR S W x v → Dat S s.heap k d z v := by
 induction k with
 | zero => exact fun d x z v q r => wK q r
 | succ k ih =>
  intro d x z v q r
  refine bL q (fun vs q e => gQ q fun zs ez q => ez ▸ (r.pJ e).rS (P := fun v => Dat S s.heap (k + 1) d (.tup zs) v) fun a items n dd sl hp _ rs => ⟨a, items, rfl, ⟨_, I.p _ _ hp, rfl, n, rfl⟩, mO (ih d) q rs⟩) fun q => bL q (fun vs q e => gQ q fun zs ez q => ez ▸ bL e (fun _ e e' => (r.vY e').vi (P := fun v => Dat S s.heap (k + 1) d (.lst zs) v) fun a items n dd sl hp _ rs => ⟨a, items, rfl, ⟨_, I.p _ _ hp, rfl, n, rfl⟩, mO (ih d) q (aj (P := fun vs => bP S W vs items.toList) e rs)⟩) fun e => ai e fun n e e' => (r.dU e').y6 (P := fun v => Dat S s.heap (k + 1) d (.lst zs) v) I e fun a items m er g _ _ rs => ⟨a, items, rfl, ⟨_, g, rfl, m, rfl⟩, mO (ih d) q rs⟩) fun q => bL q (fun aN q e => bC q (fun q dt => gQ q fun zs ez q => ez ▸ bL e (fun _ e e' => (r.z7 e').ya (P := fun v => Dat S s.heap (k + 1) d (.cH zs) v) fun a o ps hp dd ne _ rs => ⟨dt, a, ps, rfl, dd.at (I.p _ _ hp), ne, dd.nd, rm (ih false) q (aj (P := fun vs => eN S W vs ps) e rs)⟩) fun e => ai e fun n e e' => (r.dU e').FK (P := fun v => Dat S s.heap (k + 1) d (.cH zs) v) I e fun a o ps er g dd _ rs => ⟨dt, a, ps, rfl, dd.at g, I.rr hb er, dd.nd, rm (ih false) q rs⟩) fun q _ => nn q) fun q => wK q r
theorem BD {P : oZ → Prop} {o : oZ} (h : Hn o = true) (k : P .eq) : P o := by
 cases o with
 | eq => exact k
 | _ => exact absurd h Bool.false_ne_true
theorem ji (hb : ∃ o, S.hB sysModules = some o) : fC S := fun W F H A s o x y b u v Q q hx hy I hu hq => bL q (fun r q e => EM e hx hy I.p (aj (P := fun b => Q (.bool b) s → Q (.bool r) s) q id hq)) fun q => bC q (fun q eo => BD (P := fun o => wpAny (MD S) A (compareOp (kj o) u v) Q no s) eo (ai q fun z1 q e1 => ai q fun z2 q e2 => by
  by_cases e3 : z1 = z2
  ·rw [if_pos e3] at q
   exact AD (k := 5) (AB I hb 6 true _ _ _ e1 hx) (AB I hb 6 true _ _ _ (e3 ▸ e2) hy) (by unfold cLine; omega) (aj (P := fun b => Q (.bool b) s → Q (.bool true) s) q id hq)
  ·rw [if_neg e3] at q
   exact nn q)) fun q _ => nn q
end
noncomputable def tq (ks : cG) (sc : Scope) : Bool := ks.all fun q => decide (sc.names.lookup (bz q.1) = some (Sz q.2))
noncomputable def Rf (ps : List Nm) (sc : Scope) : Bool := ps.all fun x => decide (sc.names.lookup (bz x) = some .local) || decide (sc.names.lookup (bz x) = some .cell)
noncomputable def jM (ps : List Nm) (ds as : List AV) : Option (List (Nm × AV)) := ia (Nat.ble as.length ps.length && Nat.ble ps.length (as.length + ds.length)) (ps.zip (as ++ ds.drop (as.length + ds.length - ps.length)))
noncomputable def zQ (S : aP) (ps : List Nm) (ds : List AV) (fd : FuncData) : Prop := ∀ (s : Shared) (vs : List Value), S.K.In s.heap → vs.length ≤ ps.length → ps.length ≤ vs.length + ds.length →
 ∃ us, (∀ W, bP S W (ds.drop (vs.length + ds.length - ps.length)) us) ∧ BindsTo s fd ⟨vs, []⟩ ((ps.map bz).zip (vs ++ us))
structure zS (S : aP) (f : Fn) (ps : List Nm) (ds : List AV) (ks : cG) (ir : cT) (fd : FuncData) (body : List Stmt) : Prop where
 at_ : ∃ oc od osl, S.K.lookup (S.fa f) = some ⟨oc, od, .func fd, osl⟩
 bod : fd.body = .stmts body
 kind : fd.scope.kind = .function
 co : fd.scope.isCoroutine = false
 ge : fd.scope.isGenerator = false
 gl : fd.globals = mainGlobals
 bu : fd.builtins = builtinsNs
 ml : fd.closure = []
 code : codeIn S.K fd.code fd.qualname = true
 kin : tq ks fd.scope = true
 pin : Rf ps fd.scope = true
 nd : jZ ps = true
 m : qm ks ir body = true
 bind : zQ S ps ds fd
theorem iQ {y : Str} : ∀ {names : List (Str × NameKind)} {k : Nat} {acc : List (Str × Addr)}, ((y, .cell) ∈ names ∨ ∃ c, acc.lookup y = some c) → ∃ c, (cellsFrom k names acc).lookup y = some c
 | [], _, _, h => h.elim (fun h => nomatch h) id
 | (n, kd) :: r, k, acc, h => by
  have up : (∃ c, acc.lookup y = some c) → ∃ c, ((n, k) :: acc).lookup y = some c := fun h => by
   rw [List.lookup_cons]
   cases y == n with
   | true => exact ⟨k, rfl⟩
   | false => exact h
  unfold cellsFrom
  by_cases e : (kd == .cell) = true
  ·rw [if_pos e]
   refine iQ (h.elim (fun m => (List.mem_cons.mp m).elim (fun z => .inr ?_) .inl) fun h => .inr (up h))
   cases z
   rw [List.lookup_cons, beq_self_eq_true]
   exact ⟨k, rfl⟩
  ·rw [if_neg e]
   refine iQ (h.imp (fun m => (List.mem_cons.mp m).elim (fun z => ?_) id) id)
   cases z
   exact absurd rfl e
theorem qz {B : List (Str × Value) → (Str → Option Value) → Str → Option Value} {st : (Str → Option Value) → Str × Value → Str → Option Value} {y : Str} {v : Value} (h0 : ∀ m, B [] m = m) (hs : ∀ p r m, B (p :: r) m = B r (st m p))
  (h1 : ∀ m p, y ≠ p.1 → st m p y = m y) (h2 : ∀ m p, y = p.1 → st m p y = some p.2) : ∀ {binds : List (Str × Value)} {m : Str → Option Value}, (binds.map (·.1)).Nodup → (y ∉ binds.map (·.1) → B binds m y = m y) ∧ ((y, v) ∈ binds → B binds m y = some v)
 | [], m, _ => ⟨fun _ => congrFun (h0 m) y, fun h => nomatch h⟩
 | p :: r, m, nd => by
  have n := List.nodup_cons.mp (nd : (p.1 :: r.map (·.1)).Nodup)
  have z := qz (v := v) h0 hs h1 h2 (m := st m p) n.2
  rw [hs]
  refine ⟨fun h => (z.1 fun q => h (.tail _ q)).trans (h1 m p fun e => h (e ▸ .head _)), fun h => (List.mem_cons.mp h).elim (fun e => ?_) z.2⟩
  subst e
  exact (z.1 n.1).trans (h2 m _ rfl)
theorem si {k : Str → Option NameKind} {y : Str} {v : Value} (hk : k y = some .local) {binds : List (Str × Value)} {m : Str → Option Value} (nd : (binds.map (·.1)).Nodup) (h : (y, v) ∈ binds) : bindL k binds m y = some v :=
 (qz (B := bindL k) (st := fun m p => if k p.1 = some .local then fun y => if y = p.1 then some p.2 else m y else m) (fun _ => rfl) (fun _ _ _ => rfl) (fun m p ne => by
  by_cases z : k p.1 = some .local
  ·rw [if_pos z]; exact if_neg ne
  ·rw [if_neg z]) (fun m p e => by rw [← e, if_pos hk]; exact if_pos rfl) nd).2 h
theorem Ah {k : Str → Option NameKind} {y : Str} {v : Value} (hk : k y ≠ some .local) {binds : List (Str × Value)} {m : Str → Option Value} (nd : (binds.map (·.1)).Nodup) (h : (y, v) ∈ binds) : bindC k binds m y = some v :=
 (qz (B := bindC k) (st := fun m p => if k p.1 = some .local then m else fun y => if y = p.1 then some p.2 else m y) (fun _ => rfl) (fun _ _ _ => rfl) (fun m p ne => by
  by_cases z : k p.1 = some .local
  ·rw [if_pos z]
  ·rw [if_neg z]; exact if_neg ne) (fun m p e => by rw [← e, if_neg hk]; exact if_pos rfl) nd).2 h
section
variable {S : aP} {G : bS} {W W' : Wd} {F : Addr → Option Obj} {H : List AO} {fm : Fm} {σ : St} {s s' : Shared} {A : Around} {E : Value → Shared → Prop} {n : Nat}
theorem xS : ∀ {ps : List Nm} {as : List AV} {vs : List Value}, bP S W as vs → eN S W (ps.zip as) ((ps.map bz).zip vs)
 | [], _, _, _ => .nil
 | _ :: _, [], _, h => h.jc .nil
 | p :: r, a :: as, _, h => h.b7 (P := fun vs => eN S W ((p :: r).zip (a :: as)) (((p :: r).map bz).zip vs)) fun _ _ x q => .cons x (xS q)
theorem rT {x : Nm} {av : AV} : ∀ {aN : List (Nm × AV)} {bs : List (Str × Value)}, eN S W aN bs → lk aN x = some av → ∃ v, (bz x, v) ∈ bs ∧ VR S W av v
 | [], _, _, e => nn e
 | p :: q, _, h, e => h.b7 (P := fun bs => ∃ v, (bz x, v) ∈ bs ∧ VR S W av v) fun v vs r t => by
  rw [c9] at e
  by_cases z : p.1 = x
  ·rw [if_pos z] at e
   exact ⟨v, z ▸ .head _, Option.some.inj e ▸ r⟩
  ·rw [if_neg z] at e
   exact Exists.elim (rT t e) fun u w => ⟨u, .tail _ w.1, w.2⟩
noncomputable def ky : Fl → Option AV
 | .nx => some .none
 | .rt v => some v
 | .bk => Option.none
theorem Jo {f : Fl} {r : AV} {g : Flow} : ky f = some r → FR S W f g → VR S W r (match g with | .ret v => v | _ => .none) := fun hr h => by
 cases f with
 | nx => exact (h : g = .next) ▸ aj (P := fun r => VR S W r .none) hr .none
 | bk => exact nn hr
 | rt v => exact Exists.elim h fun u z => z.1 ▸ aj (P := fun r => VR S W r u) hr z.2
theorem BR {ks : cG} {sc : Scope} (h : tq ks sc = true) {x : Nm} {k : Kd} (e : lk ks x = some k) : sc.names.lookup (bz x) = some (Sz k) := of_decide_eq_true (List.all_eq_true.mp h _ (ra e))
noncomputable def uJ (fd : FuncData) (L a : Addr) : Fm := ⟨callEnvC fd L a, L :: ((cellsFrom (L + 1) fd.scope.names []).filterMap fun p => (cellsFrom (L + 1) fd.scope.names []).lookup p.1)⟩
theorem CU {fd : FuncData} {L a c : Addr} {x : Str} (h : (cellsFrom (L + 1) fd.scope.names []).lookup x = some c) : c ∈ (uJ fd L a).ow :=
 .tail _ (List.mem_filterMap.mpr ⟨(x, c), mem_of_lookup h, h⟩)
theorem sT {f : Fn} {ps : List Nm} {ds : List AV} {ks : cG} {ir : cT} {fd : FuncData} {body : List Stmt} {as : List AV} {V : List (Nm × AV)}
  (lim : ∀ h, S.K.In h → h.NoLimit) (D : zS S f ps ds ks ir fd body) (hb : jM ps ds as = some V)
  {vs : List Value} (ro : Ro (n + 2) A) (I : bI S W F H s.heap) (rs : bP S W as vs) {R : Result → Shared → Prop}
  (k : ∀ (fm : Fm) (h₁ : Heap) (tk : Nat), zR S fm → o2 ks fm.env → Ro (n + 1) (A.deeper fm.env) → Inv S W F fm { H := H, V := V, O := [] } h₁ →
   wpAny (MD S) (A.deeper fm.env) (execs body fm.env) (fun g s₂ => R (.ok (.ret (match g with | .ret v => v | _ => .none))) s₂) no { s with heap := h₁, toks := tk }) :
  codeAny (MD S) A (.call (.ref (S.fa f)) ⟨vs, []⟩) R s := fZ hb fun b eV => by
 have K := I.K
 have hl := rs.length
 have b1 := hl ▸ Nat.le_of_ble_eq_true (aX b).1
 have b2 := hl ▸ Nat.le_of_ble_eq_true (aX b).2
 obtain ⟨us, r1, r2⟩ := D.bind s vs K b1 b2
 have rb : eN S W V ((ps.map bz).zip (vs ++ us)) := eV ▸ xS (rs.append (hl ▸ r1 W))
 have ln : ps.length ≤ (vs ++ us).length := by
  rw [List.length_append, ← (r1 W).length, List.length_drop]
  omega
 have ke : ((ps.map bz).zip (vs ++ us)).map (·.1) = ps.map bz := List.map_fst_zip (by rw [List.length_map]; exact ln)
 have nd : (((ps.map bz).zip (vs ++ us)).map (·.1)).Nodup := by
  rw [ke]
  exact List.Pairwise.map (S := (· ≠ ·)) bz (fun a b h e => h (iU e)) (lE D.nd)
 have kind : ∀ k, ∀ x ∈ (ps.map bz).zip (vs ++ us), fd.scope.names.lookup x.1 = some .local ∨ (fd.scope.names.lookup x.1 = some .cell ∧ ((cellsFrom k fd.scope.names []).lookup x.1).isSome = true) := fun k x m => by
  obtain ⟨y, my, e⟩ := List.mem_map.mp (List.of_mem_zip (a := x.1) (b := x.2) m).1
  rw [← e]
  exact (Bool.or_eq_true_iff.mp (List.all_eq_true.mp D.pin y my)).imp of_decide_eq_true fun z => ⟨of_decide_eq_true z, Option.isSome_iff_exists.mpr (iQ (.inl (mem_of_lookup (of_decide_eq_true z))))⟩
 obtain ⟨oc, od, osl, at_⟩ := D.at_
 refine codeAny_call_function (by have := ro.dp; show A.depth < 1000; omega) (K _ _ at_) rfl D.co D.ge D.bod (codeRec_of K D.code) (r2 _ _ _ _ ?_)
 rw [D.ml]
 refine wpAny_newFunctionEnv_cells D.kind (kind _) fun env he' s₁ x => ?_
 subst he'
 refine ⟨(lim s.heap K).keeps x.toInCall.keep, codeAny_func ?_⟩
 obtain ⟨h₁, tk, rfl, hk⟩ := x.done
 have os : zR S (uJ fd s.heap.objs.size (S.fa f)) :=
  {kf := D.kind, gl := D.gl, bu := D.bu, lo := .head _, cl := fun y c e => Nat.ne_of_gt (x.above y c (mem_of_lookup e)), ce := fun y c _ e => CU (a := S.fa f) e, ci := fun y z c _ e1 e2 => name_of_addr x.apart (mem_of_lookup e1) (mem_of_lookup e2) }
 have own : ∀ a ∈ (uJ fd s.heap.objs.size (S.fa f)).ow, s.heap.objs.size ≤ a ∧ ∃ o, h₁.get? a = some o := fun a m => (List.mem_cons.mp m).elim (fun e => Exists.elim x.toInCall.ns fun o z => Exists.elim z fun _ z => Exists.elim z fun _ z => ⟨Nat.le_of_eq e.symm, o, e ▸ z.1⟩) fun m => Exists.elim (List.mem_filterMap.mp m) fun p z => Exists.elim (x.cell p.1 a z.2) fun o w => ⟨Nat.le_of_lt (x.above p.1 a (mem_of_lookup z.2)), o, w.1⟩
 have va : ∀ y av, lk V y = some av → ∃ v, VR S W av v ∧ xQ (uJ fd s.heap.objs.size (S.fa f)).env h₁ (bindL (uJ fd s.heap.objs.size (S.fa f)).env.kindOf ((ps.map bz).zip (vs ++ us)) fun _ => none) (bz y) v := fun y av e => by
  obtain ⟨v, m, r⟩ := rT rb e
  refine ⟨v, r, (kind (s.heap.objs.size + 1) _ m).imp (fun z => ⟨z, si z nd m⟩) fun z => ?_⟩
  obtain ⟨c, hc⟩ := Option.isSome_iff_exists.mp z.2
  have w := x.cell _ c hc
  rw [Ah (fun e => nomatch (z.1.symm.trans e : some NameKind.cell = some NameKind.local)) nd m] at w
  exact ⟨z.1, c, hc, w⟩
 have I1 : Inv S W F (uJ fd s.heap.objs.size (S.fa f)) { H := H, V := V, O := [] } h₁ := ⟨I.keeps hk, fun a m => have z := own a m; have w := I.above z.1; ⟨w.1, w.2.1, w.2.2, z.2⟩, fun y c _ e => .inl (CU (a := S.fa f) e), ⟨_, x.toInCall.ns, va⟩, fun y e => Exists.elim (iQ (k := s.heap.objs.size + 1) (acc := []) (.inl (mem_of_lookup e))) fun c hc => ⟨c, _, hc, x.cell _ c hc⟩⟩
 have ro1 : Ro (n + 1) (A.deeper (callEnvC fd s.heap.objs.size (S.fa f))) := ⟨ro.hd, by
  have := ro.dp
  show A.depth + 1 + _ ≤ _
  omega, by
  have := ro.un
  show A.units + 3 + _ ≤ _
  omega⟩
 exact wpAny_mono (k (uJ fd s.heap.objs.size (S.fa f)) h₁ tk os (fun y k e => BR D.kin e) ro1 I1) (fun _ _ p => p) fun _ _ h => h.elim
theorem A3 {f : Fn} {ps : List Nm} {ds : List AV} {ks : cG} {ir : cT} {fd : FuncData} {body : List Stmt} {as : List AV} {V : List (Nm × AV)} {fl : Fl} {σ' : St} {r : AV}
  (GO : a6 S G n) (D : zS S f ps ds ks ir fd body) (hb : jM ps ds as = some V) (he : b0 G ir { H := H, V := V, O := [] } = some (fl, σ')) (hr : ky fl = some r)
  {vs : List Value} (ro : Ro (n + 2) A) (I : bI S W F H s.heap) (rs : bP S W as vs) (hz : eR σ'.O) :
  codeAny (MD S) A (.call (.ref (S.fa f)) ⟨vs, []⟩) (i3 (o3 S W F σ'.H s (VP S r))) s :=
 sT GO.lim D hb ro I rs fun fm h₁ tk os kd ro1 I1 => wpAny_mono (mY GO (ji GO.sys) ir ⟨fm, ks, F, _, os.tofX, kd, ro1⟩ body D.m os W _ { s with heap := h₁, toks := tk } I1 _ he hz) (fun g s₂ p => by
  cases p with | mk W' L fr I2 k => exact ⟨W', L, Jo hr fr, I2.tobI, ⟨k.gens, k.os⟩⟩) fun e _ h => h.elim
end
noncomputable abbrev iJ (m : Nat) : AV → Prop := D7 (· < m)
noncomputable abbrev ij (m : Nat) : List AV → Prop := xU (· < m)
noncomputable abbrev ja (m : Nat) : List (Nm × AV) → Prop := zU (· < m)
section
variable {m : Nat}
theorem iJ.none : iJ m .none := trivial
theorem iJ.bool (b : Bool) : iJ m (.bool b) := trivial
theorem iJ.int (i : Int) : iJ m (.int i) := trivial
theorem iJ.str (s : List Nat) : iJ m (.str s) := trivial
theorem iJ.tup {vs : List AV} (h : ij m vs) : iJ m (.tup vs) := h
theorem iJ.lst {vs : List AV} (h : ij m vs) : iJ m (.lst vs) := h
theorem iJ.cH {aN : List (Nm × AV)} (h : ja m aN) : iJ m (.cH aN) := h
theorem iJ.pD (n : Nat) : iJ m (.pD n) := trivial
theorem iJ.aQ {i : Nat} (h : i < m) : iJ m (.aQ i) := h
theorem iJ.inst {c : Cl} {i : Nat} (h : i < m) : iJ m (.inst c i) := h
theorem ij.nil : ij m [] := trivial
theorem ij.cons {a : AV} {as : List AV} (h : iJ m a) (r : ij m as) : ij m (a :: as) := ⟨h, r⟩
theorem ja.nil : ja m [] := trivial
theorem ja.cons {k : Nm} {a : AV} {as : List (Nm × AV)} (h : iJ m a) (r : ja m as) : ja m ((k, a) :: as) := ⟨h, r⟩
end
noncomputable def i9 (m : Nat) (ao : AO) : Prop := match ao with
 | .list vs => ij m vs
 | ao => ∀ aN, ao.fl = some aN → ja m aN
noncomputable def la (m : Nat) (H : List AO) : Prop := ∀ ao ∈ H, i9 m ao
noncomputable def Wd.tr (W : Wd) (m : Nat) : Wd := { W with ρ := W.ρ.take m }
section
variable {S : aP} {W : Wd} {m : Nat}
theorem hY {α : Type} {l : List α} {i : Nat} {a : α} (h : l[i]? = some a) : i < l.length := (List.getElem?_eq_some_iff.mp h).1
theorem VR.ml {a : AV} {v : Value} (h : VR S W a v) : iJ W.ρ.length a := VR.NG (fun _ _ => hY) a v h
theorem bP.ml {as : List AV} {vs : List Value} (h : bP S W as vs) : ij W.ρ.length as := by
 induction as generalizing vs with
 | nil => trivial
 | cons a r ih => exact h.b7 fun _ _ x q => ⟨x.ml, ih q⟩
theorem eN.ml {as : List (Nm × AV)} {vs : List (Str × Value)} (h : eN S W as vs) : ja W.ρ.length as := by
 induction as generalizing vs with
 | nil => trivial
 | cons a r ih => exact h.b7 fun _ _ x q => ⟨x.ml, ih q⟩
theorem x7 {vs : List AV} (h : ij m vs) : i9 m (.list vs) := h
theorem EJ {ao : AO} {aN : List (Nm × AV)} (e : ao.fl = some aN) (h : ja m aN) : i9 m ao := by
 cases ao with
 | list vs => exact nn e
 | _ => exact fun k q => Option.some.inj (e.symm.trans q) ▸ h
theorem i9.Vp {ao : AO} {aN : List (Nm × AV)} (h : i9 m ao) (e : ao.fl = some aN) : ja m aN := by
 cases ao with
 | list vs => exact nn e
 | _ => exact h aN e
theorem OR.ml {ao : AO} {o : Obj} (h : OR S W ao o) : i9 W.ρ.length ao := by
 rcases h with ⟨vs, items, n, e, _, _, r⟩ | ⟨aN, ps, e, _, _, r⟩
 ·exact e ▸ x7 r.ml
 ·exact EJ e r.ml
theorem Lu {ρ : List Addr} {i : Nat} {a : Addr} (l : i < m) (h : ρ[i]? = some a) : (ρ.take m)[i]? = some a := by
 rw [List.getElem?_take, if_pos l]; exact h
theorem VR.tr {a : AV} {v : Value} (h : VR S W a v) (c : iJ m a) : VR S (W.tr m) a v := VR.map (W := W) (W' := W.tr m) (Q := fun i => i < m) (fun _ _ e => e) (fun i _ l e => (Lu l e : (W.ρ.take m)[i]? = _)) a v h c
theorem bP.tr {as : List AV} {vs : List Value} (h : bP S W as vs) (c : ij m as) : bP S (W.tr m) as vs := by
 induction as generalizing vs with
 | nil => exact h
 | cons a r ih => exact h.b7 fun _ _ x q => .cons (x.tr c.1) (ih q c.2)
theorem eN.tr {as : List (Nm × AV)} {vs : List (Str × Value)} (h : eN S W as vs) (c : ja m as) : eN S (W.tr m) as vs := by
 induction as generalizing vs with
 | nil => exact h
 | cons a r ih => exact h.b7 fun _ _ x q => .cons (x.tr c.1) (ih q c.2)
theorem OR.tr {ao : AO} {o : Obj} (h : OR S W ao o) (c : i9 m ao) : OR S (W.tr m) ao o := by
 rcases h with ⟨vs, items, n, e, e', z, r⟩ | ⟨aN, ps, e, d, z, r⟩
 ·rw [e] at c
  exact .inl ⟨vs, items, n, e, e', z, r.tr c⟩
 ·exact .dict e d z (r.tr (c.Vp e))
noncomputable def H5 (ao bo : AO) : Prop := ao = bo ∨ ∃ aN, ao.fl = some aN ∧ bo.fl = some aN
theorem H5.or {ao bo : AO} {o : Obj} (s : H5 ao bo) (h : OR S W ao o) : OR S W bo o :=
 s.elim (fun e => e ▸ h) fun s => Exists.elim s fun aN z => h.wF z.1 fun ps d w r => .dict z.2 d w r
theorem H5.refl (ao : AO) : H5 ao ao := .inl rfl
noncomputable def gw (H H2 : List AO) : Prop := ∀ (i : Nat) (ao : AO), H2[i]? = some ao → ∃ bo, H[i]? = some bo ∧ H5 bo ao
theorem gw.refl (H : List AO) : gw H H := fun _ ao e => ⟨ao, e, .refl ao⟩
theorem gw.pre (H J : List AO) : gw (H ++ J) H := fun i ao e => ⟨ao, (List.getElem?_append_left (hY e)).trans e, .refl ao⟩
theorem gw.le {H H2 : List AO} (q : gw H H2) : H2.length ≤ H.length := Nat.le_of_not_lt fun l => Exists.elim (q H.length _ (List.getElem?_eq_getElem l)) fun bo z => Nat.lt_irrefl _ (hY z.1)
theorem gw.set {H H2 : List AO} (h : gw H H2) {i : Nat} {ao bo : AO} (s : H5 ao bo) : gw (H.set i ao) (H2.set i bo) := fun j co e => by
 by_cases z : i = j
 ·subst z
  have l : i < H2.length := List.length_set ▸ hY e
  rw [List.getElem?_set_self l] at e
  exact ⟨ao, List.getElem?_set_self (Nat.lt_of_lt_of_le l h.le), Option.some.inj e ▸ s⟩
 ·rw [List.getElem?_set_ne z] at e
  rw [List.getElem?_set_ne z]
  exact h j co e
end
section
variable {S : aP} {G : bS} {W W' : Wd} {F : Addr → Option Obj} {H H2 : List AO} {s s' : Shared} {A : Around} {n : Nat} {h : Heap}
theorem bI.sim (I : bI S W F H h) (l : H2.length = H.length) (q : gw H H2) : bI S W F H2 h :=
 ⟨I.p, I.f, I.base, I.len.trans l.symm, fun i a ao e e' => Exists.elim (q i ao e') fun bo x => Exists.elim (I.hs i a bo e x.1) fun o u => ⟨o, u.1, x.2.or u.2⟩, I.nd, I.ρp, I.ρf, I.pf⟩
theorem bI.cut (I : bI S W F H h) (q : gw H H2) (c : la H2.length H2) : bI S (W.tr H2.length) F H2 h :=
 have sub : ∀ a ∈ W.ρ.take H2.length, a ∈ W.ρ := fun a m => List.mem_of_mem_take m
 ⟨I.p, I.f, I.base, List.length_take.trans (Nat.min_eq_left (I.len ▸ q.le)), fun i a ao e e' => Exists.elim (q i ao e') fun bo x => Exists.elim (I.hs i a bo ((show (W.ρ.take H2.length)[i]? = W.ρ[i]? by rw [List.getElem?_take, if_pos (hY e')]).symm.trans e) x.1) fun o u => ⟨o, u.1, (x.2.or u.2).tr (c ao (List.mem_of_getElem? e'))⟩, I.nd.sublist (List.take_sublist ..), fun a m => I.ρp a (sub a m), fun a m => I.ρf a (sub a m), I.pf⟩
theorem bI.closed (I : bI S W F H h) : la H.length H := fun ao m => Exists.elim (List.mem_iff_getElem?.mp m) fun i hi => Exists.elim (I.hs i _ ao (List.getElem?_eq_getElem (I.len ▸ hY hi)) hi) fun o z => I.len ▸ z.2.ml
theorem o3.cut {r : AV} {v : Value} {t : Shared} (p : o3 S W F H s (VP S r) v t) (hw : W.ρ.length ≤ H2.length) (q : gw H H2) (c : la H2.length H2) (cr : iJ H2.length r) : o3 S W F H2 s (VP S r) v t := by
 cases p with | mk W' L rv I k => ?_
 refine ⟨W'.tr H2.length, ⟨fun a o e => L.P a o e, Exists.elim L.ρ fun x e => ⟨x.take (H2.length - W.ρ.length), ?_⟩⟩, rv.tr cr, I.cut q c, k⟩
 show W'.ρ.take _ = _
 rw [e, List.take_append, List.take_of_length_le hw]
theorem E9 {f : Fn} {ps : List Nm} {ds : List AV} {ks : cG} {ir : cT} {fd : FuncData} {body : List Stmt} {as : List AV} {V : List (Nm × AV)} {fl : Fl} {σ' : St} {r : AV} {H1 H' : List AO}
  (GO : a6 S G n) (D : zS S f ps ds ks ir fd body) (hb : jM ps ds as = some V) (hl : H1.length = H.length) (h1 : gw H H1) (he : b0 G ir { H := H1, V := V, O := [] } = some (fl, σ')) (hr : ky fl = some r)
  (h2 : gw σ'.H H') (hle : H.length ≤ H'.length) (hc : la H.length H → ij H.length as → la H'.length H' ∧ iJ H'.length r)
  {vs : List Value} (ro : Ro (n + 2) A) (I : bI S W F H s.heap) (rs : bP S W as vs) (hz : eR σ'.O) :
  codeAny (MD S) A (.call (.ref (S.fa f)) ⟨vs, []⟩) (i3 (o3 S W F H' s (VP S r))) s :=
 have c := hc I.closed (I.len ▸ rs.ml)
 codeAny_mono (A3 GO D hb he hr ro (I.sim hl h1) rs hz) fun res s' q => q.mono fun v q => q.cut (I.len ▸ hle) h2 c.1 c.2
end
structure fG where
 ps : List Nm
 ds : List AV
 ks : cG
 ir : cT
noncomputable def jL (G : bS) (d : fG) (as : List AV) (H : List AO) : Option (AV × List AO × List Nat) :=
 bd (jM d.ps d.ds as) fun V => bd (b0 G d.ir { H := H, V := V, O := [] }) fun p => bd (ky p.1) fun r => some (r, p.2.H, p.2.O)
noncomputable def FD (hs : Fn → fG → Prop) (f : Fn) : Type := { d : fG // hs f d }
noncomputable def lay {hs : Fn → fG → Prop} (G : bS) (fs : ∀ f, Option (FD hs f)) : bS := { G with call := fun f as H => alt (fs f) (fun d => jL G d.1 as H) (G.call f as H) }
noncomputable def ig (S : aP) (f : Fn) (d : fG) : Prop := ∃ fd body, zS S f d.ps d.ds d.ks d.ir fd body
theorem a6.mono {S : aP} {G : bS} {m n : Nat} (GO : a6 S G m) (h : m ≤ n) : a6 S G n :=
 {GO with call := fun f as H r H' os e W F A s vs ro I rs hz => GO.call f as H r H' os e W F A s vs (ro.mono h) I rs hz }
theorem a6.with {S : aP} {G : bS} {n : Nat} (GO : a6 S G n) {call : Fn → List AV → List AO → Option (AV × List AO × List Nat)}
  (h : ∀ (f : Fn) (as : List AV) (H : List AO) (x : AV × List AO × List Nat), call f as H = some x → ∀ (W : Wd) (F : Addr → Option Obj) (A : Around) (s : Shared) (vs : List Value), Ro (n + 2) A → bI S W F H s.heap → bP S W as vs → eR x.2.2 →
   codeAny (MD S) A (.call (.ref (S.fa f)) ⟨vs, []⟩) (i3 (o3 S W F x.2.1 s (VP S x.1))) s) : a6 S { G with call := call } (n + 2) :=
 ⟨fun c => ⟨(GO.cls c).ga, (GO.cls c).gt, (GO.cls c).sa, (GO.cls c).cd, (GO.cls c).po, (GO.cls c).mak, (GO.cls c).ini, (GO.cls c).ba, (GO.cls c).cat, (GO.cls c).CM⟩, fun f as H r H' os e W F A s vs ro I rs hz => h f as H (r, H', os) e W F A s vs ro I rs hz, GO.glob, GO.kf, GO.kc, GO.ft, GO.lim, GO.sys⟩
theorem a6.low {S : aP} {G : bS} {n : Nat} (GO : a6 S G n) {f : Fn} {as : List AV} {H : List AO} {x : AV × List AO × List Nat} (e : G.call f as H = some x) {W : Wd} {F : Addr → Option Obj} {A : Around} {s : Shared} {vs : List Value} (ro : Ro (n + 2) A) (I : bI S W F H s.heap) (rs : bP S W as vs) (hz : eR x.2.2) :
  codeAny (MD S) A (.call (.ref (S.fa f)) ⟨vs, []⟩) (i3 (o3 S W F x.2.1 s (VP S x.1))) s := GO.call f as H _ _ _ e W F A s vs (ro.mono (Nat.le_add_right n 2)) I rs hz
theorem q8 {S : aP} {G : bS} {n : Nat} {hs : Fn → fG → Prop} {fs : ∀ f, Option (FD hs f)} (GO : a6 S G n) (D : ∀ f d, hs f d → ig S f d) : a6 S (lay G fs) (n + 2) :=
 GO.with fun f as H x e W F A s vs ro I rs hz => bL e (fun d e _ => Exists.elim (D f d.1 d.2) fun fd z => Exists.elim z fun body D' => ai e fun V e hb => ai e fun p e he => ai e fun r' e hr => aj (P := fun x : AV × List AO × List Nat => eR x.2.2 → codeAny (MD S) A (.call (.ref (S.fa f)) ⟨vs, []⟩) (i3 (o3 S W F x.2.1 s (VP S x.1))) s) e (A3 GO D' hb he hr ro I rs) hz) fun e => GO.low e ro I rs hz
inductive fK (G : bS) (d : fG) (as : List AV) (H : List AO) (r : AV) (H' : List AO) (os : List Nat) : Prop
 | mk (V : List (Nm × AV)) (H1 : List AO) (fl : Fl) (σ' : St) : jM d.ps d.ds as = some V → H1.length = H.length → gw H H1 → b0 G d.ir { H := H1, V := V, O := [] } = some (fl, σ') → ky fl = some r →
  gw σ'.H H' → H.length ≤ H'.length → (la H.length H → ij H.length as → la H'.length H' ∧ iJ H'.length r) → (∀ k ∈ σ'.O, k ≤ 100000 ∨ ∃ j ∈ os, k ≤ j) → fK G d as H r H' os
noncomputable def Mb (H : List AO) : Prop := ∀ ao ∈ H, ∀ aN, ao.fl = some aN → ∀ x s, lk aN x = some (.str s) → s.length ≤ dD
theorem GZ {S : aP} {W : Wd} {aN : List (Nm × AV)} {ps : List (Str × Value)} (h : eN S W aN ps) (x : Nm) (s : List Nat) (e : lk aN x = some (.str s)) : s.length ≤ dD :=
 Exists.elim (rT h e) fun v z => z.2.gh fun _ l => l
theorem bI.Tz {S : aP} {W : Wd} {F : Addr → Option Obj} {H : List AO} {h : Heap} (I : bI S W F H h) : Mb H := fun ao m aN e => Exists.elim (List.mem_iff_getElem?.mp m) fun i hi => Exists.elim (I.hs i _ ao (List.getElem?_eq_getElem (I.len ▸ hY hi)) hi) fun o z => z.2.wF e fun ps _ _ q => GZ q
noncomputable def CP (hs : Fn → fG → Prop) (G : bS) (f : Fn) (as : List AV) (H : List AO) : Type := { x : AV × List AO × List Nat // Mb H → ∃ d, hs f d ∧ fK G d as H x.1 x.2.1 x.2.2 }
noncomputable def Fo {α : Type} (b : Bool) (f : b = true → α) : Option α := match b, f with
 | true, f => some (f rfl)
 | false, _ => Option.none
theorem nS {α : Type} {b : Bool} {f : b = true → α} (h : b = true) : Fo b f = some (f h) := by subst h; rfl
noncomputable def y7 {hs : Fn → fG → Prop} (G : bS) (c : ∀ f as H, Option (CP hs G f as H)) : bS := { G with call := fun f as H => alt (c f as H) (fun x => some x.1) (G.call f as H) }
theorem lB {hs : Fn → fG → Prop} {G : bS} {c : ∀ f as H, Option (CP hs G f as H)} {f : Fn} {as : List AV} {H : List AO} {x : CP hs G f as H} (h : c f as H = some x) : (y7 G c).call f as H = some x.1 := by
 show alt (c f as H) (fun x => some x.1) (G.call f as H) = _
 rw [h]
 rfl
theorem mN {S : aP} {G : bS} {n : Nat} {hs : Fn → fG → Prop} {c : ∀ f as H, Option (CP hs G f as H)} (GO : a6 S G n)
  (D : ∀ f d, hs f d → ig S f d) : a6 S (y7 G c) (n + 2) :=
 GO.with fun f as H x e W F A s vs ro I rs hz => bL e (fun y e _ => Exists.elim (y.2 I.Tz) fun d z => Exists.elim (D f d z.1) fun fd w => Exists.elim w fun body D' => by
  obtain rfl := Option.some.inj e
  cases z.2 with | mk V H1 fl σ' h1 h2 h3 h4 h5 h6 h7 h8 h9 =>
  exact E9 GO D' h1 h2 h3 h4 h5 h6 h7 h8 ro I rs fun k m => (h9 k m).elim (fun h => Nat.le_trans h (by unfold dD; decide)) fun h => Exists.elim h fun j h => Nat.le_trans h.2 (hz j h.1)) fun e => GO.low e ro I rs hz
noncomputable def UR : Data → Option FuncData | .func fd => some fd | _ => none
theorem I7 {d : Data} {fd : FuncData} (h : UR d = some fd) : d = .func fd := by cases d <;> first | exact nn h | exact congrArg Data.func (Option.some.inj h)
noncomputable def fnOf (K : Frag) (a : Addr) : Option FuncData := bd (K.lookup a) fun o => UR o.data
theorem wL {K : Frag} {a : Addr} {fd : FuncData} (h : fnOf K a = some fd) : ∃ oc od osl, K.lookup a = some ⟨oc, od, .func fd, osl⟩ := ai h fun o h e => ⟨o.cls, o.dict, o.slots, e.trans (congrArg some (I7 h ▸ rfl))⟩
noncomputable def Lj : FuncBody → Option (List Stmt) | .stmts b => some b | .expr _ => none
theorem xC {b : FuncBody} {l : List Stmt} (h : Lj b = some l) : b = .stmts l := by cases b <;> first | exact nn h | (cases h; rfl)
noncomputable def BE (s : ScopeKind) : Bool := match s with | .function => true | _ => false
theorem te {s : ScopeKind} (h : BE s = true) : s = .function := by cases s <;> first | rfl | exact absurd h Bool.false_ne_true
noncomputable def nh (K : Frag) (a : Addr) (S : Setting) (vs : List Value) : Option (List (Str × Value)) := bd (fnOf K a) fun fd => peek K S (bindArgs fd ⟨vs, []⟩)
theorem sg {K : Frag} {a : Addr} {fd : FuncData} {vs : List Value} {l : List (Str × Value)} {s : Shared} (e : fnOf K a = some fd) (X : K.In s.heap) (h : ∀ S, nh K a S vs = some l) : BindsTo s fd ⟨vs, []⟩ l :=
 kp_binds X fun S => (congrArg (fun o => bd o fun fd => peek K S (bindArgs fd ⟨vs, []⟩)) e).symm.trans (h S)
noncomputable def xT (n : Nat) (P : List Value → Prop) : Prop := ∀ vs : List Value, vs.length = n → P vs
theorem dc {P : List Value → Prop} (h : P []) : xT 0 P := fun vs e => by rw [List.length_eq_zero_iff.mp e]; exact h
theorem bU {n : Nat} {P : List Value → Prop} (h : ∀ v, xT n fun vs => P (v :: vs)) : xT (n + 1) P := fun vs e => by
 cases vs with
 | nil => cases e
 | cons v r => exact h v r (Nat.succ.inj e)
noncomputable def dV (a : AV) : Value := (xW a).elim .none .bool
noncomputable def Nu (a : AV) : Bool := (xW a).isSome || (jK a).isSome
theorem M6 {S : aP} {W : Wd} {a : AV} (h : Nu a = true) : VR S W a (dV a) := (Bool.or_eq_true_iff.mp h).elim (fun h => Exists.elim (Option.isSome_iff_exists.mp h) fun b e => uu (P := fun a => VR S W a (dV a)) e (.bool b)) fun h => Exists.elim (Option.isSome_iff_exists.mp h) fun b e => ux (P := fun a => VR S W a (dV a)) e .none
noncomputable def RM (K : Frag) (a : Addr) (ps : List Nm) (ds : List AV) : Prop := ∀ vs : List Value, vs.length ≤ ps.length → ps.length ≤ vs.length + ds.length →
 ∃ us, (∀ S W, bP S W (ds.drop (vs.length + ds.length - ps.length)) us) ∧ ∀ S, nh K a S vs = some ((ps.map bz).zip (vs ++ us))
theorem pB {K : Frag} {a : Addr} {ps : List Nm} {n : Nat} (e : ps.length = n) (h : xT n fun vs => ∀ S, nh K a S vs = some ((ps.map bz).zip vs)) : RM K a ps [] := fun vs l1 l2 => ⟨[], fun S W => by rw [List.drop_nil]; exact .nil, fun S => by rw [List.append_nil]; exact h vs (by rw [← e]; exact Nat.le_antisymm l1 l2) S⟩
theorem dB {K : Frag} {a : Addr} {ps : List Nm} {d : AV} {n : Nat} (e : ps.length = n + 1) (hd : Nu d = true) (h1 : xT (n + 1) fun vs => ∀ S, nh K a S vs = some ((ps.map bz).zip vs))
  (h2 : xT n fun vs => ∀ S, nh K a S vs = some ((ps.map bz).zip (vs ++ [dV d]))) : RM K a ps [d] := fun vs l1 l2 => by
 have l2 : ps.length ≤ vs.length + 1 := l2
 by_cases q : vs.length = n + 1
 ·refine ⟨[], fun S W => ?_, fun S => by rw [List.append_nil]; exact h1 vs q S⟩
  rw [show vs.length + [d].length - ps.length = 1 by rw [q, e]; exact Nat.add_sub_cancel_left _ _]
  exact .nil
 ·have q : vs.length = n := Nat.le_antisymm (Nat.le_of_lt_succ (Nat.lt_of_le_of_ne (Nat.le_trans l1 (Nat.le_of_eq e)) q)) (Nat.le_of_succ_le_succ (Nat.le_trans (Nat.le_of_eq e.symm) l2))
  refine ⟨[dV d], fun S W => ?_, h2 vs q⟩
  rw [show vs.length + [d].length - ps.length = 0 by rw [q, e]; exact Nat.sub_self _]
  exact .cons (M6 hd) .nil
theorem x3 {S : aP} {f : Fn} {fd : FuncData} {ps : List Nm} {ds : List AV} (e : fnOf S.K (S.fa f) = some fd) (h : RM S.K (S.fa f) ps ds) : zQ S ps ds fd := fun s vs X l1 l2 => Exists.elim (h vs l1 l2) fun us z => ⟨us, z.1 S, sg e X z.2⟩
theorem zc {ps : List Nm} (h : ps.Nodup) : (ps.map bz).Nodup := List.Pairwise.map (S := (· ≠ ·)) bz (fun a b h e => h (iU e)) h
noncomputable def S7 (K : Frag) (a : Addr) (d : fG) : Bool := bindB (fnOf K a) fun fd => bindB (Lj fd.body) fun b => (BE fd.scope.kind && !fd.scope.isCoroutine && !fd.scope.isGenerator && Nat.beq fd.globals mainGlobals && Nat.beq fd.builtins builtinsNs && fd.closure.isEmpty) && (codeIn K fd.code fd.qualname &&
   tq d.ks fd.scope && Rf d.ps fd.scope && jZ d.ps && qm d.ks d.ir b && true)
theorem not_true {b : Bool} (h : (!b) = true) : b = false := by cases b <;> first | rfl | cases h
theorem bp {S : aP} {f : Fn} {d : fG} (h : S7 S.K (S.fa f) d = true) (hb : RM S.K (S.fa f) d.ps d.ds) : ig S f d :=
 aZ h fun fd h e => aZ h fun b h e' =>
 have y := r0 (aX h).1
 have z := r0 (aX h).2
 ⟨fd, b, wL e, xC e', te y.1, not_true y.2.1, not_true y.2.2.1, Nat.eq_of_beq_eq_true y.2.2.2.1, Nat.eq_of_beq_eq_true y.2.2.2.2.1, List.isEmpty_iff.mp y.2.2.2.2.2, z.1, z.2.1, z.2.2.1, z.2.2.2.1, z.2.2.2.2.1, x3 e hb⟩
noncomputable def Up (l : List Nat) (s : Str) : Bool := bV l s.cps.toList && Nat.ble l.length 1000
noncomputable def vI : Value → Option Int | .int i _ => some i | _ => none
noncomputable def vB : Value → Option Bool | .bool i => some i | _ => none
noncomputable def vS : Value → Option Str | .str i _ => some i | _ => none
noncomputable def vR : Value → Option Addr | .ref i => some i | _ => none
noncomputable def vT : Value → Option String | .type i => some i | _ => none
noncomputable def Nx : Value → Bool | .none => true | _ => false
section
variable {P : Value → Prop} {v : Value}
@[elab_as_elim] theorem HS {i : Int} (h : vI v = some i) (k : ∀ t, P (.int i t)) : P v := by cases v <;> first | exact nn h | exact Option.some.inj h ▸ k _
@[elab_as_elim] theorem RF {i : Bool} (h : vB v = some i) (k : P (.bool i)) : P v := by cases v <;> first | exact nn h | exact Option.some.inj h ▸ k
@[elab_as_elim] theorem HT {i : Str} (h : vS v = some i) (k : ∀ t, P (.str i t)) : P v := by cases v <;> first | exact nn h | exact Option.some.inj h ▸ k _
@[elab_as_elim] theorem xO {i : Addr} (h : vR v = some i) (k : P (.ref i)) : P v := by cases v <;> first | exact nn h | exact Option.some.inj h ▸ k
@[elab_as_elim] theorem RH {i : String} (h : vT v = some i) (k : P (.type i)) : P v := by cases v <;> first | exact nn h | exact Option.some.inj h ▸ k
@[elab_as_elim] theorem Fy (h : Nx v = true) (k : P .none) : P v := by cases v <;> first | exact k | exact absurd h Bool.false_ne_true
end
noncomputable def GD {α : Type} (o : Option α) (f : α → Bool) (b : Bool) : Bool := match o with | some x => f x | none => b
theorem jE {α : Type} {o : Option α} {f : α → Bool} {b : Bool} {P : Prop} (h : GD o f b = true) (k : ∀ x, f x = true → o = some x → P) (k' : b = true → o = none → P) : P := by
 cases o with
 | none => exact k' h rfl
 | some x => exact k x h rfl
noncomputable def JB : List (Nm × AV) → List DictEntry → Bool
 | [], es => es.isEmpty
 | p :: r, es => match es with
  | [] => false
  | e :: es => bindB (vS e.key) (xk p.1) && JB r es
noncomputable def G8 (p : AV → Value → Bool) : List AV → List Value → Bool
 | [], us => us.isEmpty
 | a :: r, us => match us with
  | [] => false
  | v :: q => p a v && G8 p r q
noncomputable def LA (p : AV → Value → Bool) : List (Nm × AV) → List DictEntry → Bool
 | [], _ => true
 | x :: r, es => match es with
  | [] => false
  | e :: q => p x.2 e.val && LA p r q
noncomputable def M5 : Data → Option (List Value × Nat) | .seq us n => some (us.toList, n) | _ => none
noncomputable def M4 : Data → Option (List DictEntry × Nat) | .dict us n => some (us.toList, n) | _ => none
theorem ER {d : Data} {x : List Value × Nat} (h : M5 d = some x) : d = .seq ⟨x.1⟩ x.2 := by cases d <;> first | exact nn h | exact Option.some.inj h ▸ rfl
theorem EP {d : Data} {x : List DictEntry × Nat} (h : M4 d = some x) : d = .dict ⟨x.1⟩ x.2 := by cases d <;> first | exact nn h | exact Option.some.inj h ▸ rfl
noncomputable def Lc (K : Frag) (T : String) (v : Value) : Option (List Value × Nat) := bd (vR v) fun p => bd (K.lookup p) fun o => bd (vT o.cls) fun t => cond (t == T) (M5 o.data) none
theorem CS {o : Obj} {c : Value} {d : Data} (h : o.cls = c) (h' : o.data = d) : o = ⟨c, o.dict, d, o.slots⟩ := h ▸ h' ▸ rfl
theorem HU {v : Value} {i : String} (h : vT v = some i) : v = .type i := RH (P := fun v => v = .type i) h rfl
theorem xB {P : Value → Prop} {K : Frag} {T : String} {v : Value} {x : List Value × Nat} (h : Lc K T v = some x) (k : ∀ p d sl, K.lookup p = some ⟨.type T, d, .seq ⟨x.1⟩ x.2, sl⟩ → P (.ref p)) : P v :=
 ai h fun p h e1 => ai h fun o h e2 => ai h fun t h e3 => bC h (fun h e4 => xO e1 (k p o.dict o.slots (e2.trans (congrArg some (CS ((HU e3).trans (congrArg Value.type (beq_iff_eq.mp e4))) (ER h)))))) fun h _ => nn h
noncomputable def M8 (K : Frag) (v : Value) : Option (Addr × List DictEntry × Nat) := bd (vR v) fun p => bd (K.lookup p) fun o => bd (vT o.cls) fun t => cond (t == "dict" && o.dict.isNone && o.slots.isEmpty) (bd (M4 o.data) fun x => some (p, x)) none
theorem EV {P : Value → Prop} {K : Frag} {v : Value} {x : Addr × List DictEntry × Nat} (h : M8 K v = some x) (k : K.lookup x.1 = some ⟨.type "dict", none, .dict ⟨x.2.1⟩ x.2.2, #[]⟩ → P (.ref x.1)) : P v :=
 ai h fun p h e1 => ai h fun o h e2 => ai h fun t h e3 => bC h (fun h e4 => ai h fun y h e5 => xO e1 (aj (P := fun x : Addr × List DictEntry × Nat => (K.lookup x.1 = some ⟨.type "dict", none, .dict ⟨x.2.1⟩ x.2.2, #[]⟩ → P (.ref x.1)) → P (.ref p)) h (fun k => k (by
  have z := eO e4
  rw [e2, CS ((HU e3).trans (congrArg Value.type (beq_iff_eq.mp z.1))) (EP e5), Option.isNone_iff_eq_none.mp z.2.1, Array.isEmpty_iff.mp z.2.2])) k)) fun h _ => nn h
noncomputable def zM (K : Frag) (fa : Fn → Addr) (ca : Cl → Addr) : Nat → AV → Value → Bool
 | 0, _, _ => false
 | n + 1, a, v => match a with
  | .none => Nx v
  | .bool x => bindB (vB v) fun y => x == y
  | .int i => bindB (vI v) fun j => i == j
  | .str l => bindB (vS v) fun s => Up l s
  | .tup vs => bindB (Lc K "tuple" v) fun x => Nat.ble vs.length 1000 && G8 (zM K fa ca n) vs x.1
  | .lst vs => bindB (Lc K "list" v) fun x => Nat.ble vs.length 1000 && G8 (zM K fa ca n) vs x.1
  | .cH aN => bindB (M8 K v) fun x => Nat.ble aN.length 1000 && !(Nat.beq x.1 sysModules) && jZ (aN.map (·.1)) && JB aN x.2.1 && LA (zM K fa ca n) aN x.2.1 && true
  | .fn f => bindB (vR v) fun p => Nat.beq (fa f) p
  | .cls c => bindB (vR v) fun p => Nat.beq (ca c) p
  | .bi b => v == Hg b
  | _ => false
noncomputable def ND : Value → Str | .str s _ => s | _ => default
noncomputable def Ny : Value → Bool | .str _ _ => true | _ => false
noncomputable def Jc (o : Obj) : List DictEntry := match o.data with | .dict es _ => es.toList | _ => []
noncomputable def pZ : Frag → List DictEntry
 | [] => []
 | p :: r => Jc p.2 ++ pZ r
noncomputable abbrev Bo (P : Params) (e : DictEntry) : Int := PyData.keyHash P (ND e.key)
noncomputable def rW (P : Params) (l : List DictEntry) : Prop := l.all (fun e => Ny e.key) = true ∧ l.map (·.hash) = l.map (Bo P)
theorem sS {a : Addr} {o : Obj} {e : DictEntry} : ∀ {K : Frag}, K.lookup a = some o → e ∈ Jc o → e ∈ pZ K
 | [], h, _ => nn h
 | (b, q) :: r, h, m => by
  rw [List.lookup_cons] at h
  cases hb : a == b with
  | true =>
   rw [hb] at h
   exact List.mem_append_left _ (Option.some.inj h ▸ m)
  | false =>
   rw [hb] at h
   exact List.mem_append_right _ (sS h m)
noncomputable def G9 (P : Params) (e : DictEntry) : Prop := Ny e.key = true ∧ e.hash = Bo P e
theorem rW.at {P : Params} {K : Frag} (h : rW P (pZ K)) {a : Addr} {o : Obj} (e : K.lookup a = some o) : ∀ e ∈ Jc o, G9 P e := fun x m => have m := sS e m
 ⟨List.all_eq_true.mp h.1 x m, List.map_inj_left.mp h.2 x m⟩
theorem rV {S : aP} {W : Wd} {p : AV → Value → Bool} (h : ∀ a v, p a v = true → VR S W a v) : ∀ {vs : List AV} {us : List Value}, G8 p vs us = true → bP S W vs us
 | [], _, z => List.isEmpty_iff.mp z
 | _ :: _, [], z => absurd z Bool.false_ne_true
 | _ :: _, _ :: _, z => .cons (h _ _ (aX z).1) (rV h (aX z).2)
theorem xR {S : aP} {W : Wd} {p : AV → Value → Bool} (h : ∀ a v, p a v = true → VR S W a v) : ∀ {aN : List (Nm × AV)} {es : List DictEntry}, JB aN es = true → LA p aN es = true → (∀ e ∈ es, G9 S.w.params e) →
  ∃ ps, eN S W aN ps ∧ (∀ e ∈ es, ∃ k, (PySem.strKind S.prog S.w).is k e.key = true ∧ e.hash = (PySem.strKind S.prog S.w).hash k) ∧ Pairs (PySem.strKind S.prog S.w) es ps ∧ ps.map (·.1) = aN.map (fun q => bz q.1)
 | [], _, z1, _, _ => by
  rw [List.isEmpty_iff.mp z1]
  exact ⟨[], .nil, fun e m => (nomatch m), .nil, rfl⟩
 | _ :: _, [], z1, _, _ => absurd z1 Bool.false_ne_true
 | x :: r, e :: es, z1, z2, z3 => Exists.elim (xR h (aX z1).2 (aX z2).2 fun e m => z3 e (.tail _ m)) fun ps P => aZ (aX z1).1 fun s hx hk => have hs := gc hx
  have q : (PySem.strKind S.prog S.w).is (bz x.1) e.key = true ∧ e.hash = (PySem.strKind S.prog S.w).hash (bz x.1) := HT (P := fun v => (PySem.strKind S.prog S.w).is (bz x.1) v = true ∧ PyData.keyHash S.w.params (ND v) = (PySem.strKind S.prog S.w).hash (bz x.1)) hk (fun t => hs ▸ ⟨beq_self_eq_true s, rfl⟩) |>.imp id (z3 e (.head _)).2.trans
  ⟨(bz x.1, e.val) :: ps, .cons (h _ _ (aX z2).1) P.1, fun e' m => (List.mem_cons.mp m).elim (fun z => z ▸ ⟨bz x.1, q⟩) (P.2.1 e'), .cons q.1 rfl P.2.2.1, congrArg (bz x.1 :: ·) P.2.2.2⟩
theorem mA {n : Nat} (h : Nat.ble n 1000 = true) : n ≤ dD := Nat.le_trans (Nat.le_of_ble_eq_true h) (by unfold dD; decide)
theorem GY {S : aP} {W : Wd} (hP : ∀ a o, S.K.lookup a = some o → W.P a = some o) (hD : rW S.w.params (pZ S.K)) (n : Nat) : ∀ (a : AV) (v : Value), zM S.K S.fa S.ca n a v = true → VR S W a v := by
 induction n with
 | zero => exact fun a v h => absurd h Bool.false_ne_true
 | succ n ih =>
  intro a v h
  cases a with
  | none => exact Fy h .none
  | bool x => exact aZ h fun y h e => RF e (beq_iff_eq.mp h ▸ .bool _)
  | int x => exact aZ h fun y h e => HS e fun t => beq_iff_eq.mp h ▸ .int _ _
  | str l => exact aZ h fun y h e => HT e fun t => (DH (aX h).1).symm ▸ .str _ _ (mA (aX h).2)
  | tup vs => exact aZ h fun y h e => xB e fun p d sl e1 => .tup (hP _ _ e1) (mA (aX h).1) (rV ih (aX h).2)
  | lst vs => exact aZ h fun y h e => xB e fun p d sl e1 => .lst (hP _ _ e1) (mA (aX h).1) (rV ih (aX h).2)
  | cH aN =>
   refine aZ h fun y h1 e => EV e fun e => ?_
   have z := r0 h1
   obtain ⟨ps, p1, p2, p3, p4⟩ := xR ih z.2.2.2.1 z.2.2.2.2.1 (hD.at e)
   refine .cH (hP _ _ e) ⟨⟨rfl, rfl, rfl⟩, _, _, rfl, fun e' m => p2 e' (Array.mem_def.mp m), p3, ?_⟩ (beq_eq_false_iff_ne.mpr (Nat.ne_of_beq_eq_false (not_true z.2.1))) (mA z.1) p1
   have t := zc (lE z.2.2.1)
   rw [List.map_map] at t
   exact p4 ▸ t
  | fn f => exact aZ h fun y h e => xO e (Nat.eq_of_beq_eq_true h ▸ .fn _)
  | cls f => exact aZ h fun y h e => xO e (Nat.eq_of_beq_eq_true h ▸ .cls _)
  | bi b => exact (beq_iff_eq.mp h).symm ▸ .bi _
  | _ => exact absurd h Bool.false_ne_true
noncomputable def Nr (K : Frag) (fa : Fn → Addr) (ca : Cl → Addr) (x : Nm) (av : AV) : Bool := bindB (nsIn K mainGlobals (bz x)) fun o => GD o (zM K fa ca 8 av) (bindB (nsIn K builtinsNs (bz x)) fun o => bindB o (zM K fa ca 8 av))
noncomputable def Ta (K : Frag) (fa : Fn → Addr) (ca : Cl → Addr) (G : bS) (c : Cl) : Bool :=
 ((findIn K (.ref (ca c)) "__getattribute__" == some (some (.builtin "object.__getattribute__"))) && (findIn K (.ref (ca c)) "__getattr__" == some none) && (findIn K (.ref (ca c)) "__setattr__" == some (some (.builtin "object.__setattr__")))) &&
 (bindB (clsIn K (ca c)) (·.hasDict) && plainOver K (ca c) && makesIn K (ca c)) && ((findIn K (.ref (ca c)) "__init__" == some (some (.ref (fa (G.init c))))) && keepIn K (.ref (ca c)) && (typeIn K (.ref (fa (G.init c))) == some (.type "function")))
noncomputable def TV (i : Int) (o : Option (Option Value)) : Bool := bindB o fun o => bindB o fun v => bindB (vI v) fun j => i == j
noncomputable def SV (K : Frag) (fa : Fn → Addr) (ca : Cl → Addr) (G : bS) (c : Cl) (a : Nm) : Bool := GD (G.ba c a) (fun f => (G.b6 c a).isNone && (findIn K (.ref (ca c)) (bz a) == some (some (.ref (fa f)))) && (typeIn K (.ref (fa f)) == some (.type "function")))
 (GD (G.b6 c a) (fun v => bindB (je v) fun i => TV i (findIn K (.ref (ca c)) (bz a))) (findIn K (.ref (ca c)) (bz a) == some none))
noncomputable def Tp (K : Frag) (fa : Fn → Addr) (f : Fn) : Bool := keepIn K (.ref (fa f)) && fnIn K (fa f)
structure vU (S : aP) (G : bS) (gl : List (Nm × AV)) : Prop where
 call : ∀ f as H, G.call f as H = none
 glob : ∀ x, G.glob x = lk gl x
 globs : gl.all (fun p => Nr S.K S.fa S.ca p.1 p.2) = true
 ns : (nsOkIn S.K mainGlobals && nsOkIn S.K builtinsNs) = true
 dicts : rW S.w.params (pZ S.K)
 cls : ∀ c, Ta S.K S.fa S.ca G c = true
 att : ∀ c, (List.finRange 184).all (SV S.K S.fa S.ca G c) = true
 fns : ∀ f, Tp S.K S.fa f = true
 lim : ∀ h, S.K.In h → h.NoLimit
 sys : ∃ o, S.hB sysModules = some o
theorem Kv {K : Frag} {h : Heap} {N : Addr} {m : Str → Option Value} {x : Str} {v : Value} (X : K.In h) (G : h.Ns N m) (e : nsIn K N x = some (some v)) : m x = some v := by
 obtain ⟨o, es, ep, g, d, _, f⟩ := G
 rw [nsIn] at e
 cases q : K.lookup N with
 | none => rw [q] at e; exact nn e
 | some o' =>
  rw [q] at e
  obtain rfl : o = o' := Option.some.inj (g.symm.trans (X _ _ q))
  obtain ⟨c, dd, dt, sl⟩ := o
  obtain rfl : dt = .dict es ep := d
  replace e : (match es.toList.find? (·.key.isStr x) with | some e => some (some e.val) | none => if es.toList.any (·.refKey) then none else some none) = some (some v) := e
  rw [← f, nsFind, findBy, ← Array.find?_toList]
  cases z : es.toList.find? (·.key.isStr x) with
  | none =>
   rw [z] at e
   replace e : (if es.toList.any (·.refKey) = true then none else some none : Option (Option Value)) = some (some v) := e
   by_cases hb : es.toList.any (·.refKey) = true
   ·rw [if_pos hb] at e
    exact nn e
   ·rw [if_neg hb] at e
    exact nn (Option.some.inj e)
  | some en =>
   rw [z] at e
   exact Option.some.inj e
theorem yu {S : aP} {G : bS} {gl : List (Nm × AV)} (g : vU S G gl) : a6 S G 0 :=
 have A := fun c a => List.all_eq_true.mp (g.att c) a (List.mem_finRange a)
 have cl := fun c => eO (g.cls c)
 have y := fun c => eO (cl c).1
 have z := fun c => eO (cl c).2.1
 have w := fun c => eO (cl c).2.2
 {cls := fun c => ⟨beq_iff_eq.mp (y c).1, beq_iff_eq.mp (y c).2.1, beq_iff_eq.mp (y c).2.2, aZ (z c).1 fun cd h e => ⟨cd, e, h⟩, (z c).2.1, (z c).2.2, beq_iff_eq.mp (w c).1, fun a f e => jE (A c a) (fun f' h e' => have h := eO h; Option.some.inj (e'.symm.trans e) ▸ ⟨beq_iff_eq.mp h.2.1, beq_iff_eq.mp h.2.2⟩) fun _ e' => nn (e'.symm.trans e), fun a v e => jE (A c a) (fun f' h e' => nn ((Option.isNone_iff_eq_none.mp (eO h).1).symm.trans e)) fun h _ => jE h (fun v' h e' => Option.some.inj (e'.symm.trans e) ▸ aZ h fun i h ei => uw (P := fun v => ∃ i t, v = .int i ∧ findIn S.K (.ref (S.ca c)) (bz a) = some (some (.int i t))) ei
    (aZ h fun o h e1 => aZ h fun u h e2 => aZ h fun j h e3 => HS (P := fun u => o = some u → ∃ i' t, AV.int i = .int i' ∧ findIn S.K (.ref (S.ca c)) (bz a) = some (some (.int i' t))) e3 (fun t e2 => ⟨i, t, rfl, e1.trans (congrArg some (e2.trans (beq_iff_eq.mp h ▸ rfl)))⟩) e2)) fun _ e' => nn (e'.symm.trans e), fun a e e' => jE (A c a) (fun f h q => nn (e.symm.trans q)) fun h _ => jE h (fun v h q => nn (e'.symm.trans q)) fun h _ => beq_iff_eq.mp h⟩
  call := fun f as H r H' os e => nn ((g.call f as H).symm.trans e)
  glob := fun x av e W F H h I => have q := List.all_eq_true.mp g.globs _ (ra ((g.glob x).symm.trans e))
   have V := GY (S := S) (W := W) (fun a o z => I.base a o z) g.dicts
   have n := aX g.ns
   have N1 := Heap.Ns.of_isNs (isNs_of_in I.K n.1)
   have N2 := Heap.Ns.of_isNs (isNs_of_in I.K n.2)
   aZ q fun o q e1 => jE q (fun v q eo => ⟨v, V _ _ _ q, .inl ⟨_, N1, mg_of I.K N1 (e1.trans (congrArg some eo))⟩⟩) fun q eo => aZ q fun o' q e2 => aZ q fun v q eo' => ⟨v, V _ _ _ q, .inr ⟨_, _, N1, mg_none_of I.K N1 (e1.trans (congrArg some eo)), N2, Kv I.K N2 (e2.trans (congrArg some eo'))⟩⟩
  kf := fun f => aX (g.fns f)
  kc := fun c => (w c).2.1
  ft := fun c => beq_iff_eq.mp (w c).2.2
  lim := g.lim
  sys := g.sys }
noncomputable def uO : Ex := .aw (.v .aa) .aI .nil
noncomputable def Eb : Ex := .at (.at (.v .aa) .aE) .dA
noncomputable def zO : Ex := .at (.v .aa) .au
noncomputable def Ba : Ex := .aw (.at (.v .aa) .au) .BP (.cons (.c (.int 0)) .nil)
noncomputable def Ec : Sx := .asg (.at (.v .aa) .au) (.lst .nil false)
noncomputable def gV (n : Nat) : List (Nm × AV) := [(.aa, .inst .tok n)]
noncomputable def k9 (n : Nat) (σ : St) : St := { σ with V := gV n }
noncomputable def bk (σ τ : St) : St := { τ with V := σ.V }
noncomputable def OT (p : Fl × St) (k : St → Option St) : Option St := match p.1 with
 | .nx => k p.2
 | .bk => none
 | .rt _ => none
@[simp] theorem TX {σ : St} {k : St → Option St} : OT (.nx, σ) k = k σ := rfl
theorem CQ {p : Fl × St} {k : St → Option St} {r : St} {P : Prop} (h : OT p k = some r) (q : k p.2 = some r → p.1 = .nx → P) : P := by
 obtain ⟨f, σ⟩ := p
 cases f with
 | nx => exact q h rfl
 | bk => exact nn h
 | rt v => exact nn h
noncomputable def dx (G : bS) (n : Nat) (x : Nm) (b : St → Option (Fl × St)) : Nat → Bool → St → Option St
 | 0, _, _ => none
 | k + 1, ph, σ => cond ph (bd (cW G uO (k9 n σ)) fun p => cond p.1 (bd (cW G Eb p.2) fun q => cond q.1 none (dx G n x b k false (bk σ q.2))) (some (bk σ p.2)))
  (bd (cW G zO (k9 n σ)) fun p => cond p.1 (bd (ev G Ba p.2) fun q => bd (b { H := q.2.H, V := pt σ.V x q.1, O := q.2.O }) fun r => OT r (dx G n x b k false)) (dx G n x b k true (bk σ p.2)))
section
variable {G : bS} {n : Nat} {x : Nm} {b : St → Option (Fl × St)} {σ : St} {L : List Nat}
theorem cm.cond {b : Bool} {x y : Option St} (h : cm L x) (k : cm L y) : cm L (cond b x y) := fun r e z => bC e (fun e _ => h r e z) fun e _ => k r e z
theorem Gi {p : Fl × St} {k : St → Option St} (h : ∀ σ, cm σ.O (k σ)) : cm p.2.O (OT p k) := fun r e z => CQ e fun e _ => h _ r e z
theorem jV {k : Nat} (hb : ∀ σ, Mon σ.O (b σ)) (g : ∀ σ, cm σ.O (dx G n x b k false σ)) {V : List (Nm × AV)} (q : AV × St) : cm q.2.O (bd (b { H := q.2.H, V := pt V x q.1, O := q.2.O }) fun r => OT r (dx G n x b k false)) := Mon.m8 (L := q.2.O) (hb _) fun r => Gi g
theorem fD (hb : ∀ σ, Mon σ.O (b σ)) : ∀ (k : Nat) (ph : Bool) (σ : St), cm σ.O (dx G n x b k ph σ)
 | 0, _, _ => .no
 | k + 1, _, σ => .cond (Mon.m8 (L := σ.O) ((a7 uO).t (k9 n σ)) fun p => .cond (((a7 Eb).t p.2).m8 fun q => .cond .no (fD hb k false (bk σ q.2))) .ret)
  (Mon.m8 (L := σ.O) ((a7 zO).t (k9 n σ)) fun p => .cond (((a7 Ba).v p.2).m8 fun q => jV hb (fD hb k false) q) (fD hb k true (bk σ p.2)))
noncomputable def KV {α : Type} (V : List (Nm × AV)) (o : Option (α × St)) : Prop := ∀ p, o = some p → p.2.V = V
section
variable {α β γ : Type} {V : List (Nm × AV)}
theorem KV.bd {o : Option (α × St)} {f : α × St → Option (β × St)} (h : KV V o) (k : ∀ p, p.2.V = V → KV V (f p)) : KV V (bd o f) := fun r e => ai e fun p e e' => k p (h p e') r e
theorem KV.opt {o : Option γ} {f : γ → Option (β × St)} (k : ∀ x, KV V (f x)) : KV V (Mine.bd o f) := fun r e => ai e fun x e _ => k x r e
theorem KV.ret {a : α} (h : σ.V = V) : KV V (some (a, σ)) := fun _ e => aj (P := fun p : α × St => p.2.V = V) e h
end
theorem EG {v : AV} {as : List AV} : KV σ.V (eE G v as σ) := fun p h => nk (P := fun _ p => p.2.V = σ.V) h (fun _ _ _ => rfl) (fun _ _ _ _ => rfl) (fun _ _ _ _ => rfl) fun _ _ _ => rfl
theorem wg {f : Sum AV (AV × Nm)} {as : List AV} : KV σ.V (ip G f as σ) := by
 cases f with
 | inl f => exact EG
 | inr p => exact fun r h => bL h (fun s h _ => ai h fun q h _ => aj (P := fun p : AV × St => p.2.V = σ.V) h rfl) fun h => ai h fun _ h _ => ai h fun _ h _ => ai h fun _ h _ => aj (P := fun p : AV × St => p.2.V = σ.V) h rfl
theorem MA {y a : Nm} : KV σ.V (ev G (.at (.v y) a) σ) := KV.bd (.opt fun _ => .ret rfl) fun _ e => .opt fun _ => .ret e
theorem Ni : KV σ.V (cW G uO σ) := KV.bd (.opt fun _ => .ret rfl) fun p e => .opt fun f => KV.bd (.ret e) fun q e => KV.bd (e ▸ wg) fun r e => .opt fun b => .ret e
theorem Nj : KV σ.V (cW G Eb σ) := KV.bd MA fun p e => .opt fun _ => .opt fun _ => .ret e
theorem Nk : KV σ.V (cW G zO σ) := KV.bd (.opt fun _ => .ret rfl) fun p e => .opt fun _ => .opt fun _ => .ret e
theorem Nl : KV σ.V (ev G Ba σ) := KV.bd MA fun p e => .opt fun f => KV.bd (KV.bd (.ret e) fun p e => KV.bd (.ret e) fun q e => .ret e) fun q e => e ▸ wg
theorem V6 {y : Nm} : KV σ.V (ev G (.v y) σ) := .opt fun _ => .ret rfl
theorem NQ : KV σ.V (ev G (.lst .nil false) σ) := KV.bd (.ret rfl) fun p e => .ret e
theorem GG {v r : AV} {a : Nm} {τ : St} (h : setAt G v a r σ = some τ) : τ.V = σ.V := ai h fun i h _ => ai h fun aN h _ => bC h (fun h _ => aj (P := fun τ : St => τ.V = σ.V) h rfl) fun h _ => nn h
theorem Nn : KV σ.V (ex G Ec σ) := fun r h => ai (o := ev G (.lst .nil false) σ) (f := fun p => bd (iO G (.at (.v .aa) .au) p.1 p.2) fun σ2 => some (Fl.nx, σ2)) h fun p h e => ai h fun τ h h' => ai (o := ev G (.v .aa) p.2) (f := fun q => setAt G q.1 .au p.1 q.2) h' fun q h' e1 => aj (P := fun r : Fl × St => r.2.V = σ.V) h ((GG h').trans ((V6 q e1).trans (NQ p e)))
end
noncomputable abbrev Ss (y4 : Expr) (yp ep : Pos) : List Stmt := [.Expr (.Yield (some y4) yp) ep]
noncomputable abbrev Nh (t2 t3 y4 : Expr) (b2 : List Stmt) (p2 p3 yp ep : Pos) : List Stmt := [.While t2 b2 [] p2, .While t3 (Ss y4 yp ep) [] p3]
noncomputable abbrev A7 (st0 : Stmt) (t1 t2 t3 y4 : Expr) (b2 : List Stmt) (p1 p2 p3 yp ep : Pos) : List Stmt := [st0, .While t1 (Nh t2 t3 y4 b2 p2 p3 yp ep) [] p1]
noncomputable def GF (S : aP) (F0 : Addr → Option Obj) (fm : Fm) (n : Nat) (Lg : Addr) (W : Wd) (h : Heap) : Prop :=
 Un W F0 fm Lg ∧ ∃ m xv, h.Ns Lg m ∧ m (bz .aa) = some xv ∧ VR S W (.inst .tok n) xv
section
variable {S : aP} {G : bS} {W W0 W1 W' : Wd} {F F0 : Addr → Option Obj} {fm : Fm} {σ τ : St} {s : Shared} {A : Around} {n : Nat} {h h0 : Heap} {ge : Env} {Lg : Addr}
structure zT (S : aP) (ge : Env) (Lg : Addr) : Prop where
 os : zR S ⟨ge, [Lg]⟩
 lo : ge.locals = Lg
 self : ge.kindOf (bz .aa) = some .local
 nocell : ∀ x, ge.kindOf x ≠ some .cell
 co : ge.scope.isCoroutine = false
theorem HN (gE : zT S ge Lg) (I : Inv S W F0 fm σ h) (g : GF S F0 fm n Lg W h) : Inv S W (mv fm F0 h) ⟨ge, [Lg]⟩ (k9 n σ) h := by
 obtain ⟨u, m, xv, ns, ex, rx⟩ := g
 refine ⟨I.freeze, fun a ma => ?_, fun x c k _ => absurd k (gE.nocell x), ⟨⟨m, gE.lo.symm ▸ ns, fun x av e => ?_⟩, fun x e => absurd e (gE.nocell x)⟩⟩
 ·rw [List.mem_singleton.mp ma]
  exact ⟨u.P, (iA u.ow).trans u.f, u.ρ, Exists.elim ns fun o z => Exists.elim z fun _ z => Exists.elim z fun _ z => ⟨o, z.1⟩⟩
 ·have e : lk [(.aa, .inst .tok n)] x = some av := e
  rw [c9] at e
  by_cases z : Nm.aa = x
  ·rw [if_pos z] at e
   exact ⟨xv, Option.some.inj e ▸ rx, .inl (z ▸ ⟨gE.self, ex⟩)⟩
  ·rw [if_neg z] at e
   exact nn e
theorem HE (gE : zT S ge Lg) (ok : fX S fm) (I0 : Inv S W0 F0 fm σ h0) (L : W0.Le W) (J : Inv S W (mv fm F0 h0) ⟨ge, [Lg]⟩ τ h) (hV : τ.V = gV n) :
  Inv S W F0 fm (bk σ τ) h ∧ GF S F0 fm n Lg W h := by
 have o := J.own Lg (.head _)
 have no : Lg ∉ fm.ow := fun m => Exists.elim (I0.own Lg m).2.2.2 fun x e => nn (((kB (F := F0) m).symm.trans o.2.1).symm.trans e)
 refine ⟨I0.Lr ok L J.tobI, ⟨o.1, (iA no).symm.trans o.2.1, o.2.2.1, no⟩, ?_⟩
 obtain ⟨m, ns, hv⟩ := J.vars.ns
 obtain ⟨v, r, w⟩ := hv .aa (.inst .tok n) (by rw [hV]; rfl)
 exact ⟨m, v, gE.lo ▸ ns, w.elim (fun z => z.2) fun z => absurd z.1 (gE.nocell _), r⟩
theorem vP (t : Expr) (b o : List Stmt) (e : Env) : (Code.whileLoop t b o e).weight = 0 := by kernel_rfl
theorem zN (t : Expr) (b o : List Stmt) (e : Env) : (Code.whileLoop t b o e).cUnits = 0 := by kernel_rfl
theorem uN (b : List Stmt) (e : Env) : (Code.func b e).weight = 1 := by kernel_rfl
theorem ym (b : List Stmt) (e : Env) : (Code.func b e).cUnits = 3 := by kernel_rfl
variable {m N : Nat} {x : Nm} {b : St → Option (Fl × St)} {σ' : St} {ph : Bool}
noncomputable def Good (S : aP) (F0 : Addr → Option Obj) (fm : Fm) (n : Nat) (Lg : Addr) (W1 : Wd) (σ : St) (s : Shared) : Prop := ∃ W, W1.Le W ∧ Inv S W F0 fm σ s.heap ∧ GF S F0 fm n Lg W s.heap
inductive YY (S : aP) (G : bS) (b : St → Option (Fl × St)) (x : Nm) (σ' : St) (F0 : Addr → Option Obj) (fm : Fm) (n : Nat) (Lg : Addr) (W1 : Wd) (s₀ : Shared) (v : Value) (s₁ : Shared) (kap : Resume → Shared → Prop) : Prop
 | mk (k : Nat) (W : Wd) (q : AV × St) (p : Fl × St) : W1.Le W → Inv S W F0 fm q.2 s₁.heap → GF S F0 fm n Lg W s₁.heap → VR S W q.1 v → Kp s₀ s₁ → b { H := q.2.H, V := pt q.2.V x q.1, O := q.2.O } = some p → p.1 = .nx → dx G n x b k false p.2 = some σ' →
  (∀ s'', Good S F0 fm n Lg W1 p.2 s'' → kap (.send .none) s'') → YY S G b x σ' F0 fm n Lg W1 s₀ v s₁ kap
noncomputable def RE (S : aP) (F0 : Addr → Option Obj) (fm : Fm) (n : Nat) (Lg : Addr) (W1 : Wd) (σ' : St) (s₀ s₁ : Shared) : Prop := Good S F0 fm n Lg W1 σ' s₁ ∧ Kp s₀ s₁
structure Loop (S : aP) (G : bS) (n0 : Nat) (A : Around) (ge : Env) (Lg : Addr) (ks : cG) (t1 t2 t3 y4 : Expr) (fm : Fm) : Prop where
 go : a6 S G n0
 gE : zT S ge Lg
 kd : o2 ks ge
 m1 : mE ks uO t1 = true
 m2 : mE ks Eb t2 = true
 m3 : mE ks zO t3 = true
 m4 : mE ks Ba y4 = true
 ro : Ro (n0 + 2) A
 ok : fX S fm
theorem kQ {n0 : Nat} {c c1 c2 : Code} {k1 k2 : Result → Sem Fin} {l1 l2 : List Value} {p1 p2 : Pos} (ro : Ro (n0 + 2) A) (h1 : c.weight ≤ 1 ∧ c1.weight ≤ 1 ∧ c2.weight ≤ 1) (h2 : c.cUnits ≤ 3 ∧ c1.cUnits ≤ 3 ∧ c2.cUnits ≤ 3) :
  Ro (n0 + 1) (A.over c [.ret k1 none false l1 c1 p1 [], .ret k2 none false l2 c2 p2 []]) ∧ Ro (n0 + 1) (A.over c [.ret k1 none false l1 c1 p1 []]) ∧ Ro (n0 + 1) (A.over c []) := by
 have a := ro.dp
 have b := ro.un
 refine ⟨⟨ro.hd, ?_, ?_⟩, ⟨ro.hd, ?_, ?_⟩, ⟨ro.hd, ?_, ?_⟩⟩
 ·simp only [Around.over, List.map_cons, List.map_nil, Frame.where_, frameCount, List.sum_cons, List.sum_nil]; omega
 ·simp only [Around.over, List.map_cons, List.map_nil, Frame.where_, unitsOf_cons, unitsOf_nil]; omega
 ·simp only [Around.over, List.map_cons, List.map_nil, Frame.where_, frameCount, List.sum_cons, List.sum_nil]; omega
 ·simp only [Around.over, List.map_cons, List.map_nil, Frame.where_, unitsOf_cons, unitsOf_nil]; omega
 ·simp only [Around.over, List.map_nil, frameCount, List.sum_cons, List.sum_nil]; omega
 ·simp only [Around.over, List.map_nil, unitsOf_nil]; omega
noncomputable def Loop.cx {n0 : Nat} {ks : cG} {t1 t2 t3 y4 : Expr} {c : Code} {fs : List Frame} (P : Loop S G n0 A ge Lg ks t1 t2 t3 y4 fm) (F : Addr → Option Obj) (ro : Ro (n0 + 1) (A.over c fs)) : Cx S n0 := ⟨⟨ge, [Lg]⟩, ks, F, A.over c fs, P.gE.os.tofX, P.kd, ro⟩
theorem nM {n0 : Nat} {ks : cG} {t1 t2 t3 y4 ti : Expr} {gi : Ex} {p : Bool × St} {c : Code} {fs : List Frame} {X Y : Shared → Prop} {E : Value → Shared → Prop} (P : Loop S G n0 A ge Lg ks t1 t2 t3 y4 fm) (mi : mE ks gi ti = true) (e : cW G gi σ = some p) (ro : Ro (n0 + 1) (A.over c fs))
  (I : Inv S W F ⟨ge, [Lg]⟩ σ s.heap) (hz : eR p.2.O) (h : ∀ W2 s2, W.Le W2 → Inv S W2 F ⟨ge, [Lg]⟩ p.2 s2.heap → Kp s s2 → if p.1 = true then X s2 else Y s2) : wpAny (MD S) (A.over c fs) (isTrue ti ge (eval ti ge)) (fun b s2 => if b = true then X s2 else Y s2) E s :=
 wpAny_mono ((d0 P.go (ji P.go.sys) gi).t (P.cx F ro) ti mi W σ s I p e hz) (fun r s2 z => by
  cases z with | mk W2 L e' I k => exact (show p.1 = r from Eq.symm e') ▸ h W2 s2 L I k) fun _ _ z => z.elim
theorem uQ (h : τ.V = gV n) : k9 n (bk σ τ) = τ := by
 obtain ⟨H, V, O⟩ := τ
 exact (show V = gV n from h) ▸ rfl
theorem Hh {σc : St} (h : σc.V = σ.V) : bk σc τ = bk σ τ := congrArg (fun V => ({ τ with V := V } : St)) h
noncomputable def SI (S : aP) (A : Around) (ge : Env) (t1 t2 t3 y4 : Expr) (b2 : List Stmt) (p2 p3 yp ep : Pos) (k1 : Result → Sem Fin) (l1 : List Value) (cF : Code) (R : GenEnd) (Y : Protocol) (m : Nat) (s₀ s : Shared) (pa : Pos) (ph : Bool) : Prop := match ph with
 | true => Seg (MD S) A R Y m s₀ (.whileLoop t1 (Nh t2 t3 y4 b2 p2 p3 yp ep) [] ge) ((MD S).den (.whileLoop t1 (Nh t2 t3 y4 b2 p2 p3 yp ep) [] ge)) [.ret k1 none false l1 cF pa []] s
 | false => ∀ (k3 : Result → Sem Fin) (l3 : List Value) (pb : Pos), k3 (.ok .next) = .pure (.again (.whileLoop t1 (Nh t2 t3 y4 b2 p2 p3 yp ep) [] ge)) →
   Seg (MD S) A R Y m s₀ (.whileLoop t3 (Ss y4 yp ep) [] ge) ((MD S).den (.whileLoop t3 (Ss y4 yp ep) [] ge)) [.ret k3 none false l3 (.whileLoop t1 (Nh t2 t3 y4 b2 p2 p3 yp ep) [] ge) pb [], .ret k1 none false l1 cF pa []] s
theorem yn {n0 : Nat} {ks : cG} {t1 t2 t3 y4 : Expr} {b2 : List Stmt} {p2 p3 yp ep : Pos} (P : Loop S G n0 A ge Lg ks t1 t2 t3 y4 fm) (hb : ∀ σ, Mon σ.O (b σ)) (hz : eR σ'.O)
  {k1 : Result → Sem Fin} {l1 : List Value} {cF : Code} (hcF : cF.weight ≤ 1 ∧ cF.cUnits ≤ 3) (hk1 : k1 (.ok .next) = leafOf (.ok (.ret .none))) : ∀ (k : Nat) {m : Nat} {ph : Bool} {σ : St}, k ≤ m → dx G n x b k ph σ = some σ' →
  ∀ {s₀ s : Shared} {W0 W : Wd} {σc : St}, W1.Le W0 → Inv S W0 F0 fm σc s₀.heap → σc.V = σ.V → W0.Le W → Inv S W (mv fm F0 s₀.heap) ⟨ge, [Lg]⟩ (k9 n σ) s.heap → Kp s₀ s → ∀ pa : Pos, SI S A ge t1 t2 t3 y4 b2 p2 p3 yp ep k1 l1 cF (fun _ s₀ r s₁ => r = .ok (.ret .none) ∧ RE S F0 fm n Lg W1 σ' s₀ s₁) (fun _ => YY S G b x σ' F0 fm n Lg W1) m s₀ s pa ph := by
 have w1 : ∀ {t b o}, (Code.whileLoop t b o ge).weight ≤ 1 := fun {_ _ _} => Nat.le_trans (Nat.le_of_eq (vP ..)) (by decide)
 have w2 : ∀ {t b o}, (Code.whileLoop t b o ge).cUnits ≤ 3 := fun {_ _ _} => Nat.le_trans (Nat.le_of_eq (zN ..)) (by decide)
 intro k
 induction k with
 | zero => exact fun _ q => nn q
 | succ k ih =>
  intro m ph σ hm q s₀ s W0 W σc L1 I0 hV L I kk pa
  have gm := fun ph σ => fD (G := G) (n := n) (x := x) hb k ph σ
  have hm' : k ≤ m := Nat.le_of_succ_le hm
  cases ph with
  | true =>
   refine ai q fun p q e => ?_
   have V1 : p.2.V = gV n := Ni p e
   refine seg_whileLoop (nM P P.m1 e (kQ P.ro ⟨w1, hcF.1, hcF.1⟩ ⟨w2, hcF.2, hcF.2⟩ (k2 := k1) (l2 := l1) (p2 := pa)).2.1 I (cm.cond (((a7 Eb).t p.2).m8 fun q => .cond .no (gm false (bk σ q.2))) .ret _ q hz) fun W2 s2 L2 I2 k2 => ?_)
   refine bC q (fun q c => Fp c ?_) fun q c => Br c ?_
   ·refine ai q fun p' q e' => bC q (fun q _ => nn q) fun q c' => ?_
    have V2 : p'.2.V = gV n := (Nj p' e').trans V1
    refine seg_execs_cons (seg_While fun _ => seg_whileLoop (nM P P.m2 e' (kQ P.ro ⟨w1, w1, hcF.1⟩ ⟨w2, w2, hcF.2⟩).1 I2 (gm false (bk σ p'.2) _ q hz) fun W3 s3 L3 I3 k3 => Br c' (seg_leaf (.ok .next) ?_)))
    show Seg _ _ _ _ _ _ _ ((execs [.While t3 (Ss y4 yp ep) [] p3] ge).wrap _ _ _ _) _ _
    refine seg_execs_cons (seg_While fun q' => ?_)
    exact ih hm' q L1 I0 hV (L.trans (L2.trans L3)) (by rw [uQ V2]; exact I3) (kk.trans (k2.trans k3)) pa _ _ _ rfl
   ·refine seg_leaf (.ok .next) ?_
    rw [hk1]
    have z := HE P.gE P.ok I0 (L.trans L2) I2 V1
    exact seg_end (.ok (.ret .none)) ⟨rfl, ⟨W2, L1.trans (L.trans L2), Option.some.inj q ▸ Hh hV ▸ z.1, z.2⟩, kk.trans k2⟩
  | false =>
   intro k3 l3 pb hk3
   refine ai q fun p q e => ?_
   have V1 : p.2.V = gV n := Nk p e
   refine seg_whileLoop (nM P P.m3 e (kQ P.ro ⟨w1, w1, hcF.1⟩ ⟨w2, w2, hcF.2⟩).1 I (cm.cond (((a7 Ba).v p.2).m8 fun q => jV hb (gm false) q) (gm true (bk σ p.2)) _ q hz) fun W2 s2 L2 I2 k2 => ?_)
   refine bC q (fun q c => Fp c ?_) fun q c => Br c ?_
   ·refine ai q fun p' q e' => ?_
    have V2 : p'.2.V = gV n := (Nl p' e').trans V1
    have lz : eR p'.2.O := jV hb (gm false) p' _ q hz
    refine ai q fun r q eb => CQ q fun q en => ?_
    obtain ⟨m, rfl⟩ : ∃ m', m = m' + 1 := ⟨m - 1, by omega⟩
    refine seg_execs_cons (seg_Expr_Yield rfl rfl rfl (wpAny_mono ((d0 P.go (ji P.go.sys) Ba).e (P.cx _ (kQ P.ro ⟨w1, w1, hcF.1⟩ ⟨w2, w2, hcF.2⟩).1) y4 P.m4 W2 p.2 s2 I2 p' e' lz) (fun u s3 z => ?_) fun _ _ z => z.elim) P.gE.co (tN P.gE.os.tofX))
    cases z with | mk W3 L3 rv I3 k3' => ?_
    intro kap hk
    have z := HE P.gE P.ok I0 (L.trans (L2.trans L3)) I3 V2
    rw [Hh hV] at z
    refine .mk k W3 (p'.1, bk σ p'.2) r (L1.trans (L.trans (L2.trans L3))) z.1 z.2 rv (kk.trans (k2.trans k3')) eb en q fun s'' gd => hk .none s'' (seg_execs_nil (seg_again rfl ?_))
    exact Exists.elim gd fun W4 g => ih (Nat.le_of_succ_le_succ hm) q g.1 g.2.1 rfl (.refl _) (HN P.gE g.2.1 g.2.2) (.refl _) pa k3 l3 pb hk3
   ·refine seg_leaf (.ok .next) ?_
    rw [hk3]
    exact seg_again rfl (ih (ph := true) hm' q L1 I0 hV (L.trans L2) (by rw [uQ V1]; exact I2) (kk.trans k2) pa)
end
structure iK (S : aP) (fd : FuncData) (ks : cG) (st0 : Stmt) (t1 t2 t3 y4 : Expr) (b2 : List Stmt) (p1 p2 p3 yp ep : Pos) : Prop where
 at_ : ∃ oc od osl, S.K.lookup (S.fa .jt) = some ⟨oc, od, .func fd, osl⟩
 bod : fd.body = .stmts (A7 st0 t1 t2 t3 y4 b2 p1 p2 p3 yp ep)
 kind : fd.scope.kind = .function
 co : fd.scope.isCoroutine = false
 ge : fd.scope.isGenerator = true
 gl : fd.globals = mainGlobals
 bu : fd.builtins = builtinsNs
 ml : fd.closure = []
 code : codeIn S.K fd.code fd.qualname = true
 k8 : ∀ y ∈ fd.scope.names, y.2 ≠ .cell
 kin : tq ks fd.scope = true
 self : fd.scope.names.lookup (bz .aa) = some .local
 fo : fnOf S.K (S.fa .jt) = some fd
 par : ∀ v St, nh S.K (S.fa .jt) St [v] = some [(bz .aa, v)]
 m0 : mS ks Ec st0 = true
 m1 : mE ks uO t1 = true
 m2 : mE ks Eb t2 = true
 m3 : mE ks zO t3 = true
 m4 : mE ks Ba y4 = true
 it : findIn S.K (.ref (S.ca .tok)) "__iter__" = some (some (.ref (S.fa .jt)))
 ty : typeIn S.K (.ref (S.fa .jt)) = some (.type "function")
section
variable {S : aP} {G : bS} {W W0 W1 W' : Wd} {F F0 : Addr → Option Obj} {fm : Fm} {σ τ : St} {s : Shared} {A : Around} {E : Value → Shared → Prop} {n : Nat} {h h0 : Heap} {ge : Env} {Lg : Addr}
 {m N : Nat} {x : Nm} {b : St → Option (Fl × St)} {σ' : St} {ph : Bool}
theorem pM : ∀ (names : List (Str × NameKind)) (k : Nat) (acc : List (Str × Addr)), (∀ y ∈ names, y.2 ≠ .cell) → cellsFrom k names acc = acc
 | [], _, _, _ => rfl
 | (a, kd) :: r, k, acc, hh => by
  unfold cellsFrom
  rw [if_neg fun e => hh (a, kd) (.head _) (eq_of_beq e)]
  exact pM r k acc fun y hy => hh y (.tail _ hy)
theorem BL {M : Model} {K : Frag} {x C f : Addr} {ox : Obj} {od : Option Obj} {Q : Value → Shared → Prop} (X : K.In s.heap) (I : InstAt s.heap x ox C od) (hs : findIn K (.ref C) "__iter__" = some (some (.ref f))) (hf : typeIn K (.ref f) = some (.type "function"))
  (h : wpAny M A (call (.ref f) [.ref x]) (fun it s' => ∃ T r, s'.TypeIs it T ∧ typeLookup (.type T) "__next__" = pure (some r) ∧ Q it s') E s) : wpAny M A (pyIter (.ref x)) Q E s := by
 have fin : wpAny M A (call (.ref f) [.ref x] >>= fun v => pure (some v)) (fun r s' => ∃ v, r = some v ∧ ∃ T r, s'.TypeIs v T ∧ typeLookup (.type T) "__next__" = pure (some r) ∧ Q v s') E s :=
  wpAny_bind (wpAny_mono h (fun v s' h' => wpAny_pure ⟨v, rfl, h'⟩) fun _ _ z => z)
 have one : ∀ refuse : Sem Value, wpAny M A (callSpecialIfBoundUnlessNone? (.ref x) "__iter__" refuse) (fun r s' => ∃ v, r = some v ∧ ∃ T r, s'.TypeIs v T ∧ typeLookup (.type T) "__next__" = pure (some r) ∧ Q v s') E s := by
  intro refuse
  simp only [callSpecialIfBoundUnlessNone?, bindSpecialIfBound?]
  refine wpAny_holding (wpAny_bind (wpAny_bind (wpAny_bind (I.type.here ((looks_findIn X hs).here ?_)))))
  refine wpAny_bind (wpAny_askSetting (wpAny_ite ?_))
  have fin2 : wpAny M A (if (Value.ref f == Value.none) = true then (refuse >>= fun v => pure (some v)) else (call (.ref f) [.ref x] >>= fun v => pure (some v))) (fun r s' => ∃ v, r = some v ∧ ∃ T r, s'.TypeIs v T ∧ typeLookup (.type T) "__next__" = pure (some r) ∧ Q v s') E s := by
   rw [if_neg (show ¬ ((Value.ref f == Value.none) = true) from Bool.false_ne_true)]
   exact fin
  split
  ·exact wpAny_bind ((bind_fn X _ hf).here (wpAny_pure (by exact fin2)))
  ·exact wpAny_tryCatch (wpAny_bind ((bind_fn X _ hf).here (wpAny_pure (by exact fin2))))
 unfold pyIter
 refine wpAny_bind (wpAny_bind (I.type.here ((looks_findIn X hs).here ?_)))
 show wpAny M A (callSpecialIfBoundUnlessNone? (.ref x) "__iter__" _ >>= _) Q E s
 refine wpAny_bind (wpAny_mono (one _) (fun r s' hr => ?_) fun _ _ z => z)
 obtain ⟨v, rfl, T, r, hT, hl, hv⟩ := hr
 exact wpAny_bind (wpAny_specialOf hT hl (wpAny_pure hv))
structure Made (S : aP) (W : Wd) (F : Addr → Option Obj) (fm : Fm) (σ : St) (ks : cG) (n : Nat) (ge : Env) (Lg ga : Addr) (og : Obj) (g : Nat) (h' : Heap) : Prop where
 gE : zT S ge Lg
 kd : o2 ks ge
 isg : ∀ h'' : Heap, h''.get? ga = some og → h''.IsGen ga g
 un : Un W F fm ga
 nc : ∀ x c, fm.env.kindOf x = some .cell → fm.env.cells.lookup x = some c → c ≠ ga
 inv : Inv S W (fY F ga og) fm σ h'
 gf : GF S (fY F ga og) fm n Lg W h'
theorem iK.env {fd : FuncData} {ks : cG} {st0 : Stmt} {t1 t2 t3 y4 : Expr} {b2 : List Stmt} {p1 p2 p3 yp ep : Pos} (T : iK S fd ks st0 t1 t2 t3 y4 b2 p1 p2 p3 yp ep) (L a : Addr) : zT S (callEnvC fd L a) L :=
 have cf : ∀ y c, (callEnvC fd L a).cells.lookup y ≠ some c := fun y c e => nn ((congrArg (List.lookup y) (pM fd.scope.names (L + 1) [] T.k8)).symm.trans e)
 ⟨{ kf := T.kind, gl := T.gl, bu := T.bu, lo := .head _, cl := fun y c e => absurd e (cf y c), ce := fun y c _ e => absurd e (cf y c), ci := fun y z c _ e => absurd e (cf y c) }, rfl, T.self, fun y z => T.k8 (y, .cell) (mem_of_lookup z) rfl, T.co⟩
theorem DU {fd : FuncData} {ks : cG} {st0 : Stmt} {t1 t2 t3 y4 : Expr} {b2 : List Stmt} {p1 p2 p3 yp ep : Pos} {n0 : Nat} {aN : List (Nm × AV)} {v : Value} {Q : Value → Shared → Prop} (lim : ∀ h, S.K.In h → h.NoLimit)
  (T : iK S fd ks st0 t1 t2 t3 y4 b2 p1 p2 p3 yp ep) (hx : VR S W (.inst .tok n) v) (e : hW σ.H n = some aN) (I : Inv S W F fm σ s.heap) (ro : Ro n0 A)
  (k : ∀ (ge : Env) (Lg ga : Addr) (og : Obj) (h' : Heap) (tk : Nat), Made S W F fm σ ks n ge Lg ga og s.gens.size h' →
   Q (.ref ga) { s with heap := h', toks := tk, gens := s.gens.push (.fresh (.func (A7 st0 t1 t2 t3 y4 b2 p1 p2 p3 yp ep) ge)) }) : wpAny (MD S) A (pyIter v) Q no s :=
 hx.wV I.tobI e fun xa d od ps r1 g dd rs z J hx0 => by
 have K := I.K
 obtain ⟨oc, odd, osl, at_⟩ := T.at_
 refine BL K J T.it T.ty (wpAny_call (codeAny_call_generator (Nat.lt_of_lt_of_le (Nat.lt_add_of_pos_right (by omega)) ro.dp) (K _ _ at_) rfl T.co T.ge T.bod (codeRec_of K T.code) ?_))
 refine sg T.fo K (fun St => T.par _ St) _ _ _ _ ?_
 rw [T.ml]
 refine wpAny_newFunctionEnv_cells T.kind (fun y my => by rw [List.mem_singleton.mp my]; exact .inl T.self) fun env he s₁ ic => ?_
 subst he
 refine ⟨(lim s.heap K).keeps ic.toInCall.keep, ?_⟩
 obtain ⟨h₁, tk, rfl, hk⟩ := ic.done
 refine ⟨"generator", _, ⟨_, Heap.get?_push_size _ rfl, rfl⟩, slot_gen_next.lookup, ?_⟩
 have lt1 : s.heap.objs.size < h₁.objs.size := ic.toInCall.ns.lt
 have uga := I.above (Nat.le_of_lt lt1)
 exact k (callEnvC fd s.heap.objs.size (S.fa .jt)) s.heap.objs.size h₁.objs.size _ _ _ ⟨T.env _ _, fun y k e => BR T.kin e, fun h'' e => ⟨_, _, _, e, rfl, rfl, rfl⟩, uga, fun y d k l => uga.ne (I.lY k l), ((I.keeps hk).push _).hold uga (Heap.get?_push_size _ rfl), I.un.fY (Nat.ne_of_lt lt1), _, _, ic.toInCall.ns.push _, si (k := fun y => List.lookup y fd.scope.names) T.self (List.nodup_cons.mpr ⟨List.not_mem_nil, .nil⟩) (.head _), hx0⟩
theorem set_push {α : Type} (a : Array α) (x y : α) : (a.push x).setIfInBounds a.size y = a.push y := by
 apply Array.ext_getElem?
 intro i
 rw [Array.getElem?_setIfInBounds, Array.getElem?_push, Array.getElem?_push]
 by_cases e : a.size = i
 ·rw [if_pos e, if_pos e.symm, if_pos (by rw [Array.size_push]; exact e ▸ Nat.lt_succ_self _)]
 ·rw [if_neg e, if_neg (Ne.symm e), if_neg (Ne.symm e)]
theorem sU {s1 s2 s3 : Shared} {gs gs' r : GenState} (hg : s2.gens = s1.gens.push gs) (kp : Kp (s2.setGen s1.gens.size r) s3) : (s3.setGen s1.gens.size gs').gens = s1.gens.push gs' := by
 show s3.gens.setIfInBounds _ _ = _
 rw [kp.gens]
 show (s2.gens.setIfInBounds _ _).setIfInBounds _ _ = _
 rw [hg, set_push, set_push]
theorem GR {P : Expr → Prop} {ks : cG} {tg : Expr} (h : lJ ks [x] tg = true) (k : ∀ pos, lk ks x = some .loc → P (.Name (bz x) pos)) : P tg :=
 xH (P := fun l tg => l = [x] → P tg) h (fun y pos hk e => (List.cons.inj e).1 ▸ k pos ((List.cons.inj e).1 ▸ hk)) (fun t es p pos it _ _ e => by
  rw [e] at it
  exact absurd it Bool.false_ne_true) rfl
inductive GI (S : aP) (A : Around) (G : bS) (b : St → Option (Fl × St)) (x : Nm) (σ' : St) (F0 : Addr → Option Obj) (fm : Fm) (n : Nat) (Lg : Addr) (W1 : Wd) (s1 : Shared) (g : Array GenState) (k : Nat) (s2 : Shared) : Prop
 | mk (W2 : Wd) (σ2 : St) (gs : GenState) : W1.Le W2 → Inv S W2 F0 fm σ2 s2.heap → s2.os = s1.os → s2.gens = g.push gs →
  gs.Goes (MD S) A.in1 (fun _ s₀ r s₁ => r = .ok (.ret .none) ∧ RE S F0 fm n Lg W1 σ' s₀ s₁) (fun _ => YY S G b x σ' F0 fm n Lg W1) k (.send .none) (s2.setGen g.size .running) → GI S A G b x σ' F0 fm n Lg W1 s1 g k s2
noncomputable def Cx.low {n k : Nat} (c : Cx S (n + k)) : Cx S n := ⟨c.fm, c.ks, c.F, c.A, c.ok, c.kd, c.ro.mono (Nat.add_le_add_right (Nat.le_add_right n k) 1)⟩
theorem Bd {n0 k : Nat} {ge : Env} {Lg ga : Addr} {og : Obj} {ksg : cG} {bd : cT} {tg : Expr} {body : List Stmt} {s0 s1 s2 : Shared} {σ1 : St} {h' : Heap} {c : Cx S (n0 + 2)} (GO : a6 S G n0) (os : zR S c.fm) (h1 : lJ c.ks [x] tg = true) (h3 : qm c.ks bd body = true)
  (hz : eR σ'.O) (M : Made S W1 c.F c.fm σ1 ksg n ge Lg ga og s1.gens.size h') (k1 : Kp s0 s1) (L1 : W.Le W1) (J : GI S c.A G (b0 G bd) x σ' (fY c.F ga og) c.fm n Lg W1 s1 s1.gens k s2) :
  wpAny (MD S) c.A (pyNext (.ref ga)) (fun r s₁ => match r with
    | none => (Flow.next = .next ∧ ∃ W', W.Le W' ∧ Inv S W' c.F c.fm σ' s₁.heap ∧ s₁.os = s0.os ∧ ∃ gs, s₁.gens = s0.gens.push gs ∧ gs.bare = true)
    | some v => wpAny (MD S) c.A (letOwnedTupleGo tg (.ref ga) v) (fun _ s₁' => wpAny (MD S) c.A (assign tg c.fm.env v) (fun _ s₂ => wpAny (MD S) c.A (execs body c.fm.env) (fun f s₃ => match f with
      | .next | .cont => ∃ m, m < k ∧ GI S c.A G (b0 G bd) x σ' (fY c.F ga og) c.fm n Lg W1 s1 s1.gens m s₃
      | .brk => (Flow.next = .next ∧ ∃ W', W.Le W' ∧ Inv S W' c.F c.fm σ' s₃.heap ∧ s₃.os = s0.os ∧ ∃ gs, s₃.gens = s0.gens.push gs ∧ gs.bare = true)
      | .ret v => (Flow.ret v = .next ∧ ∃ W', W.Le W' ∧ Inv S W' c.F c.fm σ' s₃.heap ∧ s₃.os = s0.os ∧ ∃ gs, s₃.gens = s0.gens.push gs ∧ gs.bare = true)) no s₂) no s₁') no s₁) no s2 := by
 cases J with | mk W2 σ2 gs L2 J2 hos hg go => ?_
 refine wpAny_pyNext_gen (n := k) c.ro.hd (GO.lim _ J2.K) (Nat.lt_of_lt_of_le (Nat.lt_add_of_pos_right (by omega)) c.ro.dp) (M.isg _ (J2.f ga og (if_pos rfl))) (by rw [hg]; exact Array.getElem?_push_size ..) go (fun v s3 gs' hyy => ?_) fun s3 hp h4 hk4 => ?_
 ·cases hyy with | mk kf W3 q p L3 J3 gf3 rv kp eb en ef kap => ?_
  obtain ⟨uL, mL, xv, ⟨oL, es, epp, gL, rest⟩, exv, rxv⟩ := gf3
  refine GR (P := fun tg => wpAny (MD S) c.A (letOwnedTupleGo tg (.ref ga) v) (fun _ s₁' => wpAny (MD S) c.A (assign tg c.fm.env v) _ no s₁') no (s3.setGen s1.gens.size gs')) h1 fun pos hk => wpAny_pure (iP (s := s3.setGen s1.gens.size gs') c.ok (J3.hold uL gL) rv (c.kd x _ hk) fun s5 J5 k5 => ?_)
  refine Mine.seq ((mY GO (ji GO.sys) bd) (c.low.fz (fY (fY c.F ga og) Lg oL)) body h3 os W3 _ s5 J5 p eb (fD (dR bd) kf false p.2 _ ef hz)) fun W6 f s6 L6 fr J6 k6 => ?_
  have ff : f = .next := (en ▸ fr : FR S W6 .nx f)
  subst ff
  have B := J6.free uL.f fun y d kk l => uL.ne (J3.lY kk l)
  have gd : Good S (fY c.F ga og) c.fm n Lg W1 p.2 s6 := ⟨W6, L3.trans L6, B.1, B.2.1, mL, xv, ⟨oL, es, epp, B.2.2, rest⟩, exv, rxv.mono L6⟩
  cases k with
  | zero => exact (kap s6 gd : False).elim
  | succ k => exact ⟨k, Nat.lt_succ_self k, .mk W6 _ gs' (L3.trans L6) B.1 ((k6.os.trans k5.os).trans (kp.os.trans hos)) ((k6.gens.trans k5.gens).trans (sU hg kp)) (kap (s6.setGen s1.gens.size .running) gd)⟩
 ·exact Exists.elim hp.1 fun W3 z => ⟨rfl, W3, L1.trans z.1, ((z.2.1.keeps hk4).free M.un.f M.nc).1, (hp.2.os.trans hos).trans k1.os, .finished, (sU hg hp.2).trans (congrArg (fun g : Array GenState => g.push .finished) k1.gens), rfl⟩
theorem Fc {fd : FuncData} {ksg : cG} {st0 : Stmt} {t1 t2 t3 y4 : Expr} {b2 : List Stmt} {p1 p2 p3 yp ep : Pos} {n0 fu : Nat} {it : Ex} {bd : cT} {tg ite : Expr} {body : List Stmt} {pos : Pos} {σ1 τ0 : St} {aN : List (Nm × AV)} {c : Cx S (n0 + 2)}
  (GO : a6 S G n0) (T : iK S fd ksg st0 t1 t2 t3 y4 b2 p1 p2 p3 yp ep) (os : zR S c.fm) (h1 : lJ c.ks [x] tg = true) (h2 : mE c.ks it ite = true) (h3 : qm c.ks bd body = true) (h4 : gg ite = true)
  (e1 : ev G it σ = some (.inst .tok n, σ1)) (eK : hW σ1.H n = some aN) (e0 : ex G Ec (k9 n σ1) = some (.nx, τ0)) (eg : dx G n x (b0 G bd) fu true (bk σ1 τ0) = some σ')
  (I : c.I W σ s) (hz : eR σ'.O) :
  wpAny (MD S) c.A (exec (.For tg ite body [] pos) c.fm.env) (fun fl s' => fl = .next ∧ ∃ W', W.Le W' ∧ Inv S W' c.F c.fm σ' s'.heap ∧ s'.os = s.os ∧ ∃ gs, s'.gens = s.gens.push gs ∧ gs.bare = true) no s := by
 have hz0 : eR τ0.O := fD (dR bd) fu true (bk σ1 τ0) _ eg hz
 have hz1 : eR σ1.O := uI Ec (k9 n σ1) _ e0 hz0
 refine A4 h4 (Mine.seq ((d0 GO (ji GO.sys) it).e c.low ite h2 W σ s I _ e1 hz1) fun W1 u s1 L1 r1 I1 k1 => DU GO.lim T r1 eK I1 c.ro fun ge Lg ga og h' tk M => ?_)
 have Pl : Loop S G n0 c.A.in1 ge Lg ksg t1 t2 t3 y4 c.fm := ⟨GO, M.gE, M.kd, T.m1, T.m2, T.m3, T.m4, ⟨c.ro.hd, by have := c.ro.dp; show c.A.depth + _ ≤ _; omega, by have := c.ro.un; show c.A.units + 1 + _ ≤ _; omega⟩, c.ok⟩
 have fw : ∀ b, (Code.func b ge).weight ≤ 1 := fun b => Nat.le_of_eq (uN b ge)
 have fu3 : ∀ b, (Code.func b ge).cUnits ≤ 3 := fun b => Nat.le_of_eq (ym b ge)
 have roF := (kQ (c := .func (A7 st0 t1 t2 t3 y4 b2 p1 p2 p3 yp ep) ge) (c1 := .func [] ge) (c2 := .func [] ge) (k1 := fun _ => .pure (.done .next)) (k2 := fun _ => .pure (.done .next)) (l1 := []) (l2 := []) (p1 := default) (p2 := default) Pl.ro ⟨fw _, fw _, fw _⟩ ⟨fu3 _, fu3 _, fu3 _⟩).2.2
 refine ⟨GI S c.A G (b0 G bd) x σ' (fY c.F ga og) c.fm n Lg W1 s1 s1.gens, fu, .mk W1 σ1 _ (.refl _) M.inv rfl rfl ⟨rfl, seg_func (seg_execs_cons (seg_wrap (wpAny_mono ((Hb GO (ji GO.sys) Ec) (Pl.cx _ roF) st0 T.m0 M.gE.os W1 _ _ (HN M.gE M.inv M.gf) _ e0 hz0) (fun fl s4 p => ?_) fun _ _ z => z.elim)))⟩, fun k s2 J => Bd GO os h1 h3 hz M k1 L1 J⟩
 cases p with | mk W2 L2 fr I3 k3 => ?_
 have ff : fl = .next := fr
 subst ff
 exact seg_execs_cons (seg_While fun pa => yn Pl (dR bd) hz ⟨fw _, fu3 _⟩ rfl fu (Nat.le_refl fu) eg (σc := σ1) (.refl _) M.inv rfl L2 (by rw [uQ (Nn _ e0)]; exact I3) k3 pa)
end
noncomputable def fi : cT → cT → cT
 | .nil, b => b
 | .cons s r, b => .cons s (fi r b)
theorem xh {ks : cG} {b : cT} : ∀ {a : cT} {l : List Stmt} {P : List Stmt → Prop}, qm ks (fi a b) l = true → (∀ l1 l2, qm ks a l1 = true → qm ks b l2 = true → P (l1 ++ l2)) → P l
 | .nil, l, _, h, k => k [] l rfl h
 | .cons s r, _, P, h, k => oo (r := fi r b) (P := P) h fun x xs h1 h2 => xh (P := fun xs => P (x :: xs)) h2 fun l1 l2 h3 h4 => k (x :: l1) l2 (Bool.and_eq_true_iff.mpr ⟨h1, h3⟩) h4
theorem pV (env : Env) (l2 : List Stmt) : ∀ l1 : List Stmt, execs (l1 ++ l2) env = (do match ← execs l1 env with | .next => execs l2 env | f => pure f)
 | [] => by
  show execs l2 env = (pure Flow.next >>= _)
  rw [pure_bind]
 | st :: r => by
  rw [List.cons_append, execs_cons, execs_cons, bind_assoc, pV env l2 r]
  congr 1
  funext f
  cases f <;> simp
theorem mx {M : Model} {A : Around} {E : Value → Shared → Prop} {env : Env} {Q : Flow → Shared → Prop} {l1 l2 : List Stmt} {s : Shared}
  (h : wpAny M A (execs l1 env) (fun f s' => match f with | .next => wpAny M A (execs l2 env) Q E s' | f => Q f s') E s) : wpAny M A (execs (l1 ++ l2) env) Q E s := fun Γ p hΓ => by
 rw [pV, Sem.wp_bind']
 refine Sem.wp_mono M Γ _ (fun f p' s' h' => ?_) (fun _ _ _ h' => h') _ _ (h Γ p hΓ)
 cases f <;> first | exact h' Γ p' hΓ | exact h'
noncomputable def one : List Stmt → Option Stmt := jb
noncomputable def two (l : List Stmt) : Option (Stmt × Stmt) := match l with | [] => none | x :: r => bd (jb r) fun y => some (x, y)
theorem DX {l : List Stmt} {x : Stmt × Stmt} (h : two l = some x) : l = [x.1, x.2] := by
 cases l with
 | nil => exact nn h
 | cons a r => exact ai h fun y h e => aj (P := fun x : Stmt × Stmt => a :: r = [x.1, x.2]) h (congrArg (a :: ·) (iM e))
noncomputable def Hf : Expr → Option (Expr × Pos) | .Yield v p => bd v fun v => some (v, p) | _ => none
theorem Ab {e : Expr} {x : Expr × Pos} (h : Hf e = some x) : e = .Yield (some x.1) x.2 := by
 cases e with
 | Yield v p => exact ai h fun w h e => aj (P := fun x : Expr × Pos => Expr.Yield v p = .Yield (some x.1) x.2) h (e ▸ rfl)
 | _ => exact nn h
noncomputable def vZ (s : Stmt) : Option (Expr × List Stmt × Pos) := cond (th 5 s && (bJ s).m.isEmpty) (some ((bJ s).a, (bJ s).l, (bJ s).p)) none
theorem mZ {s : Stmt} {x : Expr × List Stmt × Pos} (h : vZ s = some x) : s = .While x.1 x.2.1 [] x.2.2 := bC h (fun h c => aj (P := fun x : Expr × List Stmt × Pos => s = .While x.1 x.2.1 [] x.2.2) h
 (to3 (P := fun t => s = t → s = .While (bJ s).a (bJ s).l [] (bJ s).p) (F := fun o => .While (bJ s).a (bJ s).l o (bJ s).p) (iS (aX c).1) (List.isEmpty_iff.mp (aX c).2) id rfl)) fun h _ => nn h
noncomputable def He (s : Stmt) : Option (Expr × Pos) := cond (th 1 s) (some ((bJ s).a, (bJ s).p)) none
theorem z8 {s : Stmt} {x : Expr × Pos} (h : He s = some x) : s = .Expr x.1 x.2 := bC h (fun h c => aj (P := fun x : Expr × Pos => s = .Expr x.1 x.2) h (iS c).symm) fun h _ => nn h
noncomputable def Jy : NameKind → Bool | .cell => true | _ => false
noncomputable def S8 (K : Frag) (fa : Fn → Addr) (ca : Cl → Addr) (ks : cG) : Bool := bindB (fnOf K (fa .jt)) fun fd => bindB (Lj fd.body) fun b => bindB (two b) fun x => bindB (vZ x.2) fun w1 => bindB (two w1.2.1) fun y => bindB (vZ y.1) fun w2 => bindB (vZ y.2) fun w3 => bindB (one w3.2.1) fun z => bindB (He z) fun ye => bindB (Hf ye.1) fun y4 => (BE fd.scope.kind && !fd.scope.isCoroutine && fd.scope.isGenerator && Nat.beq fd.globals mainGlobals && Nat.beq fd.builtins builtinsNs && fd.closure.isEmpty) &&
 (codeIn K fd.code fd.qualname && (fd.scope.names.all fun y => !Jy y.2) && tq ks fd.scope && decide (fd.scope.names.lookup (bz .aa) = some .local) && mS ks Ec x.1 && mE ks uO w1.1) &&
 (mE ks Eb w2.1 && mE ks zO w3.1 && mE ks Ba y4.1 && (findIn K (.ref (ca .tok)) "__iter__" == some (some (.ref (fa .jt)))) && (typeIn K (.ref (fa .jt)) == some (.type "function")) && true)
theorem uR {S : aP} {ks : cG} (h : S8 S.K S.fa S.ca ks = true) (hp : ∀ v St, nh S.K (S.fa .jt) St [v] = some [(bz .aa, v)]) : ∃ fd st0 t1 t2 t3 y4 b2 p1 p2 p3 yp ep, iK S fd ks st0 t1 t2 t3 y4 b2 p1 p2 p3 yp ep :=
 aZ h fun fd h e => aZ h fun b h e' => aZ h fun x0 h q0 => aZ h fun w1 h q1 => aZ h fun x2 h q2 => aZ h fun w2 h q3 => aZ h fun w3 h q4 => aZ h fun zz h q5 => aZ h fun ye h q6 => aZ h fun y4 h q7 =>
 have w := eO h
 have y := r0 w.1
 have z := r0 w.2.1
 have v := r0 w.2.2
 ⟨fd, x0.1, w1.1, w2.1, w3.1, y4.1, w2.2.1, w1.2.2, w2.2.2, w3.2.2, y4.2, ye.2, wL e, (by rw [xC e', DX q0, mZ q1, DX q2, mZ q3, mZ q4, iM q5, z8 q6, Ab q7]), te y.1, not_true y.2.1, y.2.2.1, Nat.eq_of_beq_eq_true y.2.2.2.1, Nat.eq_of_beq_eq_true y.2.2.2.2.1, List.isEmpty_iff.mp y.2.2.2.2.2, z.1, fun u m q => (by have := not_true (List.all_eq_true.mp z.2.1 u m); rw [q] at this; cases this), z.2.2.1, of_decide_eq_true z.2.2.2.1, e, hp, z.2.2.2.2.1, z.2.2.2.2.2, v.1, v.2.1, v.2.2.1, beq_iff_eq.mp v.2.2.2.1, beq_iff_eq.mp v.2.2.2.2.1⟩
section
variable {S : aP} {G : bS} {W : Wd} {F : Addr → Option Obj} {s : Shared} {A : Around}
noncomputable def vV (S : aP) (W : Wd) (F : Addr → Option Obj) (r : AV) (s : Shared) (res : Result) (s' : Shared) : Prop :=
 ∃ v W', res = .ok (.ret v) ∧ W.Le W' ∧ VR S W' r v ∧ (∀ a o, W'.P a = some o → s'.heap.get? a = some o) ∧ (∀ a o, F a = some o → s'.heap.get? a = some o) ∧ s'.os = s.os ∧ ∃ gs, s'.gens = s.gens.push gs ∧ gs.bare = true
theorem Bc {f : Fn} {ps : List Nm} {ds : List AV} {ks ksg : cG} {irA irB irC : cT} {it : Ex} {x : Nm} {fd fdg : FuncData} {body : List Stmt} {as : List AV} {V : List (Nm × AV)} {H : List AO} {n0 n fu : Nat} {st0 : Stmt} {t1 t2 t3 y4 : Expr} {b2 : List Stmt} {p1 p2 p3 yp ep : Pos}
  {σ1 σ2 τ0 σ3 σ4 : St} {aN : List (Nm × AV)} {r : AV}
  (GO : a6 S G n0) (T : iK S fdg ksg st0 t1 t2 t3 y4 b2 p1 p2 p3 yp ep) (D : zS S f ps ds ks (fi irA (.cons (.fr [x] false it irB) irC)) fd body) (hb : jM ps ds as = some V)
  (eA : b0 G irA { H := H, V := V, O := [] } = some (.nx, σ1)) (e1 : ev G it σ1 = some (.inst .tok n, σ2)) (eK : hW σ2.H n = some aN) (e0 : ex G Ec (k9 n σ2) = some (.nx, τ0))
  (eg : dx G n x (b0 G irB) fu true (bk σ2 τ0) = some σ3) (eC : b0 G irC σ3 = some (.rt r, σ4))
  {vs : List Value} (ro : Ro (n0 + 4) A) (I : bI S W F H s.heap) (rs : bP S W as vs) (hz : eR σ4.O) :
  codeAny (MD S) A (.call (.ref (S.fa f)) ⟨vs, []⟩) (vV S W F r s) s := by
 have hz3 : eR σ3.O := dR irC σ3 _ eC hz
 have hz2 : eR τ0.O := fD (dR irB) fu true (bk σ2 τ0) _ eg hz3
 have hz1 : eR σ1.O := (a7 it).v σ1 _ e1 (uI Ec (k9 n σ2) _ e0 hz2)
 refine sT (n := n0 + 2) GO.lim D hb ro I rs fun fm h₁ tk os kd ro1 I1 => xh (P := fun body => wpAny (MD S) (A.deeper fm.env) (execs body fm.env) _ no _) D.m fun l1 l2 m1 m2 => mx ?_
 refine wpAny_mono ((mY GO (ji GO.sys) irA) (Cx.low ⟨fm, ks, F, A.deeper fm.env, os.tofX, kd, ro1⟩) l1 m1 os W _ { s with heap := h₁, toks := tk } I1 _ eA hz1) (fun g s2 p => ?_) fun _ _ z => z.elim
 cases p with | mk W2 L2 fr I2 k2 => ?_
 have ff : g = .next := fr
 subst ff
 refine oo (P := fun l2 => wpAny (MD S) (A.deeper fm.env) (execs l2 fm.env) _ no s2) m2 fun st l3 m3 m4 => wpAny_execs_cons (Hx (P := fun st => wpAny (MD S) (A.deeper fm.env) (exec st fm.env) _ no s2) m3 fun tg ite bd pos q1 _ q3 q4 q5 => ?_)
 refine wpAny_mono (Fc (c := ⟨fm, ks, F, A.deeper fm.env, os.tofX, kd, ro1⟩) (fu := fu) GO T os q1 q3 q4 q5 e1 eK e0 eg I2 hz3) (fun g s3 p => ?_) fun _ _ z => z.elim
 obtain ⟨rfl, W3, L3, I3, os3, gs, eg3, bare⟩ := p
 refine wpAny_mono ((mY GO (ji GO.sys) irC) (Cx.low ⟨fm, ks, F, A.deeper fm.env, os.tofX, kd, ro1⟩) l3 m4 os W3 _ s3 I3 _ eC hz) (fun g s4 p => ?_) fun _ _ z => z.elim
 cases p with | mk W4 L4 fr I4 k4 => ?_
 exact Exists.elim fr fun u z => ⟨u, W4, by rw [z.1], L2.trans (L3.trans L4), z.2, I4.p, I4.f, (k4.os.trans os3).trans k2.os, gs, k4.gens.trans (eg3.trans (congrArg (fun g : Array GenState => g.push gs) k2.gens)), bare⟩
end
theorem bR {α : Type} {x : Nm} {v : α} : ∀ {V : List (Nm × α)}, lk (pt V x v) x = some v
 | [] => if_pos rfl
 | p :: r => by
  rw [jD]
  by_cases e : p.1 = x
  ·rw [if_pos e]; exact if_pos e
  ·rw [if_neg e]; exact (if_neg e).trans bR
theorem ck {α : Type} {x y : Nm} {v : α} (n : x ≠ y) : ∀ {V : List (Nm × α)}, lk (pt V x v) y = lk V y
 | [] => if_neg n
 | p :: r => by
  rw [jD, c9]
  by_cases e : p.1 = x
  ·rw [if_pos e, if_neg (e ▸ n)]; exact if_neg (e ▸ n)
  ·rw [if_neg e, c9, ck n]
theorem Wc {α : Type} {x y r : α} (h : x = r) : cond true x y = r := h
theorem Wb {α : Type} {x y r : α} (h : y = r) : cond false x y = r := h
theorem nj {α : Type} {b : Bool} {x y r : α} (e : b = true) (h : x = r) : cond b x y = r := e ▸ h
theorem x4 {α : Type} {b : Bool} {x y r : α} (e : b = false) (h : y = r) : cond b x y = r := e ▸ h
theorem iJ.ba {m : Nat} {f : Fn} {s : AV} (h : iJ m s) : iJ m (.ba f s) := h
section
variable {G : bS} {σ σ1 σ2 σ3 : St} {v w r : AV} {vs ws : List AV} {b b' : Bool} {e f i o lo hi : Ex} {es as : dZ} {a m x : Nm} {z : Option (Fl × St)} {s : Sx} {q k : cT} {c : Cl} {n : Nat} {aN : List (Nm × AV)} {fl : Fl} {H' H0 H1 H2 H3 : List AO} {O' O0 O1 O2 O3 : List Nat} {V0 V1 V2 V3 : List (Nm × AV)}
theorem aJ (h : ex G s σ = some (.nx, σ1)) (k : b0 G q σ1 = z) : b0 G (.cons s q) σ = z := az h k
theorem qK : ∀ {k : cT} {σ : St}, b0 G (fi k q) σ = bd (b0 G k σ) fun p => CR p (b0 G q)
 | .nil, _ => rfl
 | .cons s r, σ => by
  show bd (ex G s σ) (fun p => CR p (b0 G (fi r q))) = bd (bd (ex G s σ) fun p => CR p (b0 G r)) fun p => CR p (b0 G q)
  cases ex G s σ with
  | none => rfl
  | some p =>
   obtain ⟨f, τ⟩ := p
   cases f with
   | nx => exact qK
   | _ => rfl
theorem iV {t : Ex} {k' : cT} (h : cW G t σ = some (b, σ1)) (j : cond b (b0 G (fi k q) σ1) (b0 G (fi k' q) σ1) = z) : b0 G (.cons (.ite t k k') q) σ = z := by
 show bd (bd (cW G t σ) fun p => cond p.1 (b0 G k p.2) (b0 G k' p.2)) (fun p => CR p (b0 G q)) = z
 rw [h]
 cases b with
 | true => exact qK.symm.trans j
 | false => exact qK.symm.trans j
theorem vv {t : Ex} {k' r : cT} (h : cW G t σ = some (b, σ1)) (j : cond b (b0 G (fi k (fi q r)) σ1) (b0 G (fi k' (fi q r)) σ1) = z) : b0 G (fi (.cons (.ite t k k') q) r) σ = z := iV h j
theorem rD (h : ex G s σ = some (.nx, σ1)) (j : b0 G (fi k q) σ1 = z) : b0 G (fi (.cons s k) q) σ = z := az h j
theorem vD : b0 G (.cons .brk q) σ = some (.bk, σ) := rfl
theorem vu : b0 G (fi (.cons .brk k) q) σ = some (.bk, σ) := rfl
theorem j5 {t : Ex} (h : fk G.fuel (cW G t) (b0 G k) σ = some (.nx, σ1)) (j : b0 G q σ1 = z) : b0 G (.cons (.mW t k) q) σ = z := az h j
theorem vw (j : b0 G q σ = z) : b0 G (fi .nil q) σ = z := j
theorem vx (h : ev G e σ = some (v, σ1)) : b0 G (fi (.cons (.ret e) k) q) σ = some (.rt v, σ1) := az (az h rfl) rfl
theorem iW (h : ev G e σ = some (v, σ1)) : b0 G (.cons (.ret e) q) σ = some (.rt v, σ1) := az (az h rfl) rfl
theorem l9 (h : ev G e σ = some (v, σ1)) (j : BG v = true) : ex G (.exp e) σ = some (.nx, σ1) := az h (nj j rfl)
theorem cg (h : ev G e σ = some (v, ⟨H1, V1, O1⟩)) : ex G (.asg (.v x) e) σ = some (.nx, ⟨H1, pt V1 x v, O1⟩) := az h rfl
theorem oF (h : ev G e σ = some (v, σ1)) (j : ev G o σ1 = some (.inst c n, ⟨H2, V2, O2⟩)) (l : gq H2 n = some aN) (me : G.ba c a = none) (ca : G.b6 c a = none) : ex G (.asg (.at o a) e) σ = some (.nx, ⟨H2.set n (.dict (pt aN a v)), V2, (aN.length + 1) :: O2⟩) :=
 az h (az (az j (az rfl (az l (nj (by rw [me, ca]; rfl) rfl)))) rfl)
theorem KS {p0 p1 p2 p3 p4 p5 p6 p7 p8 p9 : Nm × AV} {a0 a1 a2 a3 a4 : AO} {J : List AO} (h : ev G e σ = some (v, σ1)) (j : ev G o σ1 = some (.inst c n, ⟨H2, V2, O2⟩)) (l : gq H2 n = some aN) (me : G.ba c a = none) (ca : G.b6 c a = none) (g : pt aN a v = [p0, p1, p2, p3, p4, p5, p6, p7, p8, p9]) (g2 : H2.set n (.dict [p0, p1, p2, p3, p4, p5, p6, p7, p8, p9]) = a0 :: a1 :: a2 :: a3 :: a4 :: J) :
  ex G (.asg (.at o a) e) σ = some (.nx, ⟨a0 :: a1 :: a2 :: a3 :: a4 :: J, V2, (aN.length + 1) :: O2⟩) := g2 ▸ g ▸ oF h j l me ca
theorem vy (h : ev G e σ = some (v, σ1)) (j : ev G o σ1 = some (w, σ2)) (l : ev G i σ2 = some (r, σ3)) {σ' : St} (g : tW w r v σ3 = some σ') : ex G (.asg (.ix o i) e) σ = some (.nx, σ') := az h (az (az j (az l g)) rfl)
theorem rE (h : ev G e σ = some (v, ⟨H1, V1, O1⟩)) : ex G (.qx x e) σ = some (.nx, ⟨H1, pt V1 x v, O1⟩) := az h rfl
theorem oG {ts : List Tg} (h : ev G e σ = some (.tup vs, σ1)) (j : i4 G ts vs σ1 = some σ2) : ex G (.iO ts e) σ = some (.nx, σ2) := az h (az rfl (az j rfl))
theorem rZ : i4 G [] [] σ = some σ := rfl
theorem El {ts : List Tg} {z : Option St} (h : i4 G ts vs ⟨H0, pt V0 x v, O0⟩ = z) : i4 G (.v x :: ts) (v :: vs) ⟨H0, V0, O0⟩ = z := az rfl h
theorem Ib {ts : List Tg} {z : Option St} (j : ev G o σ = some (.inst c n, ⟨H2, V2, O2⟩)) (l : gq H2 n = some aN) (me : G.ba c a = none) (ca : G.b6 c a = none) (h : i4 G ts vs ⟨H2.set n (.dict (pt aN a v)), V2, (aN.length + 1) :: O2⟩ = z) : i4 G (.at o a :: ts) (v :: vs) σ = z :=
 az (az j (az rfl (az l (nj (by rw [me, ca]; rfl) rfl)))) h
theorem Mj {p0 p1 p2 p3 p4 p5 p6 p7 p8 p9 : Nm × AV} {a0 a1 a2 a3 a4 : AO} {J : List AO} {ts : List Tg} {z : Option St} (j : ev G o σ = some (.inst c n, ⟨H2, V2, O2⟩)) (l : gq H2 n = some aN) (me : G.ba c a = none) (ca : G.b6 c a = none) (g : pt aN a v = [p0, p1, p2, p3, p4, p5, p6, p7, p8, p9]) (g2 : H2.set n (.dict [p0, p1, p2, p3, p4, p5, p6, p7, p8, p9]) = a0 :: a1 :: a2 :: a3 :: a4 :: J)
  (h : i4 G ts vs ⟨a0 :: a1 :: a2 :: a3 :: a4 :: J, V2, (aN.length + 1) :: O2⟩ = z) : i4 G (.at o a :: ts) (v :: vs) σ = z := Ib j l me ca (by rw [g, g2]; exact h)
theorem oH {op : oX} {y : AV} {os : List Nat} (h : lk V0 x = some w) (j : ev G e ⟨H0, V0, O0⟩ = some (v, ⟨H1, V1, O1⟩)) (l : ng op w v = some (y, os)) : ex G (.aug (.v x) op e) ⟨H0, V0, O0⟩ = some (.nx, ⟨H1, pt V1 x y, os ++ O1⟩) := az (az h (az j (az l rfl))) rfl
theorem KU {op : oX} {y : AV} {os : List Nat} (j : ev G o σ = some (.inst c n, ⟨H1, V1, O1⟩)) (g : sd G H1 (.inst c n) a = some w) (h : ev G e ⟨H1, V1, O1⟩ = some (v, ⟨H2, V2, O2⟩)) (g2 : ng op w v = some (y, os)) (l : gq H2 n = some aN) (me : G.ba c a = none) (ca : G.b6 c a = none) :
  ex G (.aug (.at o a) op e) σ = some (.nx, ⟨H2.set n (.dict (pt aN a y)), V2, (aN.length + 1) :: (os ++ O2)⟩) := az (az j (az g (az h (az g2 (az rfl (az l (nj (by rw [me, ca]; rfl) rfl))))))) rfl
theorem gv {t : Ex} {k' : cT} (h : cW G t σ = some (b, σ1)) (j : cond b (b0 G k σ1) (b0 G k' σ1) = z) : ex G (.ite t k k') σ = z := az h j
theorem rU {N : Nat} {t : St → Option (Bool × St)} {g : St → Option (Fl × St)} (h : t σ = some (false, σ1)) : fk (N + 1) t g σ = some (.nx, σ1) := az h rfl
theorem D3 {N : Nat} {t : St → Option (Bool × St)} {g : St → Option (Fl × St)} (h : t σ = some (true, σ1)) (j : g σ1 = some (.nx, σ2)) (l : fk N t g σ2 = z) : fk (N + 1) t g σ = z := az h (az j l)
theorem RK {N : Nat} {t : St → Option (Bool × St)} {g : St → Option (Fl × St)} (h : t σ = some (true, σ1)) (j : g σ1 = some (.bk, σ2)) : fk (N + 1) t g σ = some (.nx, σ2) := az h (az j rfl)
theorem DV {p p' : Bool × St} {t : Ex} (h : cW G t σ = some p') (j : p' = p) : cW G t σ = some p := j ▸ h
theorem vz (h : cW G e σ = some (b, σ1)) (j : b = true) : ex G (.xZ e) σ = some (.nx, σ1) := az h (nj j rfl)
theorem vA {op : oX} {y : AV} {os : List Nat} {p0 p1 p2 p3 p4 p5 p6 p7 p8 p9 : Nm × AV} {a0 a1 a2 a3 a4 : AO} {J : List AO} (j : ev G o σ = some (.inst c n, ⟨H1, V1, O1⟩)) (g : sd G H1 (.inst c n) a = some w) (h : ev G e ⟨H1, V1, O1⟩ = some (v, ⟨H2, V2, O2⟩)) (g2 : ng op w v = some (y, os)) (l : gq H2 n = some aN) (me : G.ba c a = none) (ca : G.b6 c a = none) (d : pt aN a y = [p0, p1, p2, p3, p4, p5, p6, p7, p8, p9]) (d2 : H2.set n (.dict [p0, p1, p2, p3, p4, p5, p6, p7, p8, p9]) = a0 :: a1 :: a2 :: a3 :: a4 :: J) :
  ex G (.aug (.at o a) op e) σ = some (.nx, ⟨a0 :: a1 :: a2 :: a3 :: a4 :: J, V2, (aN.length + 1) :: (os ++ O2)⟩) := d2 ▸ d ▸ KU j g h g2 l me ca
theorem vC {ts : List Nm} {t : Bool} (h : ev G e σ = some (v, σ1)) (j : lV v = some vs) (l : jO (gI ts t) (b0 G q) vs σ1 = z) : ex G (.fr ts t e q) σ = z := az h (az j l)
theorem qL {asg : AV → St → Option St} {g : St → Option (Fl × St)} (h : asg v σ = some σ1) (j : g σ1 = some (.nx, σ2)) (l : jO asg g vs σ2 = z) : jO asg g (v :: vs) σ = z := az h (az j l)
theorem bK (h : lk V0 x = some v) : ev G (.v x) ⟨H0, V0, O0⟩ = some (v, ⟨H0, V0, O0⟩) := az h rfl
theorem ka (h : G.glob x = some v) : ev G (.g x) σ = some (v, σ) := az h rfl
theorem uF (h : ev G e σ = some (v, ⟨H1, V1, O1⟩)) (j : sd G H1 v a = some r) : ev G (.at e a) σ = some (r, ⟨H1, V1, O1⟩) := az h (az j rfl)
theorem gK (h : ev G e σ = some (v, σ1)) (j : ev G i σ1 = some (w, ⟨H2, V2, O2⟩)) (l : lW H2 v w = some r) : ev G (.ix e i) σ = some (r, ⟨H2, V2, O2⟩) := az h (az j (az l rfl))
theorem ll (h : ev G e σ = some (v, σ1)) (j : ev G lo σ1 = some (w, σ2)) {w' : AV} (l : ev G hi σ2 = some (w', ⟨H3, V3, O3⟩)) (g : zw H3 v w w' = some r) : ev G (.sl e lo hi) σ = some (r, ⟨H3, V3, O3⟩) := az h (az j (az l (az g rfl)))
theorem eF {op : oX} {y : AV} {os : List Nat} (h : ev G e σ = some (v, σ1)) (j : ev G i σ1 = some (w, ⟨H2, V2, O2⟩)) (l : ng op v w = some (y, os)) : ev G (.bin op e i) σ = some (y, ⟨H2, V2, os ++ O2⟩) := az h (az j (az l rfl))
theorem jk {r : jJ} (h : ev G e σ = some (v, σ1)) (j : sq G v r σ1 = some (b, σ2)) : ev G (.cmp e r) σ = some (.bool b, σ2) := az h (az j rfl)
theorem eP {op : oZ} (h : ev G e σ = some (w, ⟨H1, V1, O1⟩)) (j : jT H1 op v w = some b) : sq G v (.cons op e .nil) σ = some (b, ⟨H1, V1, O1⟩) := az h (az j rfl)
theorem EI {op op' : oZ} {e' : Ex} {cs : jJ} {z : Option (Bool × St)} (h : ev G e σ = some (w, ⟨H1, V1, O1⟩)) (j : jT H1 op v w = some b) (l : cond b (sq G w (.cons op' e' cs) ⟨H1, V1, O1⟩) (some (false, ⟨H1, V1, O1⟩)) = z) : sq G v (.cons op e (.cons op' e' cs)) σ = z := az h (az j l)
theorem AJ (h : ev G e σ = some (v, ⟨H1, V1, O1⟩)) (j : bt H1 v = some b) : ev G (.not e) σ = some (.bool (!b), ⟨H1, V1, O1⟩) := az h (az j rfl)
theorem wH {j : Int} (h : ev G e σ = some (.int j, σ1)) : ev G (.neg e) σ = some (.int (-j), σ1) := az h rfl
theorem nv {t : Ex} {z : Option (AV × St)} (h : cW G t σ = some (b, σ1)) (j : cond b (ev G e σ1) (ev G i σ1) = z) : ev G (.ite t e i) σ = z := az h j
theorem i5 (h : pU G es σ = some (vs, ⟨H1, V1, O1⟩)) : ev G (.tup es) σ = some (.tup vs, ⟨H1, V1, vs.length :: O1⟩) := az h rfl
theorem sL (h : pU G es σ = some (vs, ⟨H1, V1, O1⟩)) : ev G (.lst es true) σ = some (.lst vs, ⟨H1, V1, vs.length :: O1⟩) := az h rfl
theorem sJ (h : pU G es σ = some (vs, ⟨H1, V1, O1⟩)) : ev G (.lst es false) σ = some (.aQ H1.length, ⟨H1 ++ [.list vs], V1, vs.length :: O1⟩) := az h rfl
theorem df {z : Option (AV × St)} (h : ev G f σ = some (v, σ1)) (j : pU G as σ1 = some (vs, σ2)) (l : eE G v vs σ2 = z) : ev G (.call f as) σ = z := az h (az j l)
theorem dE {g : Sum AV (AV × Nm)} {z : Option (AV × St)} (h : ev G o σ = some (v, ⟨H1, V1, O1⟩)) (d : gu G H1 v m = some g) (j : pU G as ⟨H1, V1, O1⟩ = some (vs, σ2)) (l : ip G g vs σ2 = z) : ev G (.aw o m as) σ = z := az h (az d (az j l))
theorem aH (h : ev G e σ = some (v, σ1)) (j : pU G as σ1 = some (vs, σ2)) : pU G (.cons e as) σ = some (v :: vs, σ2) := az h (az j rfl)
theorem lq {g : Fn} (h : G.call g vs H0 = some (r, H', O')) : eE G (.fn g) vs ⟨H0, V0, O0⟩ = some (r, ⟨H', V0, O' ++ O0⟩) := az h rfl
theorem sQ {g : Fn} (h : G.call g (w :: vs) H0 = some (r, H', O')) : eE G (.ba g w) vs ⟨H0, V0, O0⟩ = some (r, ⟨H', V0, O' ++ O0⟩) := az h rfl
theorem nJ {g : Bi} {y : AV} {os : List Nat} (h : Ea H0 g vs = some (y, os)) : eE G (.bi g) vs ⟨H0, V0, O0⟩ = some (y, ⟨H0, V0, os ++ O0⟩) := az h rfl
theorem To (h : G.call (G.init c) (.inst c H0.length :: vs) (H0 ++ [.dict []]) = some (.none, H', O')) : eE G (.cls c) vs ⟨H0, V0, O0⟩ = some (.inst c H0.length, ⟨H', V0, O' ++ O0⟩) := az h rfl
theorem lR {z : Option (AV × St)} (h : eE G v vs σ = z) : ip G (.inl v) vs σ = z := h
theorem pW {l : List Nat} {y : AV} {os : List Nat} (h : js H0 m l vs = some (y, os)) : ip G (.inr (.str l, m)) vs ⟨H0, V0, O0⟩ = some (y, ⟨H0, V0, os ++ O0⟩) := az h rfl
theorem lU {l : List AV} {y : AV} {us : List AV} {os : List Nat} (h : eJ H0 n = some l) (j : FU m l vs = some (y, us, os)) : ip G (.inr (.aQ n, m)) vs ⟨H0, V0, O0⟩ = some (y, ⟨H0.set n (.list us), V0, os ++ O0⟩) := az h (az j rfl)
theorem Cr {H : List AO} (l : hW H n = some aN) (me : G.ba c a = none) (ca : G.b6 c a = none) (h : lk aN a = some v) : sd G H (.inst c n) a = some v := az rfl (az l ((Ad me ca).trans h))
theorem Cq {H : List AO} (l : hW H n = some aN) (h : D9 G aN c n a = some v) : sd G H (.inst c n) a = some v := az rfl (az l h)
theorem oq {H : List AO} {g : Sum AV (AV × Nm)} (l : hW H n = some aN) (h : l0 G aN c n m = some g) : gu G H (.inst c n) m = some g := az l h
theorem Va {H : List AO} (l : hW H n = some aN) (me : G.ba c a = none) (ca : G.b6 c a = some v) (h : lk aN a = none) : sd G H (.inst c n) a = some v := az rfl (az l (Ep me ca h))
theorem Ct {H : List AO} {g : Fn} (l : hW H n = some aN) (me : G.ba c m = some g) (ca : G.b6 c m = none) (h : lk aN m = none) : gu G H (.inst c n) m = some (.inl (.ba g (.inst c n))) := az l (vm me ca h)
theorem Cs {H : List AO} (l : hW H n = some aN) (me : G.ba c m = none) (ca : G.b6 c m = none) (h : lk aN m = some v) : gu G H (.inst c n) m = some (.inl v) := az l (Cy me ca h)
theorem qn {H : List AO} {l : List Nat} {so : SO} (h : i6 m = some so) : gu G H (.str l) m = some (.inr (.str l, m)) := az h rfl
theorem lZ {H : List AO} {l : List AV} {so : LO} (h : kK m = some so) (j : eJ H n = some l) : gu G H (.aQ n) m = some (.inr (.aQ n, m)) := az h (az j rfl)
theorem lI (h : cW G e σ = some (b, σ1)) : cW G (.not e) σ = some (!b, σ1) := az h rfl
theorem cV {r : jJ} {z : Option (Bool × St)} (h : ev G e σ = some (v, σ1)) (j : sq G v r σ1 = z) : cW G (.cmp e r) σ = z := az h j
theorem uc (h : lk V0 x = some v) (j : bt H0 v = some b) : cW G (.v x) ⟨H0, V0, O0⟩ = some (b, ⟨H0, V0, O0⟩) := az h (az j rfl)
theorem Lp (h : G.glob x = some v) (j : bt H0 v = some b) : cW G (.g x) ⟨H0, V0, O0⟩ = some (b, ⟨H0, V0, O0⟩) := az h (az j rfl)
theorem DM (h : ev G e σ = some (v, ⟨H1, V1, O1⟩)) (j : sd G H1 v a = some r) (l : bt H1 r = some b) : cW G (.at e a) σ = some (b, ⟨H1, V1, O1⟩) := az h (az j (az l rfl))
theorem DN (h : ev G e σ = some (v, σ1)) (j : ev G i σ1 = some (w, ⟨H2, V2, O2⟩)) (g : lW H2 v w = some r) (l : bt H2 r = some b) : cW G (.ix e i) σ = some (b, ⟨H2, V2, O2⟩) := az h (az j (az g (az l rfl)))
theorem kZ (h : ev G f σ = some (v, σ1)) (j : pU G as σ1 = some (vs, σ2)) (g : eE G v vs σ2 = some (r, ⟨H3, V3, O3⟩)) (l : bt H3 r = some b) : cW G (.call f as) σ = some (b, ⟨H3, V3, O3⟩) := az h (az j (az g (az l rfl)))
theorem ju {g : Sum AV (AV × Nm)} (h : ev G o σ = some (v, ⟨H1, V1, O1⟩)) (d : gu G H1 v m = some g) (j : pU G as ⟨H1, V1, O1⟩ = some (vs, σ2)) (u : ip G g vs σ2 = some (r, ⟨H3, V3, O3⟩)) (l : bt H3 r = some b) : cW G (.aw o m as) σ = some (b, ⟨H3, V3, O3⟩) := az h (az d (az j (az u (az l rfl))))
theorem gn {z : Option (Bool × St)} (h : uq G es σ = z) : cW G (.and es) σ = z := h
theorem xE {z : Option (Bool × St)} (h : KD G es σ = z) : cW G (.or es) σ = z := h
theorem cY {z : Option (Bool × St)} (h : cW G e σ = some (b, σ1)) (j : cond b (uq G es σ1) (some (false, σ1)) = z) : uq G (.cons e es) σ = z := az h j
theorem or_cons {z : Option (Bool × St)} (h : cW G e σ = some (b, σ1)) (j : cond b (some (true, σ1)) (KD G es σ1) = z) : KD G (.cons e es) σ = z := az h j
theorem run_eq {p p' : Fl × St} (h : b0 G q σ = some p') (j : p' = p) : b0 G q σ = some p := j ▸ h
theorem AQ {p p' : AV × St} (h : ev G e σ = some p') (j : p' = p) : ev G e σ = some p := j ▸ h
theorem j0 {d : fG} {H : List AO} {V V' : List (Nm × AV)} (h : jM d.ps d.ds vs = some V) (j : b0 G d.ir ⟨H, V, []⟩ = some (fl, ⟨H', V', O'⟩)) (l : ky fl = some r) : jL G d vs H = some (r, H', O') := az h (az j (az l rfl))
end
noncomputable def fa : Fn → Addr
 | .iN => 42
 | .gF => 84
 | .mU => 63
 | .hU => 70
 | .xt => 98
 | .rG => 105
 | .xu => 112
 | .iH => 119
 | .kY => 126
 | .gS => 133
 | .hK => 141
 | .iG => 148
 | .oO => 156
 | .oN => 163
 | .t9 => 261
 | .jt => 268
 | .xD => 297
 | .bl => 304
 | .jR => 318
 | .fj => 332
 | .cu => 346
 | .i8 => 374
 | .i7 => 381
 | .b8 => 388
 | .gk => 395
 | .gj => 402
 | .bx => 409
 | .iX => 535
 | .tAN => 542
 | .tAAN => 549
 | .zG => 556
 | .tADQ => 563
 | .tASQ => 570
 | .zF => 577
 | .tAAV => 584
 | .zP => 591
 | .tEnt => 311
 | .tCRR => 325
 | .ua => 353
 | .tS => 339
 | .tSLt => 416
 | .tSEO => 423
 | .tSEN => 430
 | .tSES => 437
 | .tSESD => 444
 | .tSE => 451
 | .tSED => 458
 | .tSEDD => 465
 | .tSELt => 472
 | .tSEEO => 479
 | .tSEEN => 486
 | .tSDES => 493
 | .tSDE => 500
 | .tSDED => 507
 | .DK => 514
 | .DL => 521
 | .tSDEE => 528
 | .ly => 797
 | .n7 => 804
 | .fF => 811
 | .qk => 818
 | .ql => 825
 | .tF => 832
 | .law => 837
 | .xq => 290
 | _ => 42
noncomputable def ca : Cl → Addr
 | .txt => 73
 | .ak => 166
 | .tok => 762
noncomputable def SS (w : World) : aP := { prog := uj, w := w, K := KK w.params, fa := fa, ca := ca }
noncomputable def pz : List Nm := [.af]
noncomputable def pw : cG := [(.af, .loc)]
noncomputable def pv : cT := (.cons (.ret (.aw (.c (.str [])) .f5 (.cons (.comp [(.n4, .loc), (.lX, .cI), (.gM, .cI)] (.ite (.cmp (.c (.str [65])) (.cons .le (.v .n4) (.cons .le (.c (.str [90])) .nil))) (.call (.g .lX) (.cons (.bin .add (.call (.g .gM) (.cons (.v .n4) .nil)) (.c (.int 32))) .nil)) (.v .n4)) [.n4] (.v .af) .nil) .nil))) .nil)
noncomputable def vr : List Nm := [.aa, .af]
noncomputable def ve : cG := [(.aa, .loc), (.af, .loc)]
noncomputable def u6 : cT := (.cons (.asg (.at (.v .aa) .af) (.v .af)) (.cons (.asg (.at (.v .aa) .ae) (.c (.int 0))) .nil))
noncomputable def vt : List Nm := [.aa, .qY]
noncomputable def vf : cG := [(.aa, .loc), (.qY, .loc), (.qX, .loc), (.bw, .cI)]
noncomputable def jX : cT := (.cons (.asg (.v .qX) (.sl (.at (.v .aa) .af) (.at (.v .aa) .ae) (.bin .add (.at (.v .aa) .ae) (.v .qY)))) (.cons (.aug (.at (.v .aa) .ae) .add (.call (.g .bw) (.cons (.v .qX) .nil))) (.cons (.ret (.v .qX)) .nil)))
noncomputable def rC : List Nm := [.c0]
noncomputable def qZ : cG := [(.c0, .loc)]
noncomputable def qS : cT := (.cons (.ret (.or (.cons (.cmp (.c (.int 1)) (.cons .le (.v .c0) (.cons .le (.c (.int 8)) .nil))) (.cons (.cmp (.v .c0) (.cons .eq (.c (.int 11)) .nil)) (.cons (.cmp (.c (.int 14)) (.cons .le (.v .c0) (.cons .le (.c (.int 31)) .nil))) (.cons (.cmp (.c (.int 127)) (.cons .le (.v .c0) (.cons .le (.c (.int 159)) .nil))) (.cons (.cmp (.c (.int 64976)) (.cons .le (.v .c0) (.cons .le (.c (.int 65007)) .nil))) (.cons (.cmp (.bin .mod (.v .c0) (.c (.int 65536))) (.cons .isin (.tup (.cons (.c (.int 65534)) (.cons (.c (.int 65535)) .nil))) .nil)) (.cons (.cmp (.c (.int 55296)) (.cons .le (.v .c0) (.cons .le (.c (.int 57343)) .nil))) .nil))))))))) .nil)
noncomputable def C7 : List Nm := [.aa, .fT]
noncomputable def B0 : cG := [(.aa, .loc), (.fT, .loc)]
noncomputable def tc : cT := (.cons (.asg (.at (.v .aa) .aT) (.at (.v .aa) .fB)) (.cons (.asg (.at (.v .aa) .dK) (.lst (.cons (.c (.int 0)) .nil) true)) (.cons (.asg (.at (.v .aa) .cn) (.aw (.v .aa) .kI (.cons (.v .fT) .nil))) (.cons (.exp (.aw (.v .aa) .w8 .nil)) .nil))))
noncomputable def zl : List Nm := [.aa]
noncomputable def yV : cG := [(.aa, .loc)]
noncomputable def yL : cT := (.cons (.asg (.at (.v .aa) .a9) (.c (.str []))) (.cons (.asg (.at (.v .aa) .aC) (.c (.int 0))) (.cons (.asg (.at (.v .aa) .ar) (.c (.int 0))) (.cons (.asg (.at (.v .aa) .dA) (.lst .nil true)) (.cons (.asg (.at (.v .aa) .bg) (.c (.int 0))) (.cons (.asg (.at (.v .aa) .bq) (.c (.int 0))) (.cons (.asg (.at (.v .aa) .aR) (.c .none)) .nil)))))))
noncomputable def C8 : List Nm := [.aa, .fT]
noncomputable def B1 : cG := [(.aa, .loc), (.fT, .loc), (.aE, .loc), (.vc, .cI)]
noncomputable def Bv : cT := (.cons (.asg (.v .aE) (.call (.g .vc) (.cons (.v .fT) .nil))) (.cons (.ret (.v .aE)) .nil))
noncomputable def C9 : List Nm := [.aa, .fN]
noncomputable def B2 : cG := [(.aa, .loc), (.fN, .loc), (.a9, .loc), (.n5, .loc), (.gN, .loc), (.fH, .loc), (.dT, .loc)]
noncomputable def jn : cT := (.cons (.asg (.v .a9) (.at (.v .aa) .a9)) (.cons (.asg (.v .n5) (.aw (.v .a9) .mJ (.cons (.c (.str [10])) (.cons (.c (.int 0)) (.cons (.v .fN) .nil))))) (.cons (.asg (.v .gN) (.bin .add (.at (.v .aa) .bg) (.v .n5))) (.cons (.asg (.v .fH) (.aw (.v .a9) .mM (.cons (.c (.str [10])) (.cons (.c (.int 0)) (.cons (.v .fN) .nil))))) (.cons (.ite (.cmp (.v .fH) (.cons .eq (.neg (.c (.int 1))) .nil)) (.cons (.asg (.v .dT) (.bin .add (.at (.v .aa) .bq) (.v .fN))) .nil) (.cons (.asg (.v .dT) (.bin .sub (.v .fN) (.bin .add (.v .fH) (.c (.int 1))))) .nil)) (.cons (.ret (.tup (.cons (.v .gN) (.cons (.v .dT) .nil)))) .nil))))))
noncomputable def Gq : List Nm := [.aa]
noncomputable def FF : cG := [(.aa, .loc), (.cU, .loc), (.w6, .loc)]
noncomputable def qT : cT := (.cons (.iO [(.v .cU), (.v .w6)] (.aw (.v .aa) .fM (.cons (.at (.v .aa) .ar) .nil))) (.cons (.ret (.tup (.cons (.bin .add (.v .cU) (.c (.int 1))) (.cons (.v .w6) .nil)))) .nil))
noncomputable def C5 : List Nm := [.aa]
noncomputable def BY : cG := [(.aa, .loc), (.dh, .cI), (.ar, .loc), (.bN, .loc)]
noncomputable def eT : cT := (.cons (.ite (.cmp (.at (.v .aa) .ar) (.cons .ge (.at (.v .aa) .aC) .nil)) (.cons (.ite (.not (.aw (.v .aa) .fQ .nil)) (.cons (.ret (.g .dh)) .nil) .nil) .nil) .nil) (.cons (.asg (.v .ar) (.at (.v .aa) .ar)) (.cons (.asg (.v .bN) (.ix (.at (.v .aa) .a9) (.v .ar))) (.cons (.asg (.at (.v .aa) .ar) (.bin .add (.v .ar) (.c (.int 1)))) (.cons (.ret (.v .bN)) .nil)))))
noncomputable def Dc : List Nm := [.aa, .aC]
noncomputable def B3 : cG := [(.aa, .loc), (.aC, .loc), (.ag, .loc), (.bw, .cI), (.kH, .loc), (.gM, .cI)]
noncomputable def eU : cT := (.cons (.ite (.cmp (.v .aC) (.cons .is (.c .none) .nil)) (.cons (.asg (.v .aC) (.at (.v .aa) .gr)) .nil) .nil) (.cons (.iO [(.at (.v .aa) .bg), (.at (.v .aa) .bq)] (.aw (.v .aa) .fM (.cons (.at (.v .aa) .aC) .nil))) (.cons (.asg (.at (.v .aa) .a9) (.c (.str []))) (.cons (.asg (.at (.v .aa) .aC) (.c (.int 0))) (.cons (.asg (.at (.v .aa) .ar) (.c (.int 0))) (.cons (.asg (.v .ag) (.aw (.at (.v .aa) .cn) .BQ (.cons (.v .aC) .nil))) (.cons (.ite (.at (.v .aa) .aR) (.cons (.asg (.v .ag) (.bin .add (.at (.v .aa) .aR) (.v .ag))) (.cons (.asg (.at (.v .aa) .aR) (.c .none)) .nil)) (.cons (.ite (.not (.v .ag)) (.cons (.ret (.c (.bool false))) .nil) .nil) .nil)) (.cons (.ite (.cmp (.call (.g .bw) (.cons (.v .ag) .nil)) (.cons .gt (.c (.int 1)) .nil)) (.cons (.asg (.v .kH) (.call (.g .gM) (.cons (.ix (.v .ag) (.neg (.c (.int 1)))) .nil))) (.cons (.ite (.or (.cons (.cmp (.v .kH) (.cons .eq (.c (.int 13)) .nil)) (.cons (.cmp (.c (.int 55296)) (.cons .le (.v .kH) (.cons .le (.c (.int 56319)) .nil))) .nil))) (.cons (.asg (.at (.v .aa) .aR) (.ix (.v .ag) (.neg (.c (.int 1))))) (.cons (.asg (.v .ag) (.sl (.v .ag) .no (.neg (.c (.int 1))))) .nil)) .nil) .nil)) .nil) (.cons (.ite (.at (.v .aa) .aT) (.cons (.exp (.aw (.v .aa) .aT (.cons (.v .ag) .nil))) .nil) .nil) (.cons (.asg (.v .ag) (.aw (.v .ag) .iE (.cons (.c (.str [13,10])) (.cons (.c (.str [10])) .nil)))) (.cons (.asg (.v .ag) (.aw (.v .ag) .iE (.cons (.c (.str [13])) (.cons (.c (.str [10])) .nil)))) (.cons (.asg (.at (.v .aa) .a9) (.v .ag)) (.cons (.asg (.at (.v .aa) .aC) (.call (.g .bw) (.cons (.v .ag) .nil))) (.cons (.ret (.c (.bool true))) .nil))))))))))))))
noncomputable def C6 : List Nm := [.aa, .ag]
noncomputable def BZ : cG := [(.aa, .loc), (.ag, .loc), (.n4, .loc), (.d6, .cI), (.gM, .cI)]
noncomputable def nU : cT := (.cons (.fr [.n4] false (.v .ag) (.cons (.ite (.call (.g .d6) (.cons (.call (.g .gM) (.cons (.v .n4) .nil)) .nil)) (.cons (.exp (.aw (.at (.v .aa) .dA) .aA (.cons (.c (.str [105,110,118,97,108,105,100,45,99,111,100,101,112,111,105,110,116])) .nil))) .nil) .nil) .nil)) .nil)
noncomputable def jC : List Nm := [.aa, .bY, .cK]
noncomputable def yX : cG := [(.aa, .loc), (.bY, .loc), (.cK, .loc), (.d9, .loc), (.a5, .loc), (.LR, .loc)]
noncomputable def lu : cT := (.cons (.asg (.v .d9) (.lst .nil false)) (.cons (.mW (.c (.bool true)) (.cons (.asg (.v .a5) (.at (.v .aa) .ar)) (.cons (.mW (.and (.cons (.cmp (.v .a5) (.cons .ne (.at (.v .aa) .aC) .nil)) (.cons (.cmp (.cmp (.ix (.at (.v .aa) .a9) (.v .a5)) (.cons .isin (.v .bY) .nil)) (.cons .eq (.v .cK) .nil)) .nil))) (.cons (.aug (.v .a5) .add (.c (.int 1))) .nil)) (.cons (.ite (.cmp (.v .a5) (.cons .eq (.at (.v .aa) .ar) .nil)) (.cons (.ite (.cmp (.at (.v .aa) .ar) (.cons .ne (.at (.v .aa) .aC) .nil)) (.cons .brk .nil) .nil) .nil) (.cons (.ite (.cmp (.v .a5) (.cons .ne (.at (.v .aa) .aC) .nil)) (.cons (.exp (.aw (.v .d9) .aA (.cons (.sl (.at (.v .aa) .a9) (.at (.v .aa) .ar) (.v .a5)) .nil))) (.cons (.asg (.at (.v .aa) .ar) (.v .a5)) (.cons .brk .nil))) .nil) .nil)) (.cons (.exp (.aw (.v .d9) .aA (.cons (.sl (.at (.v .aa) .a9) (.at (.v .aa) .ar) .no) .nil))) (.cons (.ite (.not (.aw (.v .aa) .fQ .nil)) (.cons .brk .nil) .nil) .nil)))))) (.cons (.asg (.v .LR) (.aw (.c (.str [])) .f5 (.cons (.v .d9) .nil))) (.cons (.ret (.v .LR)) .nil))))
noncomputable def zm : List Nm := [.aa, .bN]
noncomputable def yW : cG := [(.aa, .loc), (.bN, .loc), (.dh, .cI)]
noncomputable def lr : cT := (.cons (.ite (.cmp (.v .bN) (.cons .isn (.g .dh) .nil)) (.cons (.ite (.cmp (.at (.v .aa) .ar) (.cons .eq (.c (.int 0)) .nil)) (.cons (.asg (.at (.v .aa) .a9) (.bin .add (.v .bN) (.at (.v .aa) .a9))) (.cons (.aug (.at (.v .aa) .aC) .add (.c (.int 1))) .nil)) (.cons (.aug (.at (.v .aa) .ar) .sub (.c (.int 1))) (.cons (.xZ (.cmp (.ix (.at (.v .aa) .a9) (.at (.v .aa) .ar)) (.cons .eq (.v .bN) .nil))) .nil))) .nil) .nil) .nil)
noncomputable def Df : List Nm := [.aa, .aE, .fP]
noncomputable def B6 : cG := [(.aa, .loc), (.aE, .loc), (.fP, .loc), (.c4, .cI)]
noncomputable def By : cT := (.cons (.asg (.at (.v .aa) .aE) (.call (.g .c4) (.cons (.v .aE) .nil))) (.cons (.asg (.at (.v .aa) .fP) (.v .fP)) (.cons (.asg (.at (.v .aa) .e7) (.c (.bool false))) (.cons (.asg (.at (.v .aa) .dC) (.lst .nil true)) (.cons (.asg (.at (.v .aa) .aI) (.at (.v .aa) .cw)) (.cons (.asg (.at (.v .aa) .jo) (.c (.bool false))) (.cons (.asg (.at (.v .aa) .ay) (.c .none)) .nil)))))))
noncomputable def Dg : List Nm := [.aa]
noncomputable def tE : cG := [(.aa, .loc)]
noncomputable def Bz : cT := (.cons (.asg (.at (.v .aa) .au) (.lst .nil false)) (.cons (.mW (.aw (.v .aa) .aI .nil) (.cons (.mW (.at (.at (.v .aa) .aE) .dA) (.cons .bad .nil)) (.cons (.mW (.at (.v .aa) .au) (.cons .bad .nil)) .nil))) .nil))
noncomputable def De : List Nm := [.aa]
noncomputable def B5 : cG := [(.aa, .loc), (.aM, .loc), (.gb, .cI), (.eY, .cI), (.ah, .cI), (.w7, .loc), (.ag, .loc), (.BO, .cI), (.bw, .cI)]
noncomputable def Bx : cT := (.cons (.asg (.v .aM) (.at (.v .aa) .ay)) (.cons (.ite (.cmp (.ix (.v .aM) (.c (.str [116,121,112,101]))) (.cons .isin (.g .gb) .nil)) (.cons (.asg (.ix (.v .aM) (.c (.str [110,97,109,101]))) (.call (.g .eY) (.cons (.ix (.v .aM) (.c (.str [110,97,109,101]))) .nil))) (.cons (.ite (.cmp (.ix (.v .aM) (.c (.str [116,121,112,101]))) (.cons .eq (.ix (.g .ah) (.c (.str [83,116,97,114,116,84,97,103]))) .nil)) (.cons (.asg (.v .w7) (.ix (.v .aM) (.c (.str [100,97,116,97])))) (.cons (.asg (.v .ag) (.call (.g .BO) (.cons (.v .w7) .nil))) (.cons (.ite (.cmp (.call (.g .bw) (.cons (.v .w7) .nil)) (.cons .gt (.call (.g .bw) (.cons (.v .ag) .nil)) .nil)) (.cons .bad .nil) .nil) (.cons (.asg (.ix (.v .aM) (.c (.str [100,97,116,97]))) (.v .ag)) .nil)))) .nil) (.cons (.ite (.cmp (.ix (.v .aM) (.c (.str [116,121,112,101]))) (.cons .eq (.ix (.g .ah) (.c (.str [69,110,100,84,97,103]))) .nil)) (.cons (.ite (.ix (.v .aM) (.c (.str [100,97,116,97]))) (.cons (.exp (.aw (.at (.v .aa) .au) .aA (.cons (.cH (.cons .aV (.ix (.g .ah) (.c (.str [80,97,114,115,101,69,114,114,111,114]))) (.cons .ag (.c (.str [97,116,116,114,105,98,117,116,101,115,45,105,110,45,101,110,100,45,116,97,103])) .nil)) true) .nil))) .nil) .nil) (.cons (.ite (.ix (.v .aM) (.c (.str [115,101,108,102,67,108,111,115,105,110,103]))) (.cons (.exp (.aw (.at (.v .aa) .au) .aA (.cons (.cH (.cons .aV (.ix (.g .ah) (.c (.str [80,97,114,115,101,69,114,114,111,114]))) (.cons .ag (.c (.str [115,101,108,102,45,99,108,111,115,105,110,103,45,102,108,97,103,45,111,110,45,101,110,100,45,116,97,103])) .nil)) true) .nil))) .nil) .nil) .nil)) .nil) .nil))) .nil) (.cons (.exp (.aw (.at (.v .aa) .au) .aA (.cons (.v .aM) .nil))) (.cons (.asg (.at (.v .aa) .aI) (.at (.v .aa) .cw)) .nil))))
noncomputable def Dd : List Nm := [.aa]
noncomputable def B4 : cG := [(.aa, .loc), (.ag, .loc), (.ah, .cI), (.dh, .cI), (.aF, .cI), (.gB, .loc)]
noncomputable def Bw : cT := (.cons (.asg (.v .ag) (.aw (.at (.v .aa) .aE) .bN .nil)) (.cons (.ite (.cmp (.v .ag) (.cons .eq (.c (.str [38])) .nil)) (.cons (.asg (.at (.v .aa) .aI) (.at (.v .aa) .g0)) .nil) (.cons (.ite (.cmp (.v .ag) (.cons .eq (.c (.str [60])) .nil)) (.cons (.asg (.at (.v .aa) .aI) (.at (.v .aa) .jq)) .nil) (.cons (.ite (.cmp (.v .ag) (.cons .eq (.c (.str [0])) .nil)) (.cons (.exp (.aw (.at (.v .aa) .au) .aA (.cons (.cH (.cons .aV (.ix (.g .ah) (.c (.str [80,97,114,115,101,69,114,114,111,114]))) (.cons .ag (.c (.str [105,110,118,97,108,105,100,45,99,111,100,101,112,111,105,110,116])) .nil)) true) .nil))) (.cons (.exp (.aw (.at (.v .aa) .au) .aA (.cons (.cH (.cons .aV (.ix (.g .ah) (.c (.str [67,104,97,114,97,99,116,101,114,115]))) (.cons .ag (.c (.str [0])) .nil)) true) .nil))) .nil)) (.cons (.ite (.cmp (.v .ag) (.cons .is (.g .dh) .nil)) (.cons (.ret (.c (.bool false))) .nil) (.cons (.ite (.cmp (.v .ag) (.cons .isin (.g .aF) .nil)) (.cons (.exp (.aw (.at (.v .aa) .au) .aA (.cons (.cH (.cons .aV (.ix (.g .ah) (.c (.str [83,112,97,99,101,67,104,97,114,97,99,116,101,114,115]))) (.cons .ag (.bin .add (.v .ag) (.aw (.at (.v .aa) .aE) .bZ (.cons (.g .aF) (.cons (.c (.bool true)) .nil)))) .nil)) true) .nil))) .nil) (.cons (.asg (.v .gB) (.aw (.at (.v .aa) .aE) .bZ (.cons (.tup (.cons (.c (.str [38])) (.cons (.c (.str [60])) (.cons (.c (.str [0])) .nil)))) .nil))) (.cons (.exp (.aw (.at (.v .aa) .au) .aA (.cons (.cH (.cons .aV (.ix (.g .ah) (.c (.str [67,104,97,114,97,99,116,101,114,115]))) (.cons .ag (.bin .add (.v .ag) (.v .gB)) .nil)) true) .nil))) .nil))) .nil)) .nil)) .nil)) .nil)) (.cons (.ret (.c (.bool true))) .nil)))
noncomputable def KO : List Nm := [.aa]
noncomputable def JE : cG := [(.aa, .loc), (.ag, .loc), (.dh, .cI), (.ah, .cI), (.aF, .cI), (.gB, .loc)]
noncomputable def BA : cT := (.cons (.asg (.v .ag) (.aw (.at (.v .aa) .aE) .bN .nil)) (.cons (.ite (.cmp (.v .ag) (.cons .eq (.c (.str [38])) .nil)) (.cons (.asg (.at (.v .aa) .aI) (.at (.v .aa) .dz)) .nil) (.cons (.ite (.cmp (.v .ag) (.cons .eq (.c (.str [60])) .nil)) (.cons (.asg (.at (.v .aa) .aI) (.at (.v .aa) .dX)) .nil) (.cons (.ite (.cmp (.v .ag) (.cons .eq (.g .dh) .nil)) (.cons (.ret (.c (.bool false))) .nil) (.cons (.ite (.cmp (.v .ag) (.cons .eq (.c (.str [0])) .nil)) (.cons (.exp (.aw (.at (.v .aa) .au) .aA (.cons (.cH (.cons .aV (.ix (.g .ah) (.c (.str [80,97,114,115,101,69,114,114,111,114]))) (.cons .ag (.c (.str [105,110,118,97,108,105,100,45,99,111,100,101,112,111,105,110,116])) .nil)) true) .nil))) (.cons (.exp (.aw (.at (.v .aa) .au) .aA (.cons (.cH (.cons .aV (.ix (.g .ah) (.c (.str [67,104,97,114,97,99,116,101,114,115]))) (.cons .ag (.c (.str [65533])) .nil)) true) .nil))) .nil)) (.cons (.ite (.cmp (.v .ag) (.cons .isin (.g .aF) .nil)) (.cons (.exp (.aw (.at (.v .aa) .au) .aA (.cons (.cH (.cons .aV (.ix (.g .ah) (.c (.str [83,112,97,99,101,67,104,97,114,97,99,116,101,114,115]))) (.cons .ag (.bin .add (.v .ag) (.aw (.at (.v .aa) .aE) .bZ (.cons (.g .aF) (.cons (.c (.bool true)) .nil)))) .nil)) true) .nil))) .nil) (.cons (.asg (.v .gB) (.aw (.at (.v .aa) .aE) .bZ (.cons (.tup (.cons (.c (.str [38])) (.cons (.c (.str [60])) (.cons (.c (.str [0])) .nil)))) .nil))) (.cons (.exp (.aw (.at (.v .aa) .au) .aA (.cons (.cH (.cons .aV (.ix (.g .ah) (.c (.str [67,104,97,114,97,99,116,101,114,115]))) (.cons .ag (.bin .add (.v .ag) (.v .gB)) .nil)) true) .nil))) .nil))) .nil)) .nil)) .nil)) .nil)) (.cons (.ret (.c (.bool true))) .nil)))
noncomputable def Gv : List Nm := [.aa]
noncomputable def FJ : cG := [(.aa, .loc), (.ag, .loc), (.ah, .cI), (.dh, .cI), (.gB, .loc)]
noncomputable def wW : cT := (.cons (.asg (.v .ag) (.aw (.at (.v .aa) .aE) .bN .nil)) (.cons (.ite (.cmp (.v .ag) (.cons .eq (.c (.str [60])) .nil)) (.cons (.asg (.at (.v .aa) .aI) (.at (.v .aa) .dN)) .nil) (.cons (.ite (.cmp (.v .ag) (.cons .eq (.c (.str [0])) .nil)) (.cons (.exp (.aw (.at (.v .aa) .au) .aA (.cons (.cH (.cons .aV (.ix (.g .ah) (.c (.str [80,97,114,115,101,69,114,114,111,114]))) (.cons .ag (.c (.str [105,110,118,97,108,105,100,45,99,111,100,101,112,111,105,110,116])) .nil)) true) .nil))) (.cons (.exp (.aw (.at (.v .aa) .au) .aA (.cons (.cH (.cons .aV (.ix (.g .ah) (.c (.str [67,104,97,114,97,99,116,101,114,115]))) (.cons .ag (.c (.str [65533])) .nil)) true) .nil))) .nil)) (.cons (.ite (.cmp (.v .ag) (.cons .eq (.g .dh) .nil)) (.cons (.ret (.c (.bool false))) .nil) (.cons (.asg (.v .gB) (.aw (.at (.v .aa) .aE) .bZ (.cons (.tup (.cons (.c (.str [60])) (.cons (.c (.str [0])) .nil))) .nil))) (.cons (.exp (.aw (.at (.v .aa) .au) .aA (.cons (.cH (.cons .aV (.ix (.g .ah) (.c (.str [67,104,97,114,97,99,116,101,114,115]))) (.cons .ag (.bin .add (.v .ag) (.v .gB)) .nil)) true) .nil))) .nil))) .nil)) .nil)) (.cons (.ret (.c (.bool true))) .nil)))
noncomputable def zo : List Nm := [.aa]
noncomputable def yY : cG := [(.aa, .loc), (.ag, .loc), (.dh, .cI), (.ah, .cI)]
noncomputable def qg : cT := (.cons (.asg (.v .ag) (.aw (.at (.v .aa) .aE) .bN .nil)) (.cons (.ite (.cmp (.v .ag) (.cons .eq (.g .dh) .nil)) (.cons (.ret (.c (.bool false))) .nil) (.cons (.ite (.cmp (.v .ag) (.cons .eq (.c (.str [0])) .nil)) (.cons (.exp (.aw (.at (.v .aa) .au) .aA (.cons (.cH (.cons .aV (.ix (.g .ah) (.c (.str [80,97,114,115,101,69,114,114,111,114]))) (.cons .ag (.c (.str [105,110,118,97,108,105,100,45,99,111,100,101,112,111,105,110,116])) .nil)) true) .nil))) (.cons (.exp (.aw (.at (.v .aa) .au) .aA (.cons (.cH (.cons .aV (.ix (.g .ah) (.c (.str [67,104,97,114,97,99,116,101,114,115]))) (.cons .ag (.c (.str [65533])) .nil)) true) .nil))) .nil)) (.cons (.exp (.aw (.at (.v .aa) .au) .aA (.cons (.cH (.cons .aV (.ix (.g .ah) (.c (.str [67,104,97,114,97,99,116,101,114,115]))) (.cons .ag (.bin .add (.v .ag) (.aw (.at (.v .aa) .aE) .bZ (.cons (.c (.str [0])) .nil))) .nil)) true) .nil))) .nil)) .nil)) (.cons (.ret (.c (.bool true))) .nil)))
noncomputable def Dj : List Nm := [.aa]
noncomputable def B9 : cG := [(.aa, .loc), (.ag, .loc), (.ah, .cI)]
noncomputable def BC : cT := (.cons (.asg (.v .ag) (.aw (.at (.v .aa) .aE) .bN .nil)) (.cons (.ite (.cmp (.v .ag) (.cons .eq (.c (.str [47])) .nil)) (.cons (.asg (.at (.v .aa) .aO) (.c (.str []))) (.cons (.asg (.at (.v .aa) .aI) (.at (.v .aa) .eI)) .nil)) (.cons (.exp (.aw (.at (.v .aa) .au) .aA (.cons (.cH (.cons .aV (.ix (.g .ah) (.c (.str [67,104,97,114,97,99,116,101,114,115]))) (.cons .ag (.c (.str [60])) .nil)) true) .nil))) (.cons (.exp (.aw (.at (.v .aa) .aE) .fI (.cons (.v .ag) .nil))) (.cons (.asg (.at (.v .aa) .aI) (.at (.v .aa) .c6)) .nil)))) (.cons (.ret (.c (.bool true))) .nil)))
noncomputable def Di : List Nm := [.aa]
noncomputable def B8 : cG := [(.aa, .loc), (.ag, .loc), (.bf, .cI), (.ah, .cI)]
noncomputable def BB : cT := (.cons (.asg (.v .ag) (.aw (.at (.v .aa) .aE) .bN .nil)) (.cons (.ite (.cmp (.v .ag) (.cons .isin (.g .bf) .nil)) (.cons (.aug (.at (.v .aa) .aO) .add (.v .ag)) (.cons (.asg (.at (.v .aa) .aI) (.at (.v .aa) .eH)) .nil)) (.cons (.exp (.aw (.at (.v .aa) .au) .aA (.cons (.cH (.cons .aV (.ix (.g .ah) (.c (.str [67,104,97,114,97,99,116,101,114,115]))) (.cons .ag (.c (.str [60,47])) .nil)) true) .nil))) (.cons (.exp (.aw (.at (.v .aa) .aE) .fI (.cons (.v .ag) .nil))) (.cons (.asg (.at (.v .aa) .aI) (.at (.v .aa) .c6)) .nil)))) (.cons (.ret (.c (.bool true))) .nil)))
noncomputable def Dh : List Nm := [.aa]
noncomputable def B7 : cG := [(.aa, .loc), (.bM, .loc), (.ag, .loc), (.aF, .cI), (.ah, .cI), (.bf, .cI)]
noncomputable def dg : cT := (.cons (.asg (.v .bM) (.and (.cons (.at (.v .aa) .ay) (.cons (.cmp (.aw (.ix (.at (.v .aa) .ay) (.c (.str [110,97,109,101]))) .g6 .nil) (.cons .eq (.aw (.at (.v .aa) .aO) .g6 .nil) .nil)) .nil)))) (.cons (.asg (.v .ag) (.aw (.at (.v .aa) .aE) .bN .nil)) (.cons (.ite (.and (.cons (.cmp (.v .ag) (.cons .isin (.g .aF) .nil)) (.cons (.v .bM) .nil))) (.cons (.asg (.at (.v .aa) .ay) (.cH (.cons .aV (.ix (.g .ah) (.c (.str [69,110,100,84,97,103]))) (.cons .aK (.at (.v .aa) .aO) (.cons .ag (.lst .nil false) (.cons .br (.c (.bool false)) .nil)))) false)) (.cons (.asg (.at (.v .aa) .aI) (.at (.v .aa) .bD)) .nil)) (.cons (.ite (.and (.cons (.cmp (.v .ag) (.cons .eq (.c (.str [47])) .nil)) (.cons (.v .bM) .nil))) (.cons (.asg (.at (.v .aa) .ay) (.cH (.cons .aV (.ix (.g .ah) (.c (.str [69,110,100,84,97,103]))) (.cons .aK (.at (.v .aa) .aO) (.cons .ag (.lst .nil false) (.cons .br (.c (.bool false)) .nil)))) false)) (.cons (.asg (.at (.v .aa) .aI) (.at (.v .aa) .bF)) .nil)) (.cons (.ite (.and (.cons (.cmp (.v .ag) (.cons .eq (.c (.str [62])) .nil)) (.cons (.v .bM) .nil))) (.cons (.asg (.at (.v .aa) .ay) (.cH (.cons .aV (.ix (.g .ah) (.c (.str [69,110,100,84,97,103]))) (.cons .aK (.at (.v .aa) .aO) (.cons .ag (.lst .nil false) (.cons .br (.c (.bool false)) .nil)))) false)) (.cons (.exp (.aw (.v .aa) .bE .nil)) (.cons (.asg (.at (.v .aa) .aI) (.at (.v .aa) .cw)) .nil))) (.cons (.ite (.cmp (.v .ag) (.cons .isin (.g .bf) .nil)) (.cons (.aug (.at (.v .aa) .aO) .add (.v .ag)) .nil) (.cons (.exp (.aw (.at (.v .aa) .au) .aA (.cons (.cH (.cons .aV (.ix (.g .ah) (.c (.str [67,104,97,114,97,99,116,101,114,115]))) (.cons .ag (.bin .add (.c (.str [60,47])) (.at (.v .aa) .aO)) .nil)) true) .nil))) (.cons (.exp (.aw (.at (.v .aa) .aE) .fI (.cons (.v .ag) .nil))) (.cons (.asg (.at (.v .aa) .aI) (.at (.v .aa) .c6)) .nil)))) .nil)) .nil)) .nil)) (.cons (.ret (.c (.bool true))) .nil))))
noncomputable def zt : List Nm := [.aa]
noncomputable def y3 : cG := [(.aa, .loc), (.ag, .loc), (.ah, .cI)]
noncomputable def yN : cT := (.cons (.asg (.v .ag) (.aw (.at (.v .aa) .aE) .bN .nil)) (.cons (.ite (.cmp (.v .ag) (.cons .eq (.c (.str [47])) .nil)) (.cons (.asg (.at (.v .aa) .aO) (.c (.str []))) (.cons (.asg (.at (.v .aa) .aI) (.at (.v .aa) .d8)) .nil)) (.cons (.exp (.aw (.at (.v .aa) .au) .aA (.cons (.cH (.cons .aV (.ix (.g .ah) (.c (.str [67,104,97,114,97,99,116,101,114,115]))) (.cons .ag (.c (.str [60])) .nil)) true) .nil))) (.cons (.exp (.aw (.at (.v .aa) .aE) .fI (.cons (.v .ag) .nil))) (.cons (.asg (.at (.v .aa) .aI) (.at (.v .aa) .cL)) .nil)))) (.cons (.ret (.c (.bool true))) .nil)))
noncomputable def zr : List Nm := [.aa]
noncomputable def y0 : cG := [(.aa, .loc), (.ag, .loc), (.bf, .cI), (.ah, .cI)]
noncomputable def yM : cT := (.cons (.asg (.v .ag) (.aw (.at (.v .aa) .aE) .bN .nil)) (.cons (.ite (.cmp (.v .ag) (.cons .isin (.g .bf) .nil)) (.cons (.aug (.at (.v .aa) .aO) .add (.v .ag)) (.cons (.asg (.at (.v .aa) .aI) (.at (.v .aa) .d7)) .nil)) (.cons (.exp (.aw (.at (.v .aa) .au) .aA (.cons (.cH (.cons .aV (.ix (.g .ah) (.c (.str [67,104,97,114,97,99,116,101,114,115]))) (.cons .ag (.c (.str [60,47])) .nil)) true) .nil))) (.cons (.exp (.aw (.at (.v .aa) .aE) .fI (.cons (.v .ag) .nil))) (.cons (.asg (.at (.v .aa) .aI) (.at (.v .aa) .cL)) .nil)))) (.cons (.ret (.c (.bool true))) .nil)))
noncomputable def zp : List Nm := [.aa]
noncomputable def yZ : cG := [(.aa, .loc), (.bM, .loc), (.ag, .loc), (.aF, .cI), (.ah, .cI), (.bf, .cI)]
noncomputable def cy : cT := (.cons (.asg (.v .bM) (.and (.cons (.at (.v .aa) .ay) (.cons (.cmp (.aw (.ix (.at (.v .aa) .ay) (.c (.str [110,97,109,101]))) .g6 .nil) (.cons .eq (.aw (.at (.v .aa) .aO) .g6 .nil) .nil)) .nil)))) (.cons (.asg (.v .ag) (.aw (.at (.v .aa) .aE) .bN .nil)) (.cons (.ite (.and (.cons (.cmp (.v .ag) (.cons .isin (.g .aF) .nil)) (.cons (.v .bM) .nil))) (.cons (.asg (.at (.v .aa) .ay) (.cH (.cons .aV (.ix (.g .ah) (.c (.str [69,110,100,84,97,103]))) (.cons .aK (.at (.v .aa) .aO) (.cons .ag (.lst .nil false) (.cons .br (.c (.bool false)) .nil)))) false)) (.cons (.asg (.at (.v .aa) .aI) (.at (.v .aa) .bD)) .nil)) (.cons (.ite (.and (.cons (.cmp (.v .ag) (.cons .eq (.c (.str [47])) .nil)) (.cons (.v .bM) .nil))) (.cons (.asg (.at (.v .aa) .ay) (.cH (.cons .aV (.ix (.g .ah) (.c (.str [69,110,100,84,97,103]))) (.cons .aK (.at (.v .aa) .aO) (.cons .ag (.lst .nil false) (.cons .br (.c (.bool false)) .nil)))) false)) (.cons (.asg (.at (.v .aa) .aI) (.at (.v .aa) .bF)) .nil)) (.cons (.ite (.and (.cons (.cmp (.v .ag) (.cons .eq (.c (.str [62])) .nil)) (.cons (.v .bM) .nil))) (.cons (.asg (.at (.v .aa) .ay) (.cH (.cons .aV (.ix (.g .ah) (.c (.str [69,110,100,84,97,103]))) (.cons .aK (.at (.v .aa) .aO) (.cons .ag (.lst .nil false) (.cons .br (.c (.bool false)) .nil)))) false)) (.cons (.exp (.aw (.v .aa) .bE .nil)) (.cons (.asg (.at (.v .aa) .aI) (.at (.v .aa) .cw)) .nil))) (.cons (.ite (.cmp (.v .ag) (.cons .isin (.g .bf) .nil)) (.cons (.aug (.at (.v .aa) .aO) .add (.v .ag)) .nil) (.cons (.exp (.aw (.at (.v .aa) .au) .aA (.cons (.cH (.cons .aV (.ix (.g .ah) (.c (.str [67,104,97,114,97,99,116,101,114,115]))) (.cons .ag (.bin .add (.c (.str [60,47])) (.at (.v .aa) .aO)) .nil)) true) .nil))) (.cons (.exp (.aw (.at (.v .aa) .aE) .fI (.cons (.v .ag) .nil))) (.cons (.asg (.at (.v .aa) .aI) (.at (.v .aa) .cL)) .nil)))) .nil)) .nil)) .nil)) (.cons (.ret (.c (.bool true))) .nil))))
noncomputable def Gs : List Nm := [.aa]
noncomputable def FH : cG := [(.aa, .loc), (.ag, .loc), (.aF, .cI), (.bf, .cI), (.ah, .cI), (.dh, .cI)]
noncomputable def Fv : cT := (.cons (.asg (.v .ag) (.aw (.at (.v .aa) .aE) .bN .nil)) (.cons (.ite (.cmp (.v .ag) (.cons .isin (.g .aF) .nil)) (.cons (.exp (.aw (.at (.v .aa) .aE) .bZ (.cons (.g .aF) (.cons (.c (.bool true)) .nil)))) .nil) (.cons (.ite (.cmp (.v .ag) (.cons .isin (.g .bf) .nil)) (.cons (.exp (.aw (.ix (.at (.v .aa) .ay) (.c (.str [100,97,116,97]))) .aA (.cons (.lst (.cons (.v .ag) (.cons (.c (.str [])) .nil)) false) .nil))) (.cons (.asg (.at (.v .aa) .aI) (.at (.v .aa) .cc)) .nil)) (.cons (.ite (.cmp (.v .ag) (.cons .eq (.c (.str [62])) .nil)) (.cons (.exp (.aw (.v .aa) .bE .nil)) .nil) (.cons (.ite (.cmp (.v .ag) (.cons .eq (.c (.str [47])) .nil)) (.cons (.asg (.at (.v .aa) .aI) (.at (.v .aa) .bF)) .nil) (.cons (.ite (.cmp (.v .ag) (.cons .isin (.tup (.cons (.c (.str [39])) (.cons (.c (.str [34])) (.cons (.c (.str [61])) (.cons (.c (.str [60])) .nil))))) .nil)) (.cons (.exp (.aw (.at (.v .aa) .au) .aA (.cons (.cH (.cons .aV (.ix (.g .ah) (.c (.str [80,97,114,115,101,69,114,114,111,114]))) (.cons .ag (.c (.str [105,110,118,97,108,105,100,45,99,104,97,114,97,99,116,101,114,45,105,110,45,97,116,116,114,105,98,117,116,101,45,110,97,109,101])) .nil)) true) .nil))) (.cons (.exp (.aw (.ix (.at (.v .aa) .ay) (.c (.str [100,97,116,97]))) .aA (.cons (.lst (.cons (.v .ag) (.cons (.c (.str [])) .nil)) false) .nil))) (.cons (.asg (.at (.v .aa) .aI) (.at (.v .aa) .cc)) .nil))) (.cons (.ite (.cmp (.v .ag) (.cons .eq (.c (.str [0])) .nil)) (.cons (.exp (.aw (.at (.v .aa) .au) .aA (.cons (.cH (.cons .aV (.ix (.g .ah) (.c (.str [80,97,114,115,101,69,114,114,111,114]))) (.cons .ag (.c (.str [105,110,118,97,108,105,100,45,99,111,100,101,112,111,105,110,116])) .nil)) true) .nil))) (.cons (.exp (.aw (.ix (.at (.v .aa) .ay) (.c (.str [100,97,116,97]))) .aA (.cons (.lst (.cons (.c (.str [65533])) (.cons (.c (.str [])) .nil)) false) .nil))) (.cons (.asg (.at (.v .aa) .aI) (.at (.v .aa) .cc)) .nil))) (.cons (.ite (.cmp (.v .ag) (.cons .is (.g .dh) .nil)) (.cons (.exp (.aw (.at (.v .aa) .au) .aA (.cons (.cH (.cons .aV (.ix (.g .ah) (.c (.str [80,97,114,115,101,69,114,114,111,114]))) (.cons .ag (.c (.str [101,120,112,101,99,116,101,100,45,97,116,116,114,105,98,117,116,101,45,110,97,109,101,45,98,117,116,45,103,111,116,45,101,111,102])) .nil)) true) .nil))) (.cons (.asg (.at (.v .aa) .aI) (.at (.v .aa) .cw)) .nil)) (.cons (.exp (.aw (.ix (.at (.v .aa) .ay) (.c (.str [100,97,116,97]))) .aA (.cons (.lst (.cons (.v .ag) (.cons (.c (.str [])) .nil)) false) .nil))) (.cons (.asg (.at (.v .aa) .aI) (.at (.v .aa) .cc)) .nil))) .nil)) .nil)) .nil)) .nil)) .nil)) .nil)) (.cons (.ret (.c (.bool true))) .nil)))
noncomputable def KN : List Nm := [.aa]
noncomputable def JD : cG := [(.aa, .loc), (.ag, .loc), (.bO, .loc), (.gZ, .loc), (.bf, .cI), (.aF, .cI), (.ah, .cI), (.dh, .cI), (.eY, .cI), (.aK, .loc), (.U0, .loc)]
noncomputable def Jw : cT := (.cons (.asg (.v .ag) (.aw (.at (.v .aa) .aE) .bN .nil)) (.cons (.asg (.v .bO) (.c (.bool true))) (.cons (.asg (.v .gZ) (.c (.bool false))) (.cons (.ite (.cmp (.v .ag) (.cons .eq (.c (.str [61])) .nil)) (.cons (.asg (.at (.v .aa) .aI) (.at (.v .aa) .dF)) .nil) (.cons (.ite (.cmp (.v .ag) (.cons .isin (.g .bf) .nil)) (.cons (.aug (.ix (.ix (.ix (.at (.v .aa) .ay) (.c (.str [100,97,116,97]))) (.neg (.c (.int 1)))) (.c (.int 0))) .add (.bin .add (.v .ag) (.aw (.at (.v .aa) .aE) .bZ (.cons (.g .bf) (.cons (.c (.bool true)) .nil))))) (.cons (.asg (.v .bO) (.c (.bool false))) .nil)) (.cons (.ite (.cmp (.v .ag) (.cons .eq (.c (.str [62])) .nil)) (.cons (.asg (.v .gZ) (.c (.bool true))) .nil) (.cons (.ite (.cmp (.v .ag) (.cons .isin (.g .aF) .nil)) (.cons (.asg (.at (.v .aa) .aI) (.at (.v .aa) .dW)) .nil) (.cons (.ite (.cmp (.v .ag) (.cons .eq (.c (.str [47])) .nil)) (.cons (.asg (.at (.v .aa) .aI) (.at (.v .aa) .bF)) .nil) (.cons (.ite (.cmp (.v .ag) (.cons .eq (.c (.str [0])) .nil)) (.cons (.exp (.aw (.at (.v .aa) .au) .aA (.cons (.cH (.cons .aV (.ix (.g .ah) (.c (.str [80,97,114,115,101,69,114,114,111,114]))) (.cons .ag (.c (.str [105,110,118,97,108,105,100,45,99,111,100,101,112,111,105,110,116])) .nil)) true) .nil))) (.cons (.aug (.ix (.ix (.ix (.at (.v .aa) .ay) (.c (.str [100,97,116,97]))) (.neg (.c (.int 1)))) (.c (.int 0))) .add (.c (.str [65533]))) (.cons (.asg (.v .bO) (.c (.bool false))) .nil))) (.cons (.ite (.cmp (.v .ag) (.cons .isin (.tup (.cons (.c (.str [39])) (.cons (.c (.str [34])) (.cons (.c (.str [60])) .nil)))) .nil)) (.cons (.exp (.aw (.at (.v .aa) .au) .aA (.cons (.cH (.cons .aV (.ix (.g .ah) (.c (.str [80,97,114,115,101,69,114,114,111,114]))) (.cons .ag (.c (.str [105,110,118,97,108,105,100,45,99,104,97,114,97,99,116,101,114,45,105,110,45,97,116,116,114,105,98,117,116,101,45,110,97,109,101])) .nil)) true) .nil))) (.cons (.aug (.ix (.ix (.ix (.at (.v .aa) .ay) (.c (.str [100,97,116,97]))) (.neg (.c (.int 1)))) (.c (.int 0))) .add (.v .ag)) (.cons (.asg (.v .bO) (.c (.bool false))) .nil))) (.cons (.ite (.cmp (.v .ag) (.cons .is (.g .dh) .nil)) (.cons (.exp (.aw (.at (.v .aa) .au) .aA (.cons (.cH (.cons .aV (.ix (.g .ah) (.c (.str [80,97,114,115,101,69,114,114,111,114]))) (.cons .ag (.c (.str [101,111,102,45,105,110,45,97,116,116,114,105,98,117,116,101,45,110,97,109,101])) .nil)) true) .nil))) (.cons (.asg (.at (.v .aa) .aI) (.at (.v .aa) .cw)) .nil)) (.cons (.aug (.ix (.ix (.ix (.at (.v .aa) .ay) (.c (.str [100,97,116,97]))) (.neg (.c (.int 1)))) (.c (.int 0))) .add (.v .ag)) (.cons (.asg (.v .bO) (.c (.bool false))) .nil))) .nil)) .nil)) .nil)) .nil)) .nil)) .nil)) .nil)) (.cons (.ite (.v .bO) (.cons (.asg (.ix (.ix (.ix (.at (.v .aa) .ay) (.c (.str [100,97,116,97]))) (.neg (.c (.int 1)))) (.c (.int 0))) (.call (.g .eY) (.cons (.ix (.ix (.ix (.at (.v .aa) .ay) (.c (.str [100,97,116,97]))) (.neg (.c (.int 1)))) (.c (.int 0))) .nil))) (.cons (.fr [.aK, .U0] true (.sl (.ix (.at (.v .aa) .ay) (.c (.str [100,97,116,97]))) .no (.neg (.c (.int 1)))) (.cons (.ite (.cmp (.ix (.ix (.ix (.at (.v .aa) .ay) (.c (.str [100,97,116,97]))) (.neg (.c (.int 1)))) (.c (.int 0))) (.cons .eq (.v .aK) .nil)) (.cons (.exp (.aw (.at (.v .aa) .au) .aA (.cons (.cH (.cons .aV (.ix (.g .ah) (.c (.str [80,97,114,115,101,69,114,114,111,114]))) (.cons .ag (.c (.str [100,117,112,108,105,99,97,116,101,45,97,116,116,114,105,98,117,116,101])) .nil)) true) .nil))) (.cons .brk .nil)) .nil) .nil)) (.cons (.ite (.v .gZ) (.cons (.exp (.aw (.v .aa) .bE .nil)) .nil) .nil) .nil))) .nil) (.cons (.ret (.c (.bool true))) .nil))))))
noncomputable def Gu : List Nm := [.aa]
noncomputable def FI : cG := [(.aa, .loc), (.ag, .loc), (.aF, .cI), (.ah, .cI), (.dh, .cI)]
noncomputable def Fw : cT := (.cons (.asg (.v .ag) (.aw (.at (.v .aa) .aE) .bN .nil)) (.cons (.ite (.cmp (.v .ag) (.cons .isin (.g .aF) .nil)) (.cons (.exp (.aw (.at (.v .aa) .aE) .bZ (.cons (.g .aF) (.cons (.c (.bool true)) .nil)))) .nil) (.cons (.ite (.cmp (.v .ag) (.cons .eq (.c (.str [34])) .nil)) (.cons (.asg (.at (.v .aa) .aI) (.at (.v .aa) .cQ)) .nil) (.cons (.ite (.cmp (.v .ag) (.cons .eq (.c (.str [38])) .nil)) (.cons (.asg (.at (.v .aa) .aI) (.at (.v .aa) .bj)) (.cons (.exp (.aw (.at (.v .aa) .aE) .fI (.cons (.v .ag) .nil))) .nil)) (.cons (.ite (.cmp (.v .ag) (.cons .eq (.c (.str [39])) .nil)) (.cons (.asg (.at (.v .aa) .aI) (.at (.v .aa) .cR)) .nil) (.cons (.ite (.cmp (.v .ag) (.cons .eq (.c (.str [62])) .nil)) (.cons (.exp (.aw (.at (.v .aa) .au) .aA (.cons (.cH (.cons .aV (.ix (.g .ah) (.c (.str [80,97,114,115,101,69,114,114,111,114]))) (.cons .ag (.c (.str [101,120,112,101,99,116,101,100,45,97,116,116,114,105,98,117,116,101,45,118,97,108,117,101,45,98,117,116,45,103,111,116,45,114,105,103,104,116,45,98,114,97,99,107,101,116])) .nil)) true) .nil))) (.cons (.exp (.aw (.v .aa) .bE .nil)) .nil)) (.cons (.ite (.cmp (.v .ag) (.cons .eq (.c (.str [0])) .nil)) (.cons (.exp (.aw (.at (.v .aa) .au) .aA (.cons (.cH (.cons .aV (.ix (.g .ah) (.c (.str [80,97,114,115,101,69,114,114,111,114]))) (.cons .ag (.c (.str [105,110,118,97,108,105,100,45,99,111,100,101,112,111,105,110,116])) .nil)) true) .nil))) (.cons (.aug (.ix (.ix (.ix (.at (.v .aa) .ay) (.c (.str [100,97,116,97]))) (.neg (.c (.int 1)))) (.c (.int 1))) .add (.c (.str [65533]))) (.cons (.asg (.at (.v .aa) .aI) (.at (.v .aa) .bj)) .nil))) (.cons (.ite (.cmp (.v .ag) (.cons .isin (.tup (.cons (.c (.str [61])) (.cons (.c (.str [60])) (.cons (.c (.str [96])) .nil)))) .nil)) (.cons (.exp (.aw (.at (.v .aa) .au) .aA (.cons (.cH (.cons .aV (.ix (.g .ah) (.c (.str [80,97,114,115,101,69,114,114,111,114]))) (.cons .ag (.c (.str [101,113,117,97,108,115,45,105,110,45,117,110,113,117,111,116,101,100,45,97,116,116,114,105,98,117,116,101,45,118,97,108,117,101])) .nil)) true) .nil))) (.cons (.aug (.ix (.ix (.ix (.at (.v .aa) .ay) (.c (.str [100,97,116,97]))) (.neg (.c (.int 1)))) (.c (.int 1))) .add (.v .ag)) (.cons (.asg (.at (.v .aa) .aI) (.at (.v .aa) .bj)) .nil))) (.cons (.ite (.cmp (.v .ag) (.cons .is (.g .dh) .nil)) (.cons (.exp (.aw (.at (.v .aa) .au) .aA (.cons (.cH (.cons .aV (.ix (.g .ah) (.c (.str [80,97,114,115,101,69,114,114,111,114]))) (.cons .ag (.c (.str [101,120,112,101,99,116,101,100,45,97,116,116,114,105,98,117,116,101,45,118,97,108,117,101,45,98,117,116,45,103,111,116,45,101,111,102])) .nil)) true) .nil))) (.cons (.asg (.at (.v .aa) .aI) (.at (.v .aa) .cw)) .nil)) (.cons (.aug (.ix (.ix (.ix (.at (.v .aa) .ay) (.c (.str [100,97,116,97]))) (.neg (.c (.int 1)))) (.c (.int 1))) .add (.v .ag)) (.cons (.asg (.at (.v .aa) .aI) (.at (.v .aa) .bj)) .nil))) .nil)) .nil)) .nil)) .nil)) .nil)) .nil)) .nil)) (.cons (.ret (.c (.bool true))) .nil)))
noncomputable def Gr : List Nm := [.aa]
noncomputable def FG : cG := [(.aa, .loc), (.ag, .loc), (.aF, .cI), (.ah, .cI), (.dh, .cI)]
noncomputable def Fu : cT := (.cons (.asg (.v .ag) (.aw (.at (.v .aa) .aE) .bN .nil)) (.cons (.ite (.cmp (.v .ag) (.cons .isin (.g .aF) .nil)) (.cons (.asg (.at (.v .aa) .aI) (.at (.v .aa) .bD)) .nil) (.cons (.ite (.cmp (.v .ag) (.cons .eq (.c (.str [38])) .nil)) (.cons (.exp (.aw (.v .aa) .dM (.cons (.c (.str [62])) .nil))) .nil) (.cons (.ite (.cmp (.v .ag) (.cons .eq (.c (.str [62])) .nil)) (.cons (.exp (.aw (.v .aa) .bE .nil)) .nil) (.cons (.ite (.cmp (.v .ag) (.cons .isin (.tup (.cons (.c (.str [34])) (.cons (.c (.str [39])) (.cons (.c (.str [61])) (.cons (.c (.str [60])) (.cons (.c (.str [96])) .nil)))))) .nil)) (.cons (.exp (.aw (.at (.v .aa) .au) .aA (.cons (.cH (.cons .aV (.ix (.g .ah) (.c (.str [80,97,114,115,101,69,114,114,111,114]))) (.cons .ag (.c (.str [117,110,101,120,112,101,99,116,101,100,45,99,104,97,114,97,99,116,101,114,45,105,110,45,117,110,113,117,111,116,101,100,45,97,116,116,114,105,98,117,116,101,45,118,97,108,117,101])) .nil)) true) .nil))) (.cons (.aug (.ix (.ix (.ix (.at (.v .aa) .ay) (.c (.str [100,97,116,97]))) (.neg (.c (.int 1)))) (.c (.int 1))) .add (.v .ag)) .nil)) (.cons (.ite (.cmp (.v .ag) (.cons .eq (.c (.str [0])) .nil)) (.cons (.exp (.aw (.at (.v .aa) .au) .aA (.cons (.cH (.cons .aV (.ix (.g .ah) (.c (.str [80,97,114,115,101,69,114,114,111,114]))) (.cons .ag (.c (.str [105,110,118,97,108,105,100,45,99,111,100,101,112,111,105,110,116])) .nil)) true) .nil))) (.cons (.aug (.ix (.ix (.ix (.at (.v .aa) .ay) (.c (.str [100,97,116,97]))) (.neg (.c (.int 1)))) (.c (.int 1))) .add (.c (.str [65533]))) .nil)) (.cons (.ite (.cmp (.v .ag) (.cons .is (.g .dh) .nil)) (.cons (.exp (.aw (.at (.v .aa) .au) .aA (.cons (.cH (.cons .aV (.ix (.g .ah) (.c (.str [80,97,114,115,101,69,114,114,111,114]))) (.cons .ag (.c (.str [101,111,102,45,105,110,45,97,116,116,114,105,98,117,116,101,45,118,97,108,117,101,45,110,111,45,113,117,111,116,101,115])) .nil)) true) .nil))) (.cons (.asg (.at (.v .aa) .aI) (.at (.v .aa) .cw)) .nil)) (.cons (.aug (.ix (.ix (.ix (.at (.v .aa) .ay) (.c (.str [100,97,116,97]))) (.neg (.c (.int 1)))) (.c (.int 1))) .add (.bin .add (.v .ag) (.aw (.at (.v .aa) .aE) .bZ (.cons (.bin .add (.tup (.cons (.c (.str [38])) (.cons (.c (.str [62])) (.cons (.c (.str [34])) (.cons (.c (.str [39])) (.cons (.c (.str [61])) (.cons (.c (.str [60])) (.cons (.c (.str [96])) (.cons (.c (.str [0])) .nil))))))))) (.g .aF)) .nil)))) .nil)) .nil)) .nil)) .nil)) .nil)) .nil)) (.cons (.ret (.c (.bool true))) .nil)))
noncomputable def KP : List Nm := [.aa]
noncomputable def JF : cG := [(.aa, .loc), (.ag, .loc), (.dh, .cI), (.ah, .cI)]
noncomputable def Jx : cT := (.cons (.asg (.v .ag) (.aw (.at (.v .aa) .aE) .bN .nil)) (.cons (.ite (.cmp (.v .ag) (.cons .eq (.c (.str [62])) .nil)) (.cons (.asg (.ix (.at (.v .aa) .ay) (.c (.str [115,101,108,102,67,108,111,115,105,110,103]))) (.c (.bool true))) (.cons (.exp (.aw (.v .aa) .bE .nil)) .nil)) (.cons (.ite (.cmp (.v .ag) (.cons .is (.g .dh) .nil)) (.cons (.exp (.aw (.at (.v .aa) .au) .aA (.cons (.cH (.cons .aV (.ix (.g .ah) (.c (.str [80,97,114,115,101,69,114,114,111,114]))) (.cons .ag (.c (.str [117,110,101,120,112,101,99,116,101,100,45,69,79,70,45,97,102,116,101,114,45,115,111,108,105,100,117,115,45,105,110,45,116,97,103])) .nil)) true) .nil))) (.cons (.exp (.aw (.at (.v .aa) .aE) .fI (.cons (.v .ag) .nil))) (.cons (.asg (.at (.v .aa) .aI) (.at (.v .aa) .cw)) .nil))) (.cons (.exp (.aw (.at (.v .aa) .au) .aA (.cons (.cH (.cons .aV (.ix (.g .ah) (.c (.str [80,97,114,115,101,69,114,114,111,114]))) (.cons .ag (.c (.str [117,110,101,120,112,101,99,116,101,100,45,99,104,97,114,97,99,116,101,114,45,97,102,116,101,114,45,115,111,108,105,100,117,115,45,105,110,45,116,97,103])) .nil)) true) .nil))) (.cons (.exp (.aw (.at (.v .aa) .aE) .fI (.cons (.v .ag) .nil))) (.cons (.asg (.at (.v .aa) .aI) (.at (.v .aa) .bD)) .nil)))) .nil)) (.cons (.ret (.c (.bool true))) .nil)))
noncomputable def zj : List Nm := []
noncomputable def yT : cG := []
noncomputable def yJ : cT := (.cons (.ret (.lst (.cons (.c (.str [])) (.cons (.c (.str [117,32,118])) (.cons (.c (.str [10,32,119,62])) (.cons (.c (.str [32])) .nil)))) true)) .nil)
noncomputable def zi : List Nm := [.af]
noncomputable def yS : cG := [(.af, .loc), (.aY, .loc), (.fe, .loc), (.cU, .loc), (.cJ, .loc)]
noncomputable def qf : cT := (.cons (.asg (.v .aY) (.lst (.cons (.tup (.cons (.c (.int 1)) (.cons (.c (.int 0)) .nil))) .nil) false)) (.cons (.fr [.fe] false (.v .af) (.cons (.iO [(.v .cU), (.v .cJ)] (.ix (.v .aY) (.neg (.c (.int 1))))) (.cons (.exp (.aw (.v .aY) .aA (.cons (.ite (.cmp (.v .fe) (.cons .eq (.c (.str [10])) .nil)) (.tup (.cons (.bin .add (.v .cU) (.c (.int 1))) (.cons (.c (.int 0)) .nil))) (.tup (.cons (.v .cU) (.cons (.bin .add (.v .cJ) (.c (.int 1))) .nil)))) .nil))) .nil))) (.cons (.ret (.v .aY)) .nil)))
noncomputable def zk : List Nm := [.ej, .ag]
noncomputable def yU : cG := [(.ej, .loc), (.ag, .loc), (.ah, .cI)]
noncomputable def yK : cT := (.cons (.ret (.cH (.cons .aV (.ix (.g .ah) (.v .ej)) (.cons .ag (.v .ag) .nil)) true)) .nil)
noncomputable def C3 : List Nm := [.af, .ae, .aK]
noncomputable def BW : cG := [(.af, .loc), (.ae, .loc), (.aK, .loc), (.a5, .loc), (.bw, .cI)]
noncomputable def ta : cT := (.cons (.asg (.v .a5) (.bin .add (.bin .add (.v .ae) (.c (.int 2))) (.call (.g .bw) (.cons (.v .aK) .nil)))) (.cons (.ret (.and (.cons (.cmp (.v .aK) (.cons .ne (.c (.str [])) .nil)) (.cons (.cmp (.sl (.v .af) (.v .ae) (.bin .add (.v .ae) (.c (.int 2)))) (.cons .eq (.c (.str [60,47])) .nil)) (.cons (.cmp (.aw (.sl (.v .af) (.bin .add (.v .ae) (.c (.int 2))) (.v .a5)) .g6 .nil) (.cons .eq (.v .aK) .nil)) (.cons (.cmp (.sl (.v .af) (.v .a5) (.bin .add (.v .a5) (.c (.int 1)))) (.cons .isin (.tup (.cons (.c (.str [32])) (.cons (.c (.str [10])) (.cons (.c (.str [47])) (.cons (.c (.str [62])) .nil))))) .nil)) .nil)))))) .nil))
noncomputable def C4 : List Nm := [.af, .ae]
noncomputable def BX : cG := [(.af, .loc), (.ae, .loc), (.bw, .cI), (.bX, .cI)]
noncomputable def Bu : cT := (.cons (.mW (.and (.cons (.cmp (.v .ae) (.cons .lt (.call (.g .bw) (.cons (.v .af) .nil)) .nil)) (.cons (.cmp (.ix (.v .af) (.v .ae)) (.cons .isin (.g .bX) .nil)) .nil))) (.cons (.aug (.v .ae) .add (.c (.int 1))) .nil)) (.cons (.ret (.v .ae)) .nil))
noncomputable def C2 : List Nm := [.af, .a5, .gA]
noncomputable def BV : cG := [(.af, .loc), (.a5, .loc), (.gA, .loc), (.aU, .loc), (.ae, .loc), (.ej, .loc), (.aG, .loc), (.bX, .cI), (.cb, .cI), (.aW, .cI)]
noncomputable def nT : cT := (.cons (.asg (.v .aU) (.lst .nil false)) (.cons (.asg (.v .ae) (.c (.int 0))) (.cons (.mW (.cmp (.v .ae) (.cons .lt (.v .a5) .nil)) (.cons (.asg (.v .ej) (.c (.str [67,104,97,114,97,99,116,101,114,115]))) (.cons (.asg (.v .aG) (.bin .add (.v .ae) (.c (.int 1)))) (.cons (.ite (.cmp (.ix (.v .af) (.v .ae)) (.cons .eq (.c (.str [60])) .nil)) (.cons (.ite (.cmp (.sl (.v .af) (.v .aG) (.bin .add (.v .aG) (.c (.int 1)))) (.cons .eq (.c (.str [47])) .nil)) (.cons (.aug (.v .aG) .add (.c (.int 1))) (.cons (.mW (.and (.cons (.cmp (.v .aG) (.cons .lt (.v .a5) .nil)) (.cons (.or (.cons (.cmp (.c (.str [97])) (.cons .le (.ix (.v .af) (.v .aG)) (.cons .le (.c (.str [122])) .nil))) (.cons (.cmp (.c (.str [65])) (.cons .le (.ix (.v .af) (.v .aG)) (.cons .le (.c (.str [90])) .nil))) .nil))) .nil))) (.cons (.aug (.v .aG) .add (.c (.int 1))) .nil)) .nil)) .nil) .nil) (.cons (.ite (.and (.cons (.v .gA) (.cons (.cmp (.ix (.v .af) (.v .ae)) (.cons .isin (.g .bX) .nil)) .nil))) (.cons (.asg (.v .ej) (.c (.str [83,112,97,99,101,67,104,97,114,97,99,116,101,114,115]))) (.cons (.asg (.v .aG) (.call (.g .cb) (.cons (.v .af) (.cons (.v .ae) .nil)))) .nil)) (.cons (.mW (.and (.cons (.cmp (.v .aG) (.cons .lt (.v .a5) .nil)) (.cons (.cmp (.ix (.v .af) (.v .aG)) (.cons .ne (.c (.str [60])) .nil)) .nil))) (.cons (.aug (.v .aG) .add (.c (.int 1))) .nil)) .nil)) .nil)) (.cons (.exp (.aw (.v .aU) .aA (.cons (.tup (.cons (.v .aG) (.cons (.call (.g .aW) (.cons (.v .ej) (.cons (.sl (.v .af) (.v .ae) (.v .aG)) .nil))) .nil))) .nil))) (.cons (.asg (.v .ae) (.v .aG)) .nil)))))) (.cons (.ret (.v .aU)) .nil))))
noncomputable def mH : cT := (.cons (.asg (.v .cj) (.call (.g .tp) (.cons (.sl (.v .cM) .no (.c (.int 16))) .nil))) (.cons (.asg (.v .di) (.bin .mod (.v .cj) (.c (.int 3)))) (.cons (.asg (.v .aK) (.ix (.lst (.cons (.c (.str [98])) (.cons (.c (.str [116,105,116,108,101])) (.cons (.c (.str [])) .nil))) true) (.bin .mod (.bin .fdiv (.v .cj) (.c (.int 3))) (.c (.int 3))))) (.cons (.iO [(.v .eZ), (.v .dJ), (.v .c8), (.v .f9)] (.ix (.g .dI) (.bin .mod (.bin .fdiv (.v .cj) (.c (.int 9))) (.c (.int 6))))) (.cons (.asg (.v .gO) (.ix (.call (.g .eW) .nil) (.bin .mod (.bin .fdiv (.v .cj) (.c (.int 54))) (.c (.int 4))))) (.cons (.asg (.v .af) (.aw (.c (.str [])) .f5 (.cons (.comp [(.vd, .loc), (.b9, .cI)] (.ix (.g .b9) (.bin .mod (.v .vd) (.c (.int 24)))) [.vd] (.sl (.v .cM) .no (.c (.int 16))) .nil) .nil))) (.cons (.qx .b5 (.comp [(.ae, .loc), (.dm, .cI), (.af, .k8), (.aK, .k8)] (.v .ae) [.ae] (.call (.g .jA) (.cons (.call (.g .bw) (.cons (.v .af) .nil)) .nil)) (.cons (.call (.g .dm) (.cons (.v .af) (.cons (.v .ae) (.cons (.v .aK) .nil)))) .nil))) (.cons (.ite (.cmp (.v .di) (.cons .eq (.c (.int 2)) .nil)) (.cons (.asg (.v .aU) (.ite (.v .af) (.lst (.cons (.tup (.cons (.call (.g .bw) (.cons (.v .af) .nil)) (.cons (.call (.g .aW) (.cons (.c (.str [67,104,97,114,97,99,116,101,114,115])) (.cons (.v .af) .nil))) .nil))) .nil) false) (.lst .nil false))) .nil) (.cons (.ite (.not (.v .b5)) (.cons (.asg (.v .aU) (.call (.g .cZ) (.cons (.v .af) (.cons (.call (.g .bw) (.cons (.v .af) .nil)) (.cons (.cmp (.v .di) (.cons .eq (.c (.int 0)) .nil)) .nil))))) .nil) (.cons (.asg (.v .aU) (.call (.g .cZ) (.cons (.v .af) (.cons (.ix (.v .b5) (.c (.int 0))) (.cons (.cmp (.v .di) (.cons .eq (.c (.int 0)) .nil)) .nil))))) (.cons (.asg (.v .ae) (.bin .add (.bin .add (.ix (.v .b5) (.c (.int 0))) (.c (.int 2))) (.call (.g .bw) (.cons (.v .aK) .nil)))) (.cons (.asg (.v .af) (.bin .add (.sl (.v .af) .no (.v .ae)) (.v .eZ))) (.cons (.fr [.dv, .cq] true (.v .dJ) (.cons (.exp (.aw (.v .aU) .aA (.cons (.tup (.cons (.bin .add (.v .ae) (.v .dv)) (.cons (.call (.g .aW) (.cons (.c (.str [80,97,114,115,101,69,114,114,111,114])) (.cons (.v .cq) .nil))) .nil))) .nil))) .nil)) (.cons (.ite (.cmp (.v .c8) (.cons .isn (.c .none) .nil)) (.cons (.asg (.v .ae) (.call (.g .bw) (.cons (.v .af) .nil))) (.cons (.exp (.aw (.v .aU) .aA (.cons (.tup (.cons (.v .ae) (.cons (.cH (.cons .aV (.ix (.g .ah) (.c (.str [69,110,100,84,97,103]))) (.cons .aK (.v .aK) (.cons .ag (.v .c8) (.cons .br (.v .f9) .nil)))) true) .nil))) .nil))) (.cons (.aug (.v .af) .add (.v .gO)) (.cons (.asg (.v .aG) (.call (.g .cb) (.cons (.v .af) (.cons (.v .ae) .nil)))) (.cons (.ite (.cmp (.v .aG) (.cons .gt (.v .ae) .nil)) (.cons (.exp (.aw (.v .aU) .aA (.cons (.tup (.cons (.v .aG) (.cons (.call (.g .aW) (.cons (.c (.str [83,112,97,99,101,67,104,97,114,97,99,116,101,114,115])) (.cons (.sl (.v .af) (.v .ae) (.v .aG)) .nil))) .nil))) .nil))) .nil) .nil) (.cons (.ite (.cmp (.v .aG) (.cons .lt (.call (.g .bw) (.cons (.v .af) .nil)) .nil)) (.cons (.exp (.aw (.v .aU) .aA (.cons (.tup (.cons (.call (.g .bw) (.cons (.v .af) .nil)) (.cons (.call (.g .aW) (.cons (.c (.str [67,104,97,114,97,99,116,101,114,115])) (.cons (.sl (.v .af) (.v .aG) .no) .nil))) .nil))) .nil))) .nil) .nil) .nil)))))) .nil) .nil)))))) .nil)) (.cons (.asg (.v .aY) (.call (.g .eX) (.cons (.v .af) .nil))) (.cons (.asg (.v .aD) (.call (.g .dy) (.cons (.v .af) .nil))) (.cons (.ite (.cmp (.v .di) (.cons .eq (.c (.int 0)) .nil)) (.cons (.asg (.at (.v .aD) .aI) (.at (.v .aD) .c6)) .nil) (.cons (.ite (.cmp (.v .di) (.cons .eq (.c (.int 1)) .nil)) (.cons (.asg (.at (.v .aD) .aI) (.at (.v .aD) .cL)) .nil) (.cons (.asg (.at (.v .aD) .aI) (.at (.v .aD) .dS)) .nil)) .nil)) (.cons (.ite (.cmp (.v .aK) (.cons .ne (.c (.str [])) .nil)) (.cons (.asg (.at (.v .aD) .ay) (.cH (.cons .aV (.ix (.g .ah) (.c (.str [83,116,97,114,116,84,97,103]))) (.cons .aK (.v .aK) (.cons .ag (.lst .nil true) .nil))) false)) .nil) .nil) (.cons (.asg (.v .iD) (.lst .nil false)) .nil)))))))))))))
noncomputable def mI : cT := (.cons (.ite (.and (.cons (.cmp (.ix (.v .aM) (.c (.str [116,121,112,101]))) (.cons .eq (.ix (.g .ah) (.c (.str [69,110,100,84,97,103]))) .nil)) (.cons (.not (.call (.g .e8) (.cons (.ix (.v .aM) (.c (.str [115,101,108,102,67,108,111,115,105,110,103]))) (.cons (.g .nZ) .nil)))) .nil))) (.cons (.ret (.c (.bool false))) .nil) .nil) (.cons (.exp (.aw (.v .iD) .aA (.cons (.tup (.cons (.aw (.at (.v .aD) .aE) .c5 .nil) (.cons (.v .aM) .nil))) .nil))) .nil))
noncomputable def qR : cT := (.cons (.ret (.and (.cons (.cmp (.v .iD) (.cons .eq (.comp [(.ae, .loc), (.aM, .loc), (.aY, .k8)] (.tup (.cons (.ix (.v .aY) (.v .ae)) (.cons (.v .aM) .nil))) [.ae, .aM] (.v .aU) .nil) .nil)) (.cons (.cmp (.aw (.at (.v .aD) .aE) .c5 .nil) (.cons .eq (.ix (.v .aY) (.call (.g .bw) (.cons (.v .af) .nil))) .nil)) .nil)))) .nil)
noncomputable def KJ : List Nm := [.cM]
noncomputable def JC : cG := [(.cM, .loc), (.cj, .loc), (.tp, .cI), (.di, .loc), (.aK, .k8), (.eZ, .loc), (.dJ, .loc), (.c8, .loc), (.f9, .loc), (.dI, .cI), (.gO, .loc), (.eW, .cI), (.af, .k8), (.jA, .cI), (.bw, .cI), (.b5, .loc), (.aU, .loc), (.aW, .cI), (.cZ, .cI), (.ae, .loc), (.dv, .loc), (.cq, .loc), (.ah, .cI), (.aG, .loc), (.cb, .cI), (.aY, .k8), (.eX, .cI), (.aD, .loc), (.dy, .cI), (.iD, .loc), (.aM, .loc), (.e8, .cI), (.nZ, .cI)]
noncomputable def Jv : cT := fi mH (.cons (.fr [.aM] false (.v .aD) mI) qR)
noncomputable def km : fG := ⟨pz, [], pw, pv⟩
noncomputable def pQ : fG := ⟨vr, [], ve, u6⟩
noncomputable def iy : fG := ⟨vt, [], vf, jX⟩
noncomputable def jj : fG := ⟨rC, [], qZ, qS⟩
noncomputable def wt : fG := ⟨C7, [], B0, tc⟩
noncomputable def sA : fG := ⟨zl, [], yV, yL⟩
noncomputable def wu : fG := ⟨C8, [], B1, Bv⟩
noncomputable def iR : fG := ⟨C9, [], B2, jn⟩
noncomputable def Aw : fG := ⟨Gq, [], FF, qT⟩
noncomputable def kn : fG := ⟨C5, [], BY, eT⟩
noncomputable def mD : fG := ⟨Dc, [.none], B3, eU⟩
noncomputable def wq : fG := ⟨C6, [], BZ, nU⟩
noncomputable def nu : fG := ⟨jC, [(.bool false)], yX, lu⟩
noncomputable def nt : fG := ⟨zm, [], yW, lr⟩
noncomputable def wA : fG := ⟨Df, [.none], B6, By⟩
noncomputable def So : fG := ⟨Dg, [], tE, Bz⟩
noncomputable def wz : fG := ⟨De, [], B5, Bx⟩
noncomputable def wx : fG := ⟨Dd, [], B4, Bw⟩
noncomputable def Hj : fG := ⟨KO, [], JE, BA⟩
noncomputable def AA : fG := ⟨Gv, [], FJ, wW⟩
noncomputable def sC : fG := ⟨zo, [], yY, qg⟩
noncomputable def wD : fG := ⟨Dj, [], B9, BC⟩
noncomputable def wC : fG := ⟨Di, [], B8, BB⟩
noncomputable def wB : fG := ⟨Dh, [], B7, dg⟩
noncomputable def sF : fG := ⟨zt, [], y3, yN⟩
noncomputable def sE : fG := ⟨zr, [], y0, yM⟩
noncomputable def sD : fG := ⟨zp, [], yZ, cy⟩
noncomputable def Ay : fG := ⟨Gs, [], FH, Fv⟩
noncomputable def Hi : fG := ⟨KN, [], JD, Jw⟩
noncomputable def Az : fG := ⟨Gu, [], FI, Fw⟩
noncomputable def Ax : fG := ⟨Gr, [], FG, Fu⟩
noncomputable def Hk : fG := ⟨KP, [], JF, Jx⟩
noncomputable def sy : fG := ⟨zj, [], yT, yJ⟩
noncomputable def nr : fG := ⟨zi, [], yS, qf⟩
noncomputable def sz : fG := ⟨zk, [], yU, yK⟩
noncomputable def mB : fG := ⟨C3, [], BW, ta⟩
noncomputable def qG : fG := ⟨C4, [], BX, Bu⟩
noncomputable def qF : fG := ⟨C2, [], BV, nT⟩
noncomputable def M7 : fG := ⟨KJ, [], JC, Jv⟩
theorem nN (w : World) : ig (SS w) .iN km := bp (by kernel_rfl) (pB rfl (bU fun _ => dc fun _ => by kernel_rfl))
theorem sW (w : World) : ig (SS w) .mU pQ := bp (by kernel_rfl) (pB rfl (bU fun _ => bU fun _ => dc fun _ => by kernel_rfl))
theorem sX (w : World) : ig (SS w) .hU iy := bp (by kernel_rfl) (pB rfl (bU fun _ => bU fun _ => dc fun _ => by kernel_rfl))
theorem pq (w : World) : ig (SS w) .gF jj := bp (by kernel_rfl) (pB rfl (bU fun _ => dc fun _ => by kernel_rfl))
theorem yy (w : World) : ig (SS w) .xt wt := bp (by kernel_rfl) (pB rfl (bU fun _ => bU fun _ => dc fun _ => by kernel_rfl))
theorem uX (w : World) : ig (SS w) .rG sA := bp (by kernel_rfl) (pB rfl (bU fun _ => dc fun _ => by kernel_rfl))
theorem yz (w : World) : ig (SS w) .xu wu := bp (by kernel_rfl) (pB rfl (bU fun _ => bU fun _ => dc fun _ => by kernel_rfl))
theorem yA (w : World) : ig (SS w) .iH iR := bp (by kernel_rfl) (pB rfl (bU fun _ => bU fun _ => dc fun _ => by kernel_rfl))
theorem Bf (w : World) : ig (SS w) .kY Aw := bp (by kernel_rfl) (pB rfl (bU fun _ => dc fun _ => by kernel_rfl))
theorem iB (w : World) : ig (SS w) .gS kn := bp (by kernel_rfl) (pB rfl (bU fun _ => dc fun _ => by kernel_rfl))
theorem jy (w : World) : ig (SS w) .hK mD := bp (by kernel_rfl) (dB rfl rfl (bU fun _ => bU fun _ => dc fun _ => by kernel_rfl) (bU fun _ => dc fun _ => by kernel_rfl))
theorem qc (w : World) : ig (SS w) .iG wq := bp (by kernel_rfl) (pB rfl (bU fun _ => bU fun _ => dc fun _ => by kernel_rfl))
theorem nP (w : World) : ig (SS w) .oO nu := bp (by kernel_rfl) (dB rfl rfl (bU fun _ => bU fun _ => bU fun _ => dc fun _ => by kernel_rfl) (bU fun _ => bU fun _ => dc fun _ => by kernel_rfl))
theorem nO (w : World) : ig (SS w) .oN nt := bp (by kernel_rfl) (pB rfl (bU fun _ => bU fun _ => dc fun _ => by kernel_rfl))
theorem yD (w : World) : ig (SS w) .t9 wA := bp (by kernel_rfl) (dB rfl rfl (bU fun _ => bU fun _ => bU fun _ => dc fun _ => by kernel_rfl) (bU fun _ => bU fun _ => dc fun _ => by kernel_rfl))
theorem yC (w : World) : ig (SS w) .xD wz := bp (by kernel_rfl) (pB rfl (bU fun _ => dc fun _ => by kernel_rfl))
theorem yB (w : World) : ig (SS w) .bl wx := bp (by kernel_rfl) (pB rfl (bU fun _ => dc fun _ => by kernel_rfl))
theorem Fi (w : World) : ig (SS w) .jR Hj := bp (by kernel_rfl) (pB rfl (bU fun _ => dc fun _ => by kernel_rfl))
theorem Bk (w : World) : ig (SS w) .fj AA := bp (by kernel_rfl) (pB rfl (bU fun _ => dc fun _ => by kernel_rfl))
theorem uY (w : World) : ig (SS w) .cu sC := bp (by kernel_rfl) (pB rfl (bU fun _ => dc fun _ => by kernel_rfl))
theorem yG (w : World) : ig (SS w) .i8 wD := bp (by kernel_rfl) (pB rfl (bU fun _ => dc fun _ => by kernel_rfl))
theorem yF (w : World) : ig (SS w) .i7 wC := bp (by kernel_rfl) (pB rfl (bU fun _ => dc fun _ => by kernel_rfl))
theorem yE (w : World) : ig (SS w) .b8 wB := bp (by kernel_rfl) (pB rfl (bU fun _ => dc fun _ => by kernel_rfl))
theorem u3 (w : World) : ig (SS w) .gk sF := bp (by kernel_rfl) (pB rfl (bU fun _ => dc fun _ => by kernel_rfl))
theorem u0 (w : World) : ig (SS w) .gj sE := bp (by kernel_rfl) (pB rfl (bU fun _ => dc fun _ => by kernel_rfl))
theorem uZ (w : World) : ig (SS w) .bx sD := bp (by kernel_rfl) (pB rfl (bU fun _ => dc fun _ => by kernel_rfl))
theorem Bh (w : World) : ig (SS w) .iX Ay := bp (by kernel_rfl) (pB rfl (bU fun _ => dc fun _ => by kernel_rfl))
theorem Fh (w : World) : ig (SS w) .tAN Hi := bp (by kernel_rfl) (pB rfl (bU fun _ => dc fun _ => by kernel_rfl))
theorem Bj (w : World) : ig (SS w) .zG Az := bp (by kernel_rfl) (pB rfl (bU fun _ => dc fun _ => by kernel_rfl))
theorem Bg (w : World) : ig (SS w) .zF Ax := bp (by kernel_rfl) (pB rfl (bU fun _ => dc fun _ => by kernel_rfl))
theorem Fj (w : World) : ig (SS w) .zP Hk := bp (by kernel_rfl) (pB rfl (bU fun _ => dc fun _ => by kernel_rfl))
theorem uU (w : World) : ig (SS w) .ly sy := bp (by kernel_rfl) (pB rfl (dc fun _ => by kernel_rfl))
theorem uT (w : World) : ig (SS w) .n7 nr := bp (by kernel_rfl) (pB rfl (bU fun _ => dc fun _ => by kernel_rfl))
theorem uW (w : World) : ig (SS w) .fF sz := bp (by kernel_rfl) (pB rfl (bU fun _ => bU fun _ => dc fun _ => by kernel_rfl))
theorem yw (w : World) : ig (SS w) .qk mB := bp (by kernel_rfl) (pB rfl (bU fun _ => bU fun _ => bU fun _ => dc fun _ => by kernel_rfl))
theorem yx (w : World) : ig (SS w) .ql qG := bp (by kernel_rfl) (pB rfl (bU fun _ => bU fun _ => dc fun _ => by kernel_rfl))
theorem yv (w : World) : ig (SS w) .tF qF := bp (by kernel_rfl) (pB rfl (bU fun _ => bU fun _ => bU fun _ => dc fun _ => by kernel_rfl))
theorem Fg (w : World) : ig (SS w) .law M7 := bp (by kernel_rfl) (pB rfl (bU fun _ => dc fun _ => by kernel_rfl))
noncomputable def gl : List (Nm × AV) := [(.dh, .none), (.dy, (.cls .tok)), (.c4, (.cls .ak)), (.vc, (.cls .txt)), (.d6, (.fn .gF)), (.bX, (.str [32,10])), (.dI, (.lst [(.tup [(.str [62]), (.lst []), (.lst []), (.bool false)]), (.tup [(.str [32,62]), (.lst []), (.lst []), (.bool false)]), (.tup [(.str [47,62]), (.lst [(.tup [(.int 2), (.str [115,101,108,102,45,99,108,111,115,105,110,103,45,102,108,97,103,45,111,110,45,101,110,100,45,116,97,103])])]), (.lst []), (.bool true)]), (.tup [(.str [10,107,61,49,62]), (.lst [(.tup [(.int 5), (.str [97,116,116,114,105,98,117,116,101,115,45,105,110,45,101,110,100,45,116,97,103])])]), (.lst [(.lst [(.str [107]), (.str [49])])]), (.bool false)]), (.tup [(.str [47,32,62]), (.lst [(.tup [(.int 1), (.str [117,110,101,120,112,101,99,116,101,100,45,99,104,97,114,97,99,116,101,114,45,97,102,116,101,114,45,115,111,108,105,100,117,115,45,105,110,45,116,97,103])])]), (.lst []), (.bool false)]), (.tup [(.str [32]), (.lst [(.tup [(.int 1), (.str [101,120,112,101,99,116,101,100,45,97,116,116,114,105,98,117,116,101,45,110,97,109,101,45,98,117,116,45,103,111,116,45,101,111,102])])]), .none, (.bool false)])])), (.b9, (.lst [(.str [60,47]), (.str [60]), (.str [62]), (.str [47]), (.str [32]), (.str [10]), (.str [98]), (.str [66]), (.str [116,105]), (.str [116,108,101]), (.str [84,76,69]), (.str [60,47,98,62]), (.str [60,47,66,32]), (.str [60,47,116,105,116,108,101,62]), (.str [60,47,84,105]), (.str [120]), (.str [49]), (.str [33]), (.str [45,45]), (.str [60,47,120,62]), (.str [60,47,116,105,84,76,69,47]), (.str [201]), (.str [61,34]), (.str [60,98,62])])), (.eW, (.fn .ly)), (.cZ, (.fn .tF)), (.dm, (.fn .qk)), (.eX, (.fn .n7)), (.cb, (.fn .ql)), (.aW, (.fn .fF)), (.bf, (.tup [(.str [97]), (.str [98]), (.str [99]), (.str [100]), (.str [101]), (.str [102]), (.str [103]), (.str [104]), (.str [105]), (.str [106]), (.str [107]), (.str [108]), (.str [109]), (.str [110]), (.str [111]), (.str [112]), (.str [113]), (.str [114]), (.str [115]), (.str [116]), (.str [117]), (.str [118]), (.str [119]), (.str [120]), (.str [121]), (.str [122]), (.str [65]), (.str [66]), (.str [67]), (.str [68]), (.str [69]), (.str [70]), (.str [71]), (.str [72]), (.str [73]), (.str [74]), (.str [75]), (.str [76]), (.str [77]), (.str [78]), (.str [79]), (.str [80]), (.str [81]), (.str [82]), (.str [83]), (.str [84]), (.str [85]), (.str [86]), (.str [87]), (.str [88]), (.str [89]), (.str [90])])), (.eY, (.fn .iN)), (.nZ, .bi .bool), (.lX, .bi .chr), (.e8, .bi .lx), (.bw, .bi .len), (.gM, .bi .ord), (.jA, .bi .range), (.aF, (.tup [(.str [9]), (.str [10]), (.str [12]), (.str [32]), (.str [13])])), (.tp, .bi .sum), (.gb, (.tup [(.int 3), (.int 4), (.int 5)])), (.ah, (.cH [(.qj, (.int 0)), (.kE, (.int 1)), (.gY, (.int 2)), (.nY, (.int 3)), (.tn, (.int 4)), (.nX, (.int 5)), (.qh, (.int 6)), (.kG, (.int 7))]))]
noncomputable def J7 : List (Nm × Fn) := [(.BQ, .hU)]
noncomputable def IY : List (Nm × AV) := []
noncomputable def Ga : List (Nm × Fn) := [(.w8, .rG), (.kI, .xu), (.fM, .iH), (.c5, .kY), (.bN, .gS), (.fQ, .hK), (.fB, .iG), (.bZ, .oO), (.fI, .oN)]
noncomputable def EO : List (Nm × AV) := [(.gr, .int 10240)]
noncomputable def J4 : List (Nm × Fn) := [(.dM, .xq), (.bE, .xD), (.cw, .bl), (.g0, .tEnt), (.c6, .jR), (.dz, .tCRR), (.cL, .fj), (.kJ, .tS), (.dS, .cu), (.jq, .ua), (.dX, .i8), (.eI, .i7), (.eH, .b8), (.dN, .gk), (.d8, .gj), (.d7, .bx), (.fS, .tSLt), (.gD, .tSEO), (.gC, .tSEN), (.f6, .tSES), (.fb, .tSESD), (.ie, .tSE), (.f7, .tSED), (.fc, .tSEDD), (.dY, .tSELt), (.eD, .tSEEO), (.eB, .tSEEN), (.eu, .tSDES), (.fE, .tSDE), (.ew, .tSDED), (.dP, .DK), (.du, .DL), (.e9, .tSDEE), (.bD, .iX), (.cc, .tAN), (.dW, .tAAN), (.dF, .zG), (.cQ, .tADQ), (.cR, .tASQ), (.bj, .zF), (.bF, .zP)]
noncomputable def IX : List (Nm × AV) := []
theorem Fd (w : World) : ∃ fd st0 t1 t2 t3 y4 b2 p1 p2 p3 yp ep, iK (SS w) fd tE st0 t1 t2 t3 y4 b2 p1 p2 p3 yp ep := uR (by kernel_rfl) (fun _ _ => by kernel_rfl)
noncomputable def alpha : List Nat := [10, 32, 33, 34, 45, 47, 49, 60, 61, 62, 66, 69, 76, 84, 98, 101, 105, 107, 108, 116, 117, 118, 119, 120, 201]
noncomputable def G0 : bS where
 call := fun _ _ _ => none
 glob := fun x => lk gl x
 ba := fun c a => match c with | .txt => lk J7 a | .ak => lk Ga a | .tok => lk J4 a
 b6 := fun c a => match c with | .txt => lk IY a | .ak => lk EO a | .tok => lk IX a
 init := fun c => match c with | .txt => .mU | .ak => .xt | .tok => .t9
 fuel := 2000001
theorem AF (P : Params) : rW P (pZ (KK P)) := ⟨by kernel_rfl, by kernel_rfl⟩
theorem JJ (P : Params) (h : Heap) (I : (KK P).In h) : h.NoLimit :=
 have N := Heap.Ns.of_isNs (isNs_of_in I (N := cStatics) (by kernel_rfl))
 ⟨_, N, ns_none_of I N (by kernel_rfl)⟩
theorem Ff (w : World) : vU (SS w) G0 gl where
 call := fun _ _ _ => rfl
 glob := fun _ => rfl
 globs := by kernel_rfl
 ns := by kernel_rfl
 dicts := AF _
 cls := fun c => by cases c <;> kernel_rfl
 att := fun c => by cases c <;> kernel_rfl
 fns := fun f => by cases f <;> kernel_rfl
 lim := JJ _
 sys := ⟨Vb w.params, by kernel_rfl⟩
local macro_rules | `(tactic| trivial) => `(tactic| first | with_reducible exact bR | ((with_reducible apply nj); (with_reducible assumption)) | ((with_reducible apply x4); (with_reducible assumption)) | ((with_reducible apply nj); rfl) | ((with_reducible apply x4); rfl) | rfl)
local macro_rules | `(tactic| trivial) => `(tactic| with_reducible first
 | assumption | apply iW | apply iV | apply aJ | apply vx | apply vv | apply rD | apply vw | apply l9 | apply cg | apply oF | apply vy | apply rE | apply oG | exact rZ | apply El | apply Ib | apply KU | apply oH | apply vC
 | apply bK | apply ka | apply uF | apply gK | apply ll | apply eF | apply jk | apply eP | apply EI | apply AJ | apply wH | apply nv | apply i5 | apply sL | apply sJ | apply df | apply dE | apply aH
 | apply lq | apply sQ | apply nJ | apply lR | apply pW | apply lU | apply Cr | apply Ct | apply qn | apply lZ | apply Cs | apply lI | apply cV | apply uc | apply Lp | apply DM | apply DN | apply kZ | apply ju | apply gn | apply xE | apply cY | apply or_cons)
local macro_rules | `(tactic| trivial) => `(tactic| first | ((with_reducible apply Cq); rfl; rfl) | ((with_reducible apply oq); rfl; rfl))
noncomputable def wR (c : Nat) : Bool := alpha.any (Nat.beq c)
theorem wU {c : Nat} : wR c = true ↔ c ∈ alpha := by
 unfold wR
 rw [any_beq]
 simp
theorem Js (H : List AO) : ∀ c ∈ alpha, jL G0 jj [.int (c : Int)] H = some (.bool false, H, [2]) := by
 unfold alpha
 repeat' (first | exact (fun c h => absurd h List.not_mem_nil) | (refine List.forall_mem_cons.mpr ⟨?_, ?_⟩))
 all_goals kernel_rfl
noncomputable abbrev HW (f : Fn) (d : fG) : Prop := ∀ w, ig (SS w) f d
noncomputable def Vq : ∀ f, Option (FD HW f)
 | .gF => some ⟨jj, pq⟩
 | .mU => some ⟨pQ, sW⟩
 | .hU => some ⟨iy, sX⟩
 | .rG => some ⟨sA, uX⟩
 | .iH => some ⟨iR, yA⟩
 | .fF => some ⟨sz, uW⟩
 | .ly => some ⟨sy, uU⟩
 | _ => none
noncomputable def G1 : bS := lay G0 Vq
theorem LX (w : World) : a6 (SS w) G1 2 := q8 (yu (Ff w)) fun _ _ h => h w
theorem yi (l : List Nat) (hl : ∀ c ∈ l, c ∈ alpha) : ∀ (σ : St), (∀ k ∈ σ.O, k ≤ 100000) → ∃ V' O', (∀ k ∈ O', k ≤ 100000) ∧
  jO (gI [.n4] false) (b0 G1 (.cons (.ite (.call (.g .d6) (.cons (.call (.g .gM) (.cons (.v .n4) .nil)) .nil)) (.cons (.exp (.aw (.at (.v .aa) .dA) .aA (.cons (.c (.str [105,110,118,97,108,105,100,45,99,111,100,101,112,111,105,110,116])) .nil))) .nil) .nil) .nil)) (l.map fun c => .str [c]) σ = some (.nx, { H := σ.H, V := V', O := O' }) := by
 induction l with
 | nil => exact fun σ h => ⟨σ.V, σ.O, h, rfl⟩
 | cons c r ih =>
  intro σ h
  have hc : G1.call .gF [.int (c : Int)] σ.H = some (.bool false, σ.H, [2]) := Js σ.H c (hl c (.head _))
  obtain ⟨V', O', h1, h2⟩ := ih (fun d hd => hl d (.tail _ hd)) { H := σ.H, V := pt σ.V .n4 (.str [c]), O := 2 :: σ.O } (fun k hk => (List.mem_cons.mp hk).elim (fun e => e ▸ by decide) (h k))
  have hg1 : G1.glob .d6 = some (.fn .gF) := by kernel_rfl
  have hg2 : G1.glob .gM = some (.bi .ord) := by kernel_rfl
  refine ⟨V', O', h1, qL (σ1 := { H := σ.H, V := pt σ.V .n4 (.str [c]), O := σ.O }) rfl ?_ h2⟩
  repeat' trivial
theorem nI (H : List AO) (s : List Nat) (hs : s.all wR = true) : fK G1 wq [.inst .ak 3, .str s] H .none H [] := by
 obtain ⟨V', O', h1, h2⟩ := yi s (fun c hc => wU.mp (List.all_eq_true.mp hs c hc)) { H := H, V := [(.aa, .inst .ak 3), (.ag, .str s)], O := [] } (by simp)
 refine ⟨[(.aa, .inst .ak 3), (.ag, .str s)], H, .nx, { H := H, V := V', O := O' }, rfl, rfl, .refl H, ?_, rfl, .refl H, Nat.le_refl _, fun a b => ⟨a, .none⟩, fun k hk => .inl (h1 k hk)⟩
 show b0 G1 nU _ = _
 unfold nU
 exact aJ (vC (bK rfl) rfl h2) rfl
theorem tG (c x : Nat) (s : List Nat) : c7 c (s ++ [x]) = if x = c then (s.length : Int) else c7 c s := by
 have h : ∀ (n : Nat) (a : Int), n ≤ s.length → (List.range n).foldl (fun (l : Int) (i : Nat) => if (s ++ [x])[i]? = some c then (i : Int) else l) a = (List.range n).foldl (fun (l : Int) (i : Nat) => if s[i]? = some c then (i : Int) else l) a := by
  intro n
  induction n with
  | zero => intro a _; rfl
  | succ n ih =>
   intro a hn
   rw [List.range_succ, List.foldl_append, List.foldl_append, ih a (by omega)]
   simp only [List.foldl_cons, List.foldl_nil]
   rw [List.getElem?_append_left (by omega)]
 unfold c7
 rw [List.length_append, List.length_singleton, List.range_succ, List.foldl_append, h _ _ (Nat.le_refl _)]
 simp only [List.foldl_cons, List.foldl_nil]
 rw [List.getElem?_append_right (Nat.le_refl _)]
 simp
theorem wk (r : List Nat) : fA (10 :: r) = 0 := rfl
theorem pN (x : Nat) (r : List Nat) (h : x ≠ 10) : fA (x :: r) = fA r + 1 := by
 rw [fA, BT.beq_eq, decide_eq_false h]
theorem su (r : List Nat) : c7 10 r.reverse = -1 ∧ (fA r : Int) = r.length ∨ 0 ≤ c7 10 r.reverse ∧ (r.length : Int) - (c7 10 r.reverse + 1) = fA r := by
 induction r with
 | nil => left; exact ⟨rfl, rfl⟩
 | cons x r ih =>
  rw [List.reverse_cons, tG]
  by_cases e : x = 10
  ·subst e
   rw [if_pos rfl, wk]
   right
   simp
  ·rw [if_neg e, pN _ _ e]
   rcases ih with ⟨a, b⟩ | ⟨a, b⟩
   ·left; exact ⟨a, by simp; omega⟩
   ·right; exact ⟨a, by simp at b ⊢; omega⟩
theorem xN {s : List Nat} {c n : Nat} {f : Nat → Nat → AV} (h : n ≤ s.length) : upTo s (.str [c], .int 0, .int (n : Int)) f = some (f c n, []) :=
 have e : (decide ((0 : Int) = 0) && (decide (0 ≤ (n : Int)) && decide ((n : Int) ≤ s.length))) = true := by simp [h]
 show ia (decide ((0 : Int) = 0) && (decide (0 ≤ (n : Int)) && decide ((n : Int) ≤ s.length))) (f c (n : Int).toNat, ([] : List Nat)) = _ from e ▸ rfl
theorem vH {H : List AO} (s : List Nat) (c n : Nat) (h : n ≤ s.length) : js H .mJ s [.str [c], .int 0, .int (n : Int)] = some (.int ((s.take n).count c), []) := xN (c := c) (f := fun c b => .int ((s.take b).count c)) h
theorem vJ {H : List AO} (s : List Nat) (c n : Nat) (h : n ≤ s.length) : js H .mM s [.str [c], .int 0, .int (n : Int)] = some (.int (c7 c (s.take n)), []) := xN (c := c) (f := fun c b => .int (c7 c (s.take b))) h
theorem kU {H : List AO} {ao : AO} {aN : List (Nm × AV)} {q t : List Nat} {a b : Int} (h1 : H[3]? = some ao) (h2 : ao.fl = some aN) (h3 : lk aN .a9 = some (.str (q.reverse ++ t))) (h4 : lk aN .bg = some (.int a)) (h5 : lk aN .bq = some (.int b)) :
  jL G0 iR [.inst .ak 3, .int ((q.length : Nat) : Int)] H = some (.tup [.int (a + jQ q), .int (if c7 10 q.reverse = -1 then b + q.length else q.length - (c7 10 q.reverse + 1))], H, [2]) := by
 have e1 : (q.reverse ++ t).take q.length = q.reverse := by rw [← List.length_reverse (as := q), List.take_left']; rfl
 have m1 : G0.ba .ak .a9 = none := by kernel_rfl
 have m2 : G0.ba .ak .bg = none := by kernel_rfl
 have m3 : G0.ba .ak .bq = none := by kernel_rfl
 have c1 : G0.b6 .ak .a9 = none := by kernel_rfl
 have c2 : G0.b6 .ak .bg = none := by kernel_rfl
 have c3 : G0.b6 .ak .bq = none := by kernel_rfl
 have hl : q.length ≤ (q.reverse ++ t).length := by simp
 have s1 := vH (H := H) (q.reverse ++ t) 10 q.length hl
 have s2 := vJ (H := H) (q.reverse ++ t) 10 q.length hl
 rw [e1] at s1 s2
 have hf : hW H 3 = some aN := az h1 h2
 rw [jQ, ← List.count_reverse]
 by_cases hc : c7 10 q.reverse = -1
 ·rw [if_pos hc]
  have hb : (c7 10 q.reverse == -1) = true := beq_iff_eq.mpr hc
  have run : ∃ V, b0 G0 jn ⟨H, [(.aa, .inst .ak 3), (.fN, .int ((q.length : Nat) : Int))], []⟩ = some (.rt (.tup [.int (a + ((q.reverse.count 10 : Nat) : Int)), .int (b + q.length)]), ⟨H, V, [2]⟩) := ⟨_, by
   unfold jn
   apply run_eq
   repeat' trivial⟩
  exact run.elim fun V h => j0 rfl h rfl
 ·rw [if_neg hc]
  have hb : (c7 10 q.reverse == -1) = false := beq_eq_false_iff_ne.mpr hc
  have run : ∃ V, b0 G0 jn ⟨H, [(.aa, .inst .ak 3), (.fN, .int ((q.length : Nat) : Int))], []⟩ = some (.rt (.tup [.int (a + ((q.reverse.count 10 : Nat) : Int)), .int (q.length - (c7 10 q.reverse + 1))]), ⟨H, V, [2]⟩) := ⟨_, by
   unfold jn
   apply run_eq
   repeat' trivial⟩
  exact run.elim fun V h => j0 rfl h rfl
theorem gw.cons {a b : AO} {H H' : List AO} (s : H5 a b) (h : gw H H') : gw (a :: H) (b :: H') := fun i ao e => by
 cases i with
 | zero => cases e; exact ⟨a, rfl, s⟩
 | succ i => exact h i ao e
theorem zh (r m k : AO) (J : List AO) (rb aq : List Nat) (en : Bool) (lT : Nat) :
  fK G1 Aw [.inst .ak 3] (r :: m :: k :: .ak lT 3 rb aq en :: J) (.tup [.int (jQ rb + 1), .int (fA rb)]) (r :: m :: k :: .ak lT 3 rb aq en :: J) [] := by
 have hm : G1.ba .ak .fM = some .iH := by kernel_rfl
 have hc : G1.b6 .ak .fM = none := by kernel_rfl
 have hm2 : G1.ba .ak .ar = none := by kernel_rfl
 have hc2 : G1.b6 .ak .ar = none := by kernel_rfl
 have key : G1.call .iH [.inst .ak 3, .int (cond en 0 (rb.length : Int))] (r :: m :: k :: .ak lT 3 rb aq en :: J) = some (.tup [.int (jQ rb), .int (fA rb)], r :: m :: k :: .ak lT 3 rb aq en :: J, [2]) := by
  have hr : ∀ as H, G1.call .iH as H = jL G0 iR as H := fun _ _ => by kernel_rfl
  rw [hr]
  cases en with
  | true =>
   have := kU (H := r :: m :: k :: .ak lT 3 rb aq true :: J) (ao := .ak lT 3 rb aq true) (q := []) (t := []) (a := jQ rb) (b := fA rb) rfl rfl (by kernel_rfl) (by kernel_rfl) (by kernel_rfl)
   simpa [c7, jQ] using this
  | false =>
   have := kU (H := r :: m :: k :: .ak lT 3 rb aq false :: J) (ao := .ak lT 3 rb aq false) (q := rb) (t := aq) (a := 0) (b := 0) rfl rfl (by kernel_rfl) (by kernel_rfl) (by kernel_rfl)
   rcases su rb with ⟨h1, h2⟩ | ⟨h1, h2⟩
   ·rw [if_pos h1] at this
    simpa [h2] using this
   ·rw [if_neg (by omega), h2] at this
    simpa using this
 refine ⟨[(.aa, .inst .ak 3)], _, .rt (.tup [.int (jQ rb + 1), .int (fA rb)]), { H := r :: m :: k :: .ak lT 3 rb aq en :: J, V := [(.aa, .inst .ak 3), (.cU, .int (jQ rb)), (.w6, .int (fA rb))], O := [2, 2] }, rfl, rfl, .refl _, ?_, rfl, .refl _, Nat.le_refl _, fun a b => ⟨a, .tup (.cons (.int _) (.cons (.int _) .nil))⟩, fun k hk => .inl ?_⟩
 ·show b0 G1 qT _ = _
  unfold qT
  apply run_eq
  repeat' trivial
 ·simp at hk; omega
noncomputable def fU (c : Nat) : Nat := if 65 ≤ c ∧ c ≤ 90 then c + 32 else c
noncomputable def kC : Ex := (.ite (.cmp (.c (.str [65])) (.cons .le (.v .n4) (.cons .le (.c (.str [90])) .nil))) (.call (.g .lX) (.cons (.bin .add (.call (.g .gM) (.cons (.v .n4) .nil)) (.c (.int 32))) .nil)) (.v .n4))
theorem q9 (a b : Nat) : Ef [a] [b] = decide (a ≤ b) := by
 unfold Ef
 by_cases e : a = b
 ·subst e; simp [Ef]
 ·rw [if_neg e]
  by_cases h : a < b
  ·rw [decide_eq_true h, decide_eq_true (by omega)]
  ·rw [decide_eq_false h, decide_eq_false (by omega)]
theorem IS {H : List AO} {i : Int} : Ea H .chr [.int i] = ia (decide (0 ≤ i) && decide (i < 55296)) (.str [i.toNat], []) := rfl
theorem FQ (σ : St) (c : Nat) (h : lk σ.V .n4 = some (.str [c])) : ev G1 kC σ = some (.str [fU c], σ) := by
 have g1 : G1.glob .lX = some (.bi .chr) := by kernel_rfl
 have g2 : G1.glob .gM = some (.bi .ord) := by kernel_rfl
 unfold kC fU
 have q1 : jT σ.H .le (.str [65]) (.str [c]) = some (decide (65 ≤ c)) := az (o := some (Ef [65] [c])) (f := some) (congrArg some (q9 65 c)) rfl
 have q2 : jT σ.H .le (.str [c]) (.str [90]) = some (decide (c ≤ 90)) := az (o := some (Ef [c] [90])) (f := some) (congrArg some (q9 c 90)) rfl
 by_cases h1 : 65 ≤ c
 ·have d1 : decide (65 ≤ c) = true := decide_eq_true h1
  by_cases h2 : c ≤ 90
  ·have d2 : decide (c ≤ 90) = true := decide_eq_true h2
   have b1 : Ea σ.H .chr [.int ((c : Int) + 32)] = some (.str [c + 32], []) := by
    rw [IS, decide_eq_true (show (0 : Int) ≤ (c : Int) + 32 by omega), decide_eq_true (show (c : Int) + 32 < 55296 by omega), show ((c : Int) + 32).toNat = c + 32 by omega]
    rfl
   rw [if_pos ⟨h1, h2⟩]
   apply AQ
   repeat' trivial
  ·have d2 : decide (c ≤ 90) = false := decide_eq_false h2
   rw [if_neg fun z => h2 z.2]
   apply AQ
   repeat' trivial
 ·have d1 : decide (65 ≤ c) = false := decide_eq_false h1
  rw [if_neg fun z => h1 z.1]
  apply AQ
  repeat' trivial
theorem Cd (l : List Nat) : ∀ σ : St, ∃ V', iw (gI [.n4] false) (j7 G1 .nil) (ev G1 kC) (l.map fun c => .str [c]) σ = some (l.map fun c => .str [fU c], { H := σ.H, V := V', O := σ.O }) := by
 induction l with
 | nil => exact fun σ => ⟨σ.V, rfl⟩
 | cons c r ih =>
  intro σ
  obtain ⟨V', h⟩ := ih { H := σ.H, V := pt σ.V .n4 (.str [c]), O := σ.O }
  refine ⟨V', ?_⟩
  exact az rfl (az rfl (az (FQ _ _ bR) (az h rfl)))
theorem zD (l : List Nat) (f : Nat → Nat) : iI (l.map fun c => .str [f c]) = some (l.map fun c => [f c]) := by
 induction l with
 | nil => rfl
 | cons c r ih => rw [List.map_cons, iI, ih]; rfl
theorem A0 (l : List Nat) (f : Nat → Nat) : (l.map fun c => [f c]).flatten = l.map f := by
 induction l with
 | nil => rfl
 | cons c r ih => rw [List.map_cons, List.flatten_cons, ih]; rfl
theorem y8 (H : List AO) (s : List Nat) : fK G1 km [.str s] H (.str (s.map fU)) H [s.length] := by
 obtain ⟨V', h⟩ := Cd s { H := H, V := g7 [(.n4, .loc), (.lX, .cI), (.gM, .cI)] [(.af, .str s)], O := [] }
 have hj : js H .f5 [] [.lst (s.map fun c => .str [fU c])] = some (.str (s.map fU), [(s.map fU).length]) := by
  show (iI (s.map fun c => .str [fU c])).map (fun l => (AV.str l.flatten, [l.flatten.length])) = _
  rw [zD, Option.map_some, A0]
 refine ⟨[(.af, .str s)], H, .rt (.str (s.map fU)), { H := H, V := [(.af, .str s)], O := [s.length, s.length] }, rfl, rfl, .refl _, ?_, rfl, .refl _, Nat.le_refl _, fun a b => ⟨a, .str _⟩, fun k hk => .inr ⟨s.length, .head _, by simp at hk; omega⟩⟩
 have ec : ev G1 (.comp [(.n4, .loc), (.lX, .cI), (.gM, .cI)] kC [.n4] (.v .af) .nil) { H := H, V := [(.af, .str s)], O := [] } = some (.lst (s.map fun c => .str [fU c]), { H := H, V := [(.af, .str s)], O := [s.length] }) := (List.length_map (as := s) fun c => AV.str [fU c]) ▸ az (bK rfl) (az rfl (az h rfl))
 have hj' := hj
 rw [List.length_map] at hj'
 show b0 G1 (.cons (.ret (.aw (.c (.str [])) .f5 (.cons (.comp [(.n4, .loc), (.lX, .cI), (.gM, .cI)] kC [.n4] (.v .af) .nil) .nil))) .nil) _ = _
 apply run_eq
 repeat' trivial
noncomputable def cA : ∀ f as H, Option (CP HW G1 f as H)
 | .iG, [.inst .ak 3, .str s], H => Fo (s.all wR) fun h => ⟨(.none, H, []), fun _ => ⟨_, qc, nI _ _ h⟩⟩
 | .iN, [.str s], H => some ⟨(.str (s.map fU), H, [s.length]), fun _ => ⟨_, nN, y8 _ _⟩⟩
 | .kY, [.inst .ak 3], r :: m :: k :: .ak lT 3 rb aq en :: J => some ⟨(.tup [.int (jQ rb + 1), .int (fA rb)], r :: m :: k :: .ak lT 3 rb aq en :: J, []), fun _ => ⟨_, Bf, zh _ _ _ _ _ _ _ _⟩⟩
 | _, _, _ => none
theorem Ez (s : List Nat) (H : List AO) : cA .iG [.inst .ak 3, .str s] H = Fo (s.all wR) fun h => ⟨(.none, H, []), fun _ => ⟨_, qc, nI _ _ h⟩⟩ := by kernel_rfl
noncomputable def G2 : bS := y7 G1 cA
theorem LY (w : World) : a6 (SS w) G2 4 := mN (LX w) fun _ _ h => h w
theorem xI (r m k s : AO) (J : List AO) (t : List Nat) (p : Nat) :
  jL G0 iy [.inst .txt 4, .int 10240] (r :: m :: k :: s :: .dict [(.af, .str t), (.ae, .int (p : Int))] :: J) =
   some (.str (eQ t (min p t.length) (min (p + 10240) t.length)), r :: m :: k :: s :: .dict [(.af, .str t), (.ae, .int ((p : Int) + (eQ t (min p t.length) (min (p + 10240) t.length)).length))] :: J, [3]) := by
 have m1 : G0.ba .txt .af = none := by kernel_rfl
 have m2 : G0.ba .txt .ae = none := by kernel_rfl
 have c1 : G0.b6 .txt .af = none := by kernel_rfl
 have c2 : G0.b6 .txt .ae = none := by kernel_rfl
 have hg : G0.glob .bw = some (.bi .len) := by kernel_rfl
 have e1 : dn (p : Int) t.length = min p t.length := clipAt_nat t.length p
 have e2 : dn ((p : Int) + 10240) t.length = min (p + 10240) t.length := clipAt_nat t.length (p + 10240)
 have sl : zw (r :: m :: k :: s :: .dict [(.af, .str t), (.ae, .int (p : Int))] :: J) (.str t) (.int p) (.int ((p : Int) + 10240)) = some (.str (eQ t (min p t.length) (min (p + 10240) t.length))) := by
  show some (AV.str (eQ t (dn p t.length) (dn ((p : Int) + 10240) t.length))) = _
  rw [e1, e2]
 have run : ∃ V, b0 G0 jX ⟨r :: m :: k :: s :: .dict [(.af, .str t), (.ae, .int (p : Int))] :: J, [(.aa, .inst .txt 4), (.qY, .int 10240)], []⟩ = some (.rt (.str (eQ t (min p t.length) (min (p + 10240) t.length))), ⟨r :: m :: k :: s :: .dict [(.af, .str t), (.ae, .int ((p : Int) + (eQ t (min p t.length) (min (p + 10240) t.length)).length))] :: J, V, [3]⟩) := ⟨_, by
  unfold jX
  apply run_eq
  repeat' trivial⟩
 exact run.elim fun V h => j0 rfl h rfl
theorem qr {H : List AO} (s : List Nat) (r y : List Nat) (h : s.any (Nat.beq 13) = false) : js H .iE s [.str (13 :: r), .str y] = some (.str s, [s.length]) := by
 show ia (!s.any (Nat.beq 13)) (AV.str s, [s.length]) = _
 rw [h]; rfl
theorem d4 {n : Nat} (h : 5 ≤ n) (rb aq : List Nat) (en : Bool) : i9 n (.ak 4 3 rb aq en) := fun aN e => by
 cases e
 exact .cons (.ba (.inst (by omega))) (.cons (.lst (.cons (.int _) .nil)) (.cons (.inst (by omega)) (.cons (.str _) (.cons (.int _) (.cons (.int _) (.cons (.lst .nil) (.cons (.int _) (.cons (.int _) (.cons .none .nil)))))))))
theorem gz {n : Nat} (t : List Nat) (d : Bool) : i9 n (.txt t d) := fun aN e => by
 cases e
 exact .cons (.str _) (.cons (.int _) .nil)
theorem gW {r m k a b a' b' : AO} {J : List AO} (h : la (r :: m :: k :: a :: b :: J).length (r :: m :: k :: a :: b :: J)) (ha : i9 (r :: m :: k :: a' :: b' :: J).length a') (hb : i9 (r :: m :: k :: a' :: b' :: J).length b') :
  la (r :: m :: k :: a' :: b' :: J).length (r :: m :: k :: a' :: b' :: J) := fun ao hm => by
 simp only [List.mem_cons] at hm
 have e : (r :: m :: k :: a :: b :: J).length = (r :: m :: k :: a' :: b' :: J).length := rfl
 rcases hm with rfl | rfl | rfl | rfl | rfl | hm
 ·exact e ▸ h _ (.head _)
 ·exact e ▸ h _ (.tail _ (.head _))
 ·exact e ▸ h _ (.tail _ (.tail _ (.head _)))
 ·exact ha
 ·exact hb
 ·exact e ▸ h _ (.tail _ (.tail _ (.tail _ (.tail _ (.tail _ hm)))))
local macro_rules | `(tactic| trivial) => `(tactic| first | with_reducible exact bR | ((with_reducible apply nj); (with_reducible assumption)) | ((with_reducible apply x4); (with_reducible assumption)) | ((with_reducible apply nj); exact rfl) | ((with_reducible apply x4); exact rfl) | exact rfl)
local macro_rules | `(tactic| trivial) => `(tactic| with_reducible first
 | assumption | apply iW | exact vD | exact vu | apply iV | apply aJ | apply vx | apply vv | apply rD | apply vw | apply j5 | apply l9 | apply cg | apply KS | apply vy | apply rE | apply oG | exact rZ | apply El | apply Mj | apply vA | apply vz | apply oH | apply vC
 | apply bK | apply ka | apply uF | apply gK | apply ll | apply eF | apply jk | apply eP | apply EI | apply AJ | apply wH | apply nv | apply i5 | apply sL | apply sJ | apply df | apply dE | apply aH
 | apply lq | apply sQ | apply nJ | apply lR | apply pW | apply lU | apply Cr | apply Ct | apply qn | apply lZ | apply Cs | apply lI | apply cV | apply uc | apply Lp | apply DM | apply DN | apply kZ | apply ju | apply gn | apply xE | apply cY | apply or_cons)
local macro_rules | `(tactic| trivial) => `(tactic| first | ((with_reducible apply Cq); exact rfl; exact rfl) | ((with_reducible apply oq); exact rfl; exact rfl))
theorem Dn (r m k : AO) (J : List AO) (rb aq t : List Nat) (en : Bool) (ha : en = true → aq = []) :
  fK G2 mD [.inst .ak 3] (r :: m :: k :: .ak 4 3 rb aq en :: .txt t true :: J) (.bool false) (r :: m :: k :: .ak 4 3 (aq.reverse ++ rb) [] true :: .txt t true :: J) [] := by
 have key : G2.call .iH [.inst .ak 3, .int (cond en 0 ((rb.length + aq.length : Nat) : Int))] (r :: m :: k :: .dict (aB 4 3 rb aq en) :: .dict [(.af, .str t), (.ae, .int (t.length : Int))] :: J) =
   some (.tup [.int (jQ (aq.reverse ++ rb)), .int (fA (aq.reverse ++ rb))], r :: m :: k :: .dict (aB 4 3 rb aq en) :: .dict [(.af, .str t), (.ae, .int (t.length : Int))] :: J, [2]) := by
  have hr : ∀ as H, G2.call .iH as H = jL G0 iR as H := fun _ _ => by kernel_rfl
  rw [hr]
  cases en with
  | true =>
   obtain rfl := ha rfl
   have := kU (H := r :: m :: k :: .dict (aB 4 3 rb [] true) :: .dict [(.af, .str t), (.ae, .int (t.length : Int))] :: J) (ao := .dict (aB 4 3 rb [] true)) (q := []) (t := []) (a := jQ rb) (b := fA rb) rfl rfl (by kernel_rfl) (by kernel_rfl) (by kernel_rfl)
   simpa [c7, jQ] using this
  | false =>
   have hch : lk (aB 4 3 rb aq false) .a9 = some (.str ((aq.reverse ++ rb).reverse ++ [])) := by
    have : lk (aB 4 3 rb aq false) .a9 = some (.str (rb.reverse ++ aq)) := by kernel_rfl
    rw [this]; simp
   have := kU (H := r :: m :: k :: .dict (aB 4 3 rb aq false) :: .dict [(.af, .str t), (.ae, .int (t.length : Int))] :: J) (ao := .dict (aB 4 3 rb aq false)) (q := aq.reverse ++ rb) (t := []) (a := 0) (b := 0) rfl rfl hch (by kernel_rfl) (by kernel_rfl)
   have hl : ((aq.reverse ++ rb).length : Int) = ((rb.length + aq.length : Nat) : Int) := by simp; omega
   rw [hl] at this
   show jL G0 iR [.inst .ak 3, .int ((rb.length + aq.length : Nat) : Int)] _ = _
   rw [this]
   rcases su (aq.reverse ++ rb) with ⟨h1, h2⟩ | ⟨h1, h2⟩
   ·rw [if_pos h1, h2, hl]; simp
   ·rw [if_neg (by omega), ← h2, hl]; simp
 have key2 : ∀ s, G2.call .hU [.inst .txt 4, .int 10240] (r :: m :: k :: s :: .dict [(.af, .str t), (.ae, .int (t.length : Int))] :: J) = some (.str [], r :: m :: k :: s :: .dict [(.af, .str t), (.ae, .int (t.length : Int))] :: J, [3]) := fun s => by
  have hr : ∀ as H, G2.call .hU as H = jL G0 iy as H := fun _ _ => by kernel_rfl
  rw [hr, xI]
  have : eQ t (min t.length t.length) (min (t.length + 10240) t.length) = [] := by unfold eQ; simp
  rw [this]; simp
 refine ⟨[(.aa, .inst .ak 3), (.aC, .none)], r :: m :: k :: .dict (aB 4 3 rb aq en) :: .dict [(.af, .str t), (.ae, .int (t.length : Int))] :: J, .rt (.bool false), { H := r :: m :: k :: .dict (aB 4 3 (aq.reverse ++ rb) [] true) :: .dict [(.af, .str t), (.ae, .int (t.length : Int))] :: J, V := [(.aa, .inst .ak 3), (.aC, .int 10240), (.ag, .str [])], O := [3, 11, 11, 11, 11, 11, 2] }, rfl, by simp, ?_, ?_, rfl, ?_, by simp, ?_, ?_⟩
 ·exact .cons (.refl _) (.cons (.refl _) (.cons (.refl _) (.cons (.inr ⟨_, rfl, rfl⟩) (.cons (.inr ⟨_, rfl, rfl⟩) (.refl _)))))
 ·show b0 G2 eU _ = _
  have key3 := key2 (.dict (aB 4 3 (aq.reverse ++ rb) [] true))
  simp only [aB, cond_true] at key3
  unfold eU
  apply run_eq
  repeat' trivial
 ·exact .cons (.refl _) (.cons (.refl _) (.cons (.refl _) (.cons (.inr ⟨_, rfl, rfl⟩) (.cons (.inr ⟨_, rfl, rfl⟩) (.refl _)))))
 ·exact fun h _ => ⟨gW h (d4 (by simp) _ _ _) (gz _ _), .bool _⟩
 ·intro k hk; simp at hk; left; omega
theorem lN : ∀ c ∈ alpha, c ≠ 13 ∧ c < 55296 := by decide +kernel
theorem xc (r m k : AO) (J : List AO) (t : List Nat) (S : AO) (hS : S.fl = some (aB 4 3 [] [] true)) :
  G2.call .iH [.inst .ak 3, .int 0] (r :: m :: k :: S :: .dict [(.af, .str t), (.ae, .int 0)] :: J) = some (.tup [.int 0, .int 0], r :: m :: k :: S :: .dict [(.af, .str t), (.ae, .int 0)] :: J, [2]) := by
 have hr : ∀ as H, G2.call .iH as H = jL G0 iR as H := fun _ _ => by kernel_rfl
 rw [hr]
 have := kU (H := r :: m :: k :: S :: .dict [(.af, .str t), (.ae, .int 0)] :: J) (ao := S) (q := []) (t := []) (a := 0) (b := 0) rfl hS (by kernel_rfl) (by kernel_rfl) (by kernel_rfl)
 simpa [c7, jQ] using this
theorem tC (r m k s : AO) (J : List AO) (t : List Nat) (hl : t.length ≤ 10240) :
  G2.call .hU [.inst .txt 4, .int 10240] (r :: m :: k :: s :: .dict [(.af, .str t), (.ae, .int 0)] :: J) = some (.str t, r :: m :: k :: s :: .dict [(.af, .str t), (.ae, .int (t.length : Int))] :: J, [3]) := by
 have hr : ∀ as H, G2.call .hU as H = jL G0 iy as H := fun _ _ => by kernel_rfl
 have e := xI r m k s J t 0
 have : eQ t (min 0 t.length) (min (0 + 10240) t.length) = t := by
  have h2 : min (0 + 10240) t.length = t.length := by omega
  rw [h2, Nat.zero_min]; simp [eQ]
 rw [this] at e
 rw [hr]
 simpa using e
noncomputable abbrev K9 : AO := .dict [(.aT, .ba .iG (.inst .ak 3)), (.dK, .lst [.int 0]), (.cn, .inst .txt 4), (.a9, .str []), (.aC, .int 0), (.ar, .int 0), (.dA, .lst []), (.bg, .int 0), (.bq, .int 0), (.aR, .none)]
theorem Dp (r m k : AO) (J : List AO) :
  fK G2 mD [.inst .ak 3] (r :: m :: k :: .ak 4 3 [] [] true :: .txt [] false :: J) (.bool false) (r :: m :: k :: .ak 4 3 [] [] true :: .txt [] true :: J) [] := by
 have key : G2.call .iH [.inst .ak 3, .int (cond true 0 ((([] : List Nat).length + ([] : List Nat).length : Nat) : Int))] (r :: m :: k :: .dict (aB 4 3 [] [] true) :: .dict [(.af, .str []), (.ae, .int 0)] :: J) = _ := xc r m k J [] (.dict (aB 4 3 [] [] true)) rfl
 have key2 := tC r m k K9 J [] (by simp)
 refine ⟨[(.aa, .inst .ak 3), (.aC, .none)], r :: m :: k :: .dict (aB 4 3 [] [] true) :: .dict [(.af, .str []), (.ae, .int 0)] :: J, .rt (.bool false), { H := r :: m :: k :: .dict (aB 4 3 [] [] true) :: .dict [(.af, .str []), (.ae, .int 0)] :: J, V := [(.aa, .inst .ak 3), (.aC, .int 10240), (.ag, .str [])], O := [3, 11, 11, 11, 11, 11, 2] }, rfl, by simp, ?_, ?_, rfl, ?_, by simp, ?_, ?_⟩
 ·exact .cons (.refl _) (.cons (.refl _) (.cons (.refl _) (.cons (.inr ⟨_, rfl, rfl⟩) (.cons (.inr ⟨_, rfl, rfl⟩) (.refl _)))))
 ·show b0 G2 eU _ = _
  unfold eU
  apply run_eq
  repeat' trivial
 ·exact .cons (.refl _) (.cons (.refl _) (.cons (.refl _) (.cons (.inr ⟨_, rfl, rfl⟩) (.cons (.inr ⟨_, rfl, rfl⟩) (.refl _)))))
 ·exact fun h _ => ⟨gW h (d4 (by simp) _ _ _) (gz _ _), .bool _⟩
 ·intro k hk; simp at hk; left; omega
theorem DB (t : List Nat) : aB 4 3 [] t false = [(.aT, .ba .iG (.inst .ak 3)), (.dK, .lst [.int 0]), (.cn, .inst .txt 4), (.a9, .str t), (.aC, .int t.length), (.ar, .int 0), (.dA, .lst []), (.bg, .int 0), (.bq, .int 0), (.aR, .none)] := by simp [aB]
theorem Cu {H : List AO} {t : List Nat} {i : Int} {n : Nat} (e : idx i t.length = some n) : lW H (.str t) (.int i) = some (.str [t.getD n 0]) := congrArg (Option.map fun j => AV.str [t.getD j 0]) e
theorem tR (r m k : AO) (J : List AO) (c : Nat) (t' : List Nat) (ha : (c :: t').all wR = true) (hl : (c :: t').length ≤ 10240) :
  fK G2 mD [.inst .ak 3] (r :: m :: k :: .ak 4 3 [] [] true :: .txt (c :: t') false :: J) (.bool true) (r :: m :: k :: .dict (aB 4 3 [] (c :: t') false) :: .txt (c :: t') true :: J) [] := by
 generalize ht : c :: t' = t at ha hl ⊢
 have hne : t.isEmpty = false := by rw [← ht]; rfl
 have hpos : 0 < t.length := by rw [← ht]; simp
 have key : G2.call .iH [.inst .ak 3, .int (cond true 0 ((([] : List Nat).length + ([] : List Nat).length : Nat) : Int))] (r :: m :: k :: .dict (aB 4 3 [] [] true) :: .dict [(.af, .str t), (.ae, .int 0)] :: J) = _ := xc r m k J t (.dict (aB 4 3 [] [] true)) rfl
 have key2 := tC r m k K9 J t hl
 have hne2 : (!(!t.isEmpty)) = false := by rw [hne]; rfl
 have hal : ∀ x ∈ t, x ∈ alpha := fun x hx => wU.mp (List.all_eq_true.mp ha x hx)
 have h13 : t.any (Nat.beq 13) = false := by
  rw [any_beq]
  exact decide_eq_false fun h => (lN 13 (hal 13 h)).1 rfl
 have hrep := qr (H := r :: m :: k :: K9 :: .dict [(.af, .str t), (.ae, .int (t.length : Int))] :: J) t [] [10] h13
 have hrep2 := qr (H := r :: m :: k :: K9 :: .dict [(.af, .str t), (.ae, .int (t.length : Int))] :: J) t [10] [10] h13
 have kerr : G2.call .iG [.inst .ak 3, .str t] (r :: m :: k :: K9 :: .dict [(.af, .str t), (.ae, .int (t.length : Int))] :: J) = some (.none, _, []) := lB ((Ez t (r :: m :: k :: K9 :: .dict [(.af, .str t), (.ae, .int (t.length : Int))] :: J)).trans (nS ha))
 have hlast : ∃ x, x ∈ t ∧ lW (r :: m :: k :: K9 :: .dict [(.af, .str t), (.ae, .int (t.length : Int))] :: J) (.str t) (.int (-1)) = some (.str [x]) := by
  refine ⟨t.getD (t.length - 1) 0, ?_, ?_⟩
  ·have hlt : t.length - 1 < t.length := by omega
   rw [List.getD_eq_getElem?_getD, List.getElem?_eq_getElem hlt]
   exact List.getElem_mem hlt
  ·have e : idx (-1) t.length = some (t.length - 1) := by
    unfold idx
    rw [show decide ((0 : Int) ≤ -1) = false from rfl, decide_eq_true (show (0 : Int) ≤ -1 + (t.length : Int) by omega), show (-1 + (t.length : Int)).toNat = t.length - 1 by omega]
    rfl
   exact Cu e
 obtain ⟨x, hx, hix⟩ := hlast
 have hx1 := lN x (hal x hx)
 have hx2 : ((x : Int) == 13) = false := beq_eq_false_iff_ne.mpr (by omega)
 have hx3 : decide ((55296 : Int) ≤ (x : Int)) = false := decide_eq_false (by omega)
 have hgl : G2.glob .bw = some (.bi .len) := by kernel_rfl
 have hgo : G2.glob .gM = some (.bi .ord) := by kernel_rfl
 have cl : ∀ n, 5 ≤ n → i9 n (.dict [(.aT, .ba .iG (.inst .ak 3)), (.dK, .lst [.int 0]), (.cn, .inst .txt 4), (.a9, .str t), (.aC, .int t.length), (.ar, .int 0), (.dA, .lst []), (.bg, .int 0), (.bq, .int 0), (.aR, .none)]) := fun n h aN e => d4 h [] t false aN (by
  rw [← e]
  exact congrArg some (DB t))
 rw [DB]
 by_cases h1 : 1 < t.length
 ·have h1' : decide ((1 : Int) < (t.length : Int)) = true := decide_eq_true (by omega)
  refine ⟨[(.aa, .inst .ak 3), (.aC, .none)], r :: m :: k :: .dict (aB 4 3 [] [] true) :: .dict [(.af, .str t), (.ae, .int 0)] :: J, .rt (.bool true), { H := r :: m :: k :: .dict [(.aT, .ba .iG (.inst .ak 3)), (.dK, .lst [.int 0]), (.cn, .inst .txt 4), (.a9, .str t), (.aC, .int t.length), (.ar, .int 0), (.dA, .lst []), (.bg, .int 0), (.bq, .int 0), (.aR, .none)] :: .dict [(.af, .str t), (.ae, .int (t.length : Int))] :: J, V := [(.aa, .inst .ak 3), (.aC, .int 10240), (.ag, .str t), (.kH, .int x)], O := [11, 11, t.length, t.length, 3, 11, 11, 11, 11, 11, 2] }, rfl, by simp, ?_, ?_, rfl, ?_, by simp, ?_, ?_⟩
  ·exact .cons (.refl _) (.cons (.refl _) (.cons (.refl _) (.cons (.inr ⟨_, rfl, rfl⟩) (.cons (.inr ⟨_, rfl, rfl⟩) (.refl _)))))
  ·show b0 G2 eU _ = _
   unfold eU
   apply run_eq
   repeat' trivial
  ·exact .cons (.refl _) (.cons (.refl _) (.cons (.refl _) (.cons (.refl _) (.cons (.inr ⟨_, rfl, rfl⟩) (.refl _)))))
  ·exact fun h _ => ⟨gW h (cl _ (by simp)) (gz _ _), .bool _⟩
  ·intro k hk; simp at hk; left; omega
 ·have h1' : decide ((1 : Int) < (t.length : Int)) = false := decide_eq_false (by omega)
  refine ⟨[(.aa, .inst .ak 3), (.aC, .none)], r :: m :: k :: .dict (aB 4 3 [] [] true) :: .dict [(.af, .str t), (.ae, .int 0)] :: J, .rt (.bool true), { H := r :: m :: k :: .dict [(.aT, .ba .iG (.inst .ak 3)), (.dK, .lst [.int 0]), (.cn, .inst .txt 4), (.a9, .str t), (.aC, .int t.length), (.ar, .int 0), (.dA, .lst []), (.bg, .int 0), (.bq, .int 0), (.aR, .none)] :: .dict [(.af, .str t), (.ae, .int (t.length : Int))] :: J, V := [(.aa, .inst .ak 3), (.aC, .int 10240), (.ag, .str t)], O := [11, 11, t.length, t.length, 3, 11, 11, 11, 11, 11, 2] }, rfl, by simp, ?_, ?_, rfl, ?_, by simp, ?_, ?_⟩
  ·exact .cons (.refl _) (.cons (.refl _) (.cons (.refl _) (.cons (.inr ⟨_, rfl, rfl⟩) (.cons (.inr ⟨_, rfl, rfl⟩) (.refl _)))))
  ·show b0 G2 eU _ = _
   unfold eU
   apply run_eq
   repeat' trivial
  ·exact .cons (.refl _) (.cons (.refl _) (.cons (.refl _) (.cons (.refl _) (.cons (.inr ⟨_, rfl, rfl⟩) (.refl _)))))
  ·exact fun h _ => ⟨gW h (cl _ (by simp)) (gz _ _), .bool _⟩
  ·intro k hk; simp at hk; left; omega
noncomputable def cB : ∀ f as H, Option (CP HW G2 f as H)
 | .hK, [.inst .ak 3], r :: m :: k :: .ak 4 3 rb aq en :: .txt t true :: J => Fo (!en || aq.isEmpty) fun h => ⟨(.bool false, r :: m :: k :: .ak 4 3 (aq.reverse ++ rb) [] true :: .txt t true :: J, []), fun _ => ⟨_, jy, Dn _ _ _ _ _ _ _ _ fun z => by subst z; simpa using h⟩⟩
 | .hK, [.inst .ak 3], r :: m :: k :: .ak 4 3 [] [] true :: .txt [] false :: J => some ⟨(.bool false, r :: m :: k :: .ak 4 3 [] [] true :: .txt [] true :: J, []), fun _ => ⟨_, jy, Dp _ _ _ _⟩⟩
 | .hK, [.inst .ak 3], r :: m :: k :: .ak 4 3 [] [] true :: .txt (c :: t) false :: J => Fo ((c :: t).all wR && Nat.ble (c :: t).length 10240) fun h => ⟨(.bool true, r :: m :: k :: .dict (aB 4 3 [] (c :: t) false) :: .txt (c :: t) true :: J, []), fun _ => ⟨_, jy, tR _ _ _ _ _ _ (aX h).1 (Nat.le_of_ble_eq_true (aX h).2)⟩⟩
 | _, _, _ => none
theorem IE (r m k : AO) (J : List AO) (c : Nat) (t : List Nat) : cB .hK [.inst .ak 3] (r :: m :: k :: .ak 4 3 [] [] true :: .txt (c :: t) false :: J) = Fo ((c :: t).all wR && Nat.ble (c :: t).length 10240) fun h => ⟨(.bool true, r :: m :: k :: .dict (aB 4 3 [] (c :: t) false) :: .txt (c :: t) true :: J, []), fun _ => ⟨_, jy, tR _ _ _ _ _ _ (aX h).1 (Nat.le_of_ble_eq_true (aX h).2)⟩⟩ := by kernel_rfl
noncomputable def G3 : bS := y7 G2 cB
theorem LZ (w : World) : a6 (SS w) G3 6 := mN (LY w) fun _ _ h => h w
theorem wj {r m k a a' : AO} {J : List AO} (h : la (r :: m :: k :: a :: J).length (r :: m :: k :: a :: J)) (ha : i9 (r :: m :: k :: a' :: J).length a') : la (r :: m :: k :: a' :: J).length (r :: m :: k :: a' :: J) := fun ao hm => by
 simp only [List.mem_cons] at hm
 have e : (r :: m :: k :: a :: J).length = (r :: m :: k :: a' :: J).length := rfl
 rcases hm with rfl | rfl | rfl | rfl | hm
 ·exact e ▸ h _ (.head _)
 ·exact e ▸ h _ (.tail _ (.head _))
 ·exact e ▸ h _ (.tail _ (.tail _ (.head _)))
 ·exact ha
 ·exact e ▸ h _ (.tail _ (.tail _ (.tail _ (.tail _ hm))))
noncomputable abbrev LW (rb aq : List Nat) (off : Int) : AO := .dict [(.aT, .ba .iG (.inst .ak 3)), (.dK, .lst [.int 0]), (.cn, .inst .txt 4), (.a9, .str (rb.reverse ++ aq)), (.aC, .int ((rb.length + aq.length : Nat) : Int)), (.ar, .int off), (.dA, .lst []), (.bg, .int 0), (.bq, .int 0), (.aR, .none)]
theorem qW (H : List AO) (rb aq : List Nat) (c : Nat) : lW H (.str (rb.reverse ++ c :: aq)) (.int (rb.length : Int)) = some (.str [c]) := by
 have h0 : decide ((0 : Int) ≤ (rb.length : Int)) = true := decide_eq_true (by omega)
 have h1 : decide ((rb.length : Int).toNat < (rb.reverse ++ c :: aq).length) = true := decide_eq_true (by simp)
 have e : idx (rb.length : Int) (rb.reverse ++ c :: aq).length = some rb.length := by
  unfold idx
  rw [h0, h1]
  rfl
 rw [Cu e]
 simp [List.getD_eq_getElem?_getD]
theorem Aq (r m k T : AO) (J : List AO) (rb aq : List Nat) (c : Nat) :
  fK G3 kn [.inst .ak 3] (r :: m :: k :: .ak 4 3 rb (c :: aq) false :: T :: J) (.str [c]) (r :: m :: k :: .ak 4 3 (c :: rb) aq false :: T :: J) [] := by
 have hix := qW (r :: m :: k :: LW rb (c :: aq) rb.length :: T :: J) rb aq c
 have hge : decide (((rb.length + (c :: aq).length : Nat) : Int) ≤ (rb.length : Int)) = false := decide_eq_false (by simp; omega)
 refine ⟨[(.aa, .inst .ak 3)], r :: m :: k :: LW rb (c :: aq) rb.length :: T :: J, .rt (.str [c]), { H := r :: m :: k :: LW rb (c :: aq) ((rb.length : Int) + 1) :: T :: J, V := [(.aa, .inst .ak 3), (.ar, .int (rb.length : Int)), (.bN, .str [c])], O := [11] }, rfl, by simp, ?_, ?_, rfl, ?_, by simp, ?_, ?_⟩
 ·exact .cons (.refl _) (.cons (.refl _) (.cons (.refl _) (.cons (.inr ⟨_, rfl, rfl⟩) (.refl _))))
 ·show b0 G3 eT _ = _
  unfold eT
  apply run_eq
  repeat' trivial
 ·refine .cons (.refl _) (.cons (.refl _) (.cons (.refl _) (.cons (.inr ⟨_, rfl, ?_⟩) (.refl _))))
  simp [AO.fl, aB, pt]; try (congr 1; omega)
 ·exact fun h _ => ⟨wj h (d4 (by simp) _ _ _), .str _⟩
 ·intro k hk; simp at hk; left; omega
theorem Ap (r m k : AO) (J : List AO) (rb t : List Nat) (en : Bool) :
  fK G3 kn [.inst .ak 3] (r :: m :: k :: .ak 4 3 rb [] en :: .txt t true :: J) .none (r :: m :: k :: .ak 4 3 rb [] true :: .txt t true :: J) [] := by
 have hge : decide (cond en (0 : Int) ((rb.length + ([] : List Nat).length : Nat) : Int) ≤ cond en (0 : Int) (rb.length : Int)) = true := by cases en <;> simp
 have heof : G3.glob .dh = some .none := by kernel_rfl
 have kr : G3.call .hK [.inst .ak 3] (r :: m :: k :: .ak 4 3 rb [] en :: .txt t true :: J) = some (.bool false, r :: m :: k :: .ak 4 3 rb [] true :: .txt t true :: J, []) := by cases en <;> kernel_rfl
 refine ⟨[(.aa, .inst .ak 3)], r :: m :: k :: .ak 4 3 rb [] en :: .txt t true :: J, .rt .none, { H := r :: m :: k :: .ak 4 3 rb [] true :: .txt t true :: J, V := [(.aa, .inst .ak 3)], O := [] }, rfl, by simp, .refl _, ?_, rfl, .refl _, by simp, ?_, ?_⟩
 ·show b0 G3 eT _ = _
  unfold eT
  apply run_eq
  repeat' trivial
 ·exact fun h _ => ⟨gW h (d4 (by simp) _ _ _) (gz _ _), .none⟩
 ·intro k hk; simp at hk
theorem Ar (r m k : AO) (J : List AO) :
  fK G3 kn [.inst .ak 3] (r :: m :: k :: .ak 4 3 [] [] true :: .txt [] false :: J) .none (r :: m :: k :: .ak 4 3 [] [] true :: .txt [] true :: J) [] := by
 have heof : G3.glob .dh = some .none := by kernel_rfl
 have kr : G3.call .hK [.inst .ak 3] (r :: m :: k :: .ak 4 3 [] [] true :: .txt [] false :: J) = some (.bool false, r :: m :: k :: .ak 4 3 [] [] true :: .txt [] true :: J, []) := by kernel_rfl
 refine ⟨[(.aa, .inst .ak 3)], r :: m :: k :: .ak 4 3 [] [] true :: .txt [] false :: J, .rt .none, { H := r :: m :: k :: .ak 4 3 [] [] true :: .txt [] true :: J, V := [(.aa, .inst .ak 3)], O := [] }, rfl, by simp, .refl _, ?_, rfl, .refl _, by simp, ?_, ?_⟩
 ·show b0 G3 eT _ = _
  unfold eT
  apply run_eq
  repeat' trivial
 ·exact fun h _ => ⟨gW h (d4 (by simp) _ _ _) (gz _ _), .none⟩
 ·intro k hk; simp at hk
theorem sm (r m k : AO) (J : List AO) (c : Nat) (t : List Nat) (h : ((c :: t).all wR && Nat.ble (c :: t).length 10240) = true) :
  fK G3 kn [.inst .ak 3] (r :: m :: k :: .ak 4 3 [] [] true :: .txt (c :: t) false :: J) (.str [c]) (r :: m :: k :: .ak 4 3 [c] t false :: .txt (c :: t) true :: J) [] := by
 have heof : G3.glob .dh = some .none := by kernel_rfl
 have kr : G3.call .hK [.inst .ak 3] (r :: m :: k :: .ak 4 3 [] [] true :: .txt (c :: t) false :: J) = some (.bool true, r :: m :: k :: .dict (aB 4 3 [] (c :: t) false) :: .txt (c :: t) true :: J, []) := lB ((IE r m k J c t).trans (nS h))
 have hix : lW (r :: m :: k :: .dict (aB 4 3 [] (c :: t) false) :: .txt (c :: t) true :: J) (.str (cond false [] (([] : List Nat).reverse ++ c :: t))) (.int (cond false (0 : Int) (([] : List Nat).length : Int))) = some (.str [c]) := qW _ [] t c
 refine ⟨[(.aa, .inst .ak 3)], r :: m :: k :: .ak 4 3 [] [] true :: .txt (c :: t) false :: J, .rt (.str [c]), { H := r :: m :: k :: .dict (pt (aB 4 3 [] (c :: t) false) .ar (.int 1)) :: .txt (c :: t) true :: J, V := [(.aa, .inst .ak 3), (.ar, .int 0), (.bN, .str [c])], O := [11] }, rfl, by simp, .refl _, ?_, rfl, ?_, by simp, ?_, ?_⟩
 ·show b0 G3 eT _ = _
  unfold eT
  apply run_eq
  repeat' trivial
 ·refine .cons (.refl _) (.cons (.refl _) (.cons (.refl _) (.cons (.inr ⟨_, rfl, ?_⟩) (.refl _))))
  simp [AO.fl, aB, pt]; try (congr 1; omega)
 ·exact fun h _ => ⟨gW h (d4 (by simp) _ _ _) (gz _ _), .str _⟩
 ·intro k hk; simp at hk; left; omega
theorem DY (H : List AO) : fK G3 nt [.inst .ak 3, .none] H .none H [] := by
 refine ⟨[(.aa, .inst .ak 3), (.bN, .none)], H, .nx, { H := H, V := [(.aa, .inst .ak 3), (.bN, .none)], O := [] }, rfl, rfl, .refl _, ?_, rfl, .refl _, Nat.le_refl _, fun a b => ⟨a, .none⟩, fun k hk => by simp at hk⟩
 kernel_rfl
theorem zK (r m k T : AO) (J : List AO) (rb aq : List Nat) (c : Nat) :
  fK G3 nt [.inst .ak 3, .str [c]] (r :: m :: k :: .ak 4 3 (c :: rb) aq false :: T :: J) .none (r :: m :: k :: .ak 4 3 rb (c :: aq) false :: T :: J) [] := by
 have heof : G3.glob .dh = some .none := by kernel_rfl
 have hix : lW (r :: m :: k :: LW (c :: rb) aq ((rb.length : Int) + 1 - 1) :: T :: J) (.str ((c :: rb).reverse ++ aq)) (.int ((rb.length : Int) + 1 - 1)) = some (.str [c]) := by
  rw [show (rb.length : Int) + 1 - 1 = rb.length by omega, show (c :: rb).reverse ++ aq = rb.reverse ++ c :: aq by simp]
  exact qW _ rb aq c
 have hbl : bV [c] [c] = true := by rw [gy]; exact beq_self_eq_true _
 have h0 : ((rb.length : Int) + 1 == 0) = false := beq_eq_false_iff_ne.mpr (by omega)
 refine ⟨[(.aa, .inst .ak 3), (.bN, .str [c])], r :: m :: k :: LW (c :: rb) aq ((rb.length : Int) + 1) :: T :: J, .nx, { H := r :: m :: k :: LW (c :: rb) aq ((rb.length : Int) + 1 - 1) :: T :: J, V := [(.aa, .inst .ak 3), (.bN, .str [c])], O := [11] }, rfl, by simp, ?_, ?_, rfl, ?_, by simp, ?_, ?_⟩
 ·exact .cons (.refl _) (.cons (.refl _) (.cons (.refl _) (.cons (.inr ⟨_, rfl, rfl⟩) (.refl _))))
 ·show b0 G3 lr _ = _
  unfold lr
  apply run_eq
  repeat' trivial
 ·refine .cons (.refl _) (.cons (.refl _) (.cons (.refl _) (.cons (.inr ⟨_, rfl, ?_⟩) (.refl _))))
  simp [AO.fl, aB, pt]; try (congr 1; omega)
 ·exact fun h _ => ⟨wj h (d4 (by simp) _ _ _), .none⟩
 ·intro k hk; simp at hk; left; omega
noncomputable def lD : AV → Nat → Bool
 | .str b, c => b.any (Nat.beq c)
 | .tup vs, c => vs.any fun v => match v with | .str y => bV y [c] | _ => false
 | _, _ => false
noncomputable def HF : AV → Bool
 | .str _ => true
 | .tup vs => vs.all fun v => match v with | .str _ => true | _ => false
 | _ => false
theorem F5 {cv : AV} {c : Nat} (h : HF cv = true) : uB .isin (.str [c]) cv = some (lD cv c) := by
 cases cv with
 | str b => rfl
 | tup vs =>
  show qd (.str [c]) vs = some (vs.any fun v => match v with | .str y => bV y [c] | _ => false)
  have h' : vs.all (fun v => match v with | .str _ => true | _ => false) = true := h
  clear h
  induction vs with
  | nil => rfl
  | cons v r ih =>
   rw [List.all_cons, Bool.and_eq_true] at h'
   cases v with
   | str y => exact az (o := Tf (.str y) (.str [c])) rfl (az (ih h'.2) rfl)
   | _ => exact absurd h'.1 Bool.false_ne_true
 | _ => exact absurd h Bool.false_ne_true
noncomputable def fJ (cv : AV) (b3 : Bool) (l : List Nat) : List Nat := l.takeWhile fun c => lD cv c == b3
noncomputable def ko (cv : AV) (b3 : Bool) (l : List Nat) : List Nat := l.dropWhile fun c => lD cv c == b3
theorem rR (cv : AV) (b3 : Bool) (l : List Nat) : fJ cv b3 l ++ ko cv b3 l = l := List.takeWhile_append_dropWhile
theorem j9 {H : List AO} {ao : AO} {aN : List (Nm × AV)} {cv : AV} {b3 : Bool} {L : Nat} (hc : HF cv = true) (h1 : H[3]? = some ao) (h2 : ao.fl = some aN) {ch : List Nat} (h3 : lk aN .a9 = some (.str ch)) (h4 : lk aN .aC = some (.int (ch.length : Int))) (O : List Nat) :
  ∀ (aq rb : List Nat) (n : Nat), ch = rb.reverse ++ aq → aq.length < n →
  fk n (cW G3 (.and (.cons (.cmp (.v .a5) (.cons .ne (.at (.v .aa) .aC) .nil)) (.cons (.cmp (.cmp (.ix (.at (.v .aa) .a9) (.v .a5)) (.cons .isin (.v .bY) .nil)) (.cons .eq (.v .cK) .nil)) .nil)))) (b0 G3 (.cons (.aug (.v .a5) .add (.c (.int 1))) .nil))
   {H := H, V := [(.aa, .inst .ak 3), (.bY, cv), (.cK, .bool b3), (.d9, .aQ L), (.a5, .int (rb.length : Int))], O := O } =
   some (.nx, { H := H, V := [(.aa, .inst .ak 3), (.bY, cv), (.cK, .bool b3), (.d9, .aQ L), (.a5, .int ((rb.length + (fJ cv b3 aq).length : Nat) : Int))], O := O }) := by
 have hf : hW H 3 = some aN := az h1 h2
 intro aq
 induction aq with
 | nil =>
  intro rb n e hn
  obtain ⟨n, rfl⟩ : ∃ k, n = k + 1 := ⟨n - 1, by omega⟩
  have hl : ch.length = rb.length := by rw [e]; simp
  have hne : (!((rb.length : Int) == (ch.length : Int))) = false := by rw [hl, beq_self_eq_true]; rfl
  refine rU (σ1 := { H := H, V := [(.aa, .inst .ak 3), (.bY, cv), (.cK, .bool b3), (.d9, .aQ L), (.a5, .int (rb.length : Int))], O := O }) ?_
  apply DV
  repeat' trivial
 | cons c r ih =>
  intro rb n e hn
  obtain ⟨n, rfl⟩ : ∃ k, n = k + 1 := ⟨n - 1, by omega⟩
  have hl : ch.length = rb.length + (r.length + 1) := by rw [e]; simp
  have hne : (!((rb.length : Int) == (ch.length : Int))) = true := by rw [show ((rb.length : Int) == (ch.length : Int)) = false from beq_eq_false_iff_ne.mpr (by omega)]; rfl
  have hix : lW H (.str ch) (.int (rb.length : Int)) = some (.str [c]) := e ▸ qW H rb r c
  have hmem : jT H .isin (.str [c]) cv = some (lD cv c) := by
   unfold jT
   rw [F5 hc]
   rfl
  cases hb : lD cv c == b3 with
  | false =>
   have et : fJ cv b3 (c :: r) = [] := by simp [fJ, List.takeWhile_cons, hb]
   rw [et]
   refine rU (σ1 := { H := H, V := [(.aa, .inst .ak 3), (.bY, cv), (.cK, .bool b3), (.d9, .aQ L), (.a5, .int (rb.length : Int))], O := O }) ?_
   apply DV
   repeat' trivial
  | true =>
   have := ih (c :: rb) n (by rw [e]; simp) (by simp at hn; omega)
   have e2 : (((c :: rb).length : Nat) : Int) = (rb.length : Int) + 1 := by simp
   rw [e2, show (c :: rb).length + (fJ cv b3 r).length = rb.length + (fJ cv b3 (c :: r)).length by simp [fJ, List.takeWhile_cons, hb]; omega] at this
   refine D3 (σ1 := { H := H, V := [(.aa, .inst .ak 3), (.bY, cv), (.cK, .bool b3), (.d9, .aQ L), (.a5, .int (rb.length : Int))], O := O }) ?_ ?_ this
   ·apply DV
    repeat' trivial
   ·apply run_eq
    repeat' trivial
noncomputable def kD : Ex := (.and (.cons (.cmp (.v .a5) (.cons .ne (.at (.v .aa) .aC) .nil)) (.cons (.cmp (.cmp (.ix (.at (.v .aa) .a9) (.v .a5)) (.cons .isin (.v .bY) .nil)) (.cons .eq (.v .cK) .nil)) .nil)))
noncomputable def jz : cT := (.cons (.aug (.v .a5) .add (.c (.int 1))) .nil)
noncomputable def d5 : cT := (.cons (.asg (.v .a5) (.at (.v .aa) .ar)) (.cons (.mW kD jz) (.cons (.ite (.cmp (.v .a5) (.cons .eq (.at (.v .aa) .ar) .nil)) (.cons (.ite (.cmp (.at (.v .aa) .ar) (.cons .ne (.at (.v .aa) .aC) .nil)) (.cons .brk .nil) .nil) .nil) (.cons (.ite (.cmp (.v .a5) (.cons .ne (.at (.v .aa) .aC) .nil)) (.cons (.exp (.aw (.v .d9) .aA (.cons (.sl (.at (.v .aa) .a9) (.at (.v .aa) .ar) (.v .a5)) .nil))) (.cons (.asg (.at (.v .aa) .ar) (.v .a5)) (.cons .brk .nil))) .nil) .nil)) (.cons (.exp (.aw (.v .d9) .aA (.cons (.sl (.at (.v .aa) .a9) (.at (.v .aa) .ar) .no) .nil))) (.cons (.ite (.not (.aw (.v .aa) .fQ .nil)) (.cons .brk .nil) .nil) .nil)))))
theorem Ju : lu = .cons (.asg (.v .d9) (.lst .nil false)) (.cons (.mW (.c (.bool true)) d5) (.cons (.asg (.v .LR) (.aw (.c (.str [])) .f5 (.cons (.v .d9) .nil))) (.cons (.ret (.v .LR)) .nil))) := rfl
theorem mG : G3.fuel = 2000000 + 1 := rfl
theorem D2 {b : cT} {σ σ2 : St} (h : b0 G3 b σ = some (.bk, σ2)) : ex G3 (.mW (.c (.bool true)) b) σ = some (.nx, σ2) := by
 show fk G3.fuel (cW G3 (.c (.bool true))) (b0 G3 b) σ = _
 rw [mG]
 exact RK (σ1 := σ) rfl h
theorem LC (vs : List AV) (x : AV) : FU .aA vs [x] = some (.none, vs ++ [x], [vs.length + 1]) := rfl
theorem tm {H : List AO} {n : Nat} {vs : List AV} {l : List (List Nat)} (h : H[n]? = some (.list vs)) (h2 : iI vs = some l) : js H .f5 [] [.aQ n] = some (.str l.flatten, [l.flatten.length]) := by
 refine az (o := zu H (.aQ n)) (f := fun vs => cond true ((iI vs).map fun (l : List (List Nat)) => (AV.str l.flatten, [l.flatten.length])) none) (g8 h) ?_
 show (iI vs).map (fun (l : List (List Nat)) => (AV.str l.flatten, [l.flatten.length])) = _
 rw [h2]
 rfl
noncomputable def uV (cv : AV) (b3 : Bool) : List (Nm × AV) := [(.aa, .inst .ak 3), (.bY, cv), (.cK, .bool b3)]
theorem i1 {H H2 : List AO} {cv : AV} {b3 : Bool} {V : List (Nm × AV)} {O : List Nat} {x : List Nat} {vs : List AV} (hb : b0 G3 d5 { H := H ++ [.list []], V := uV cv b3 ++ [(.d9, .aQ H.length)], O := [0] } = some (.bk, { H := H2 ++ [.list vs], V := uV cv b3 ++ ((.d9, .aQ H.length) :: V), O := O }))
  (hl : H2.length = H.length) (hv : iI vs = some [x] ∨ (vs = [] ∧ x = [])) (hr : lk V .LR = none) :
  ∃ V', b0 G3 lu { H := H, V := uV cv b3, O := [] } = some (.rt (.str x), { H := H2 ++ [.list vs], V := V', O := x.length :: O }) := by
 have e1 : ex G3 (.asg (.v .d9) (.lst .nil false)) { H := H, V := uV cv b3, O := [] } = some (.nx, { H := H ++ [.list []], V := uV cv b3 ++ [(.d9, .aQ H.length)], O := [0] }) := by kernel_rfl
 have aL : (H2 ++ [AO.list vs])[H.length]? = some (.list vs) := by rw [← hl]; simp
 have hj : js (H2 ++ [.list vs]) .f5 [] [.aQ H.length] = some (.str x, [x.length]) := by
  rcases hv with hv | ⟨rfl, rfl⟩
  ·have := tm aL hv; simpa using this
  ·exact tm (l := []) aL rfl
 rw [Ju]
 exact ⟨_, aJ e1 (aJ (D2 hb) (aJ (cg (dE rfl (qn rfl) (aH (bK rfl) rfl) (pW hj))) (iW (bK bR))))⟩
theorem GH (H : List AO) (rb aq : List Nat) : zw H (.str (rb.reverse ++ aq)) (.int (rb.length : Int)) .none = some (.str aq) := by
 show some (AV.str (eQ (rb.reverse ++ aq) (dn (rb.length : Int) (rb.reverse ++ aq).length) (rb.reverse ++ aq).length)) = _
 rw [show dn (rb.length : Int) (rb.reverse ++ aq).length = rb.length from (clipAt_nat _ _).trans (Nat.min_eq_left (by simp))]
 unfold eQ
 rw [List.take_length, ← List.length_reverse (as := rb), List.drop_left]
theorem Lf (H : List AO) (rb pre rest : List Nat) : zw H (.str (rb.reverse ++ (pre ++ rest))) (.int (rb.length : Int)) (.int ((rb.length + pre.length : Nat) : Int)) = some (.str pre) := by
 have h : ∀ n : Nat, n ≤ (rb.reverse ++ (pre ++ rest)).length → dn (n : Int) (rb.reverse ++ (pre ++ rest)).length = n := fun n hn => (clipAt_nat _ _).trans (Nat.min_eq_left hn)
 show some (AV.str (eQ (rb.reverse ++ (pre ++ rest)) (dn _ _) (dn _ _))) = _
 rw [h _ (by simp), h _ (by simp)]
 unfold eQ
 have : (rb.reverse ++ (pre ++ rest)).take (rb.length + pre.length) = rb.reverse ++ pre := by
  rw [← List.append_assoc, List.take_left']
  simp
 rw [this, ← List.length_reverse (as := rb), List.drop_left]
local macro_rules | `(tactic| trivial) => `(tactic| first | with_reducible exact bR | ((with_reducible apply nj); (with_reducible assumption)) | ((with_reducible apply x4); (with_reducible assumption)) | ((with_reducible apply nj); exact rfl) | ((with_reducible apply x4); exact rfl) | exact rfl)
local macro_rules | `(tactic| trivial) => `(tactic| with_reducible first
 | assumption | apply iW | exact vD | exact vu | apply iV | apply aJ | apply vx | apply vv | apply rD | apply vw | apply j5 | apply l9 | apply cg | apply oF | apply vy | apply rE | apply oG | exact rZ | apply El | apply Ib | apply vA | apply vz | apply oH | apply vC
 | apply bK | apply ka | apply uF | apply gK | apply ll | apply eF | apply jk | apply eP | apply EI | apply AJ | apply wH | apply nv | apply i5 | apply sL | apply sJ | apply df | apply dE | apply aH
 | apply lq | apply sQ | apply nJ | apply lR | apply pW | apply lU | apply Cr | apply Ct | apply qn | apply lZ | apply Cs | apply lI | apply cV | apply uc | apply Lp | apply DM | apply DN | apply kZ | apply ju | apply gn | apply xE | apply cY | apply or_cons)
local macro_rules | `(tactic| trivial) => `(tactic| first | ((with_reducible apply Cq); exact rfl; exact rfl) | ((with_reducible apply oq); exact rfl; exact rfl))
section
variable {H : List AO} {ao : AO} {aN : List (Nm × AV)} {cv : AV} {b3 : Bool} {rb aq : List Nat}
theorem GW (hc : HF cv = true) (h1 : H[3]? = some ao) (h2 : ao.fl = some aN) (h3 : lk aN .a9 = some (.str (rb.reverse ++ aq))) (h4 : lk aN .aC = some (.int ((rb.reverse ++ aq).length : Int))) (h5 : lk aN .ar = some (.int (rb.length : Int)))
  (hl : aq.length ≤ 1000000) (hp : fJ cv b3 aq = []) (hr : ko cv b3 aq ≠ []) :
  b0 G3 d5 { H := H ++ [.list []], V := uV cv b3 ++ [(.d9, .aQ H.length)], O := [0] } = some (.bk, { H := H ++ [.list []], V := uV cv b3 ++ ((.d9, .aQ H.length) :: [(.a5, .int (rb.length : Int))]), O := [0] }) := by
 have hx : (H ++ [AO.list []])[3]? = some ao := (List.getElem?_append_left (hY h1)).trans h1
 have hf : hW (H ++ [.list []]) 3 = some aN := az hx h2
 have hw := j9 (L := H.length) (b3 := b3) hc hx h2 h3 h4 [0] aq rb G3.fuel rfl (by rw [mG]; omega)
 rw [hp] at hw
 have hd : 0 < aq.length := List.length_pos_iff.mpr fun z => hr (by rw [z]; rfl)
 have c1 : (!((rb.length : Int) == ((rb.reverse ++ aq).length : Int))) = true := by rw [beq_eq_false_iff_ne.mpr (show (rb.length : Int) ≠ ((rb.reverse ++ aq).length : Int) by simp; omega)]; rfl
 have c2 : ((rb.length : Int) == (rb.length : Int)) = true := beq_self_eq_true _
 have hw' : fk G3.fuel (cW G3 kD) (b0 G3 jz) { H := H ++ [.list []], V := pt (uV cv b3 ++ [(.d9, .aQ H.length)]) .a5 (.int (rb.length : Int)), O := [0] } = some (.nx, { H := H ++ [.list []], V := uV cv b3 ++ [(.d9, .aQ H.length), (.a5, .int (rb.length : Int))], O := [0] }) := hw
 unfold d5
 apply run_eq
 repeat' trivial
theorem GX (hc : HF cv = true) (h1 : H[3]? = some (.dict aN)) (h3 : lk aN .a9 = some (.str (rb.reverse ++ aq))) (h4 : lk aN .aC = some (.int ((rb.reverse ++ aq).length : Int))) (h5 : lk aN .ar = some (.int (rb.length : Int)))
  (hl : aq.length ≤ 1000000) (hp : fJ cv b3 aq ≠ []) (hr : ko cv b3 aq ≠ []) :
  b0 G3 d5 { H := H ++ [.list []], V := uV cv b3 ++ [(.d9, .aQ H.length)], O := [0] } = some (.bk, { H := H.set 3 (.dict (pt aN .ar (.int ((rb.length + (fJ cv b3 aq).length : Nat) : Int)))) ++ [.list [.str (fJ cv b3 aq)]], V := uV cv b3 ++ ((.d9, .aQ H.length) :: [(.a5, .int ((rb.length + (fJ cv b3 aq).length : Nat) : Int))]), O := [aN.length + 1, 1, 0] }) := by
 have lt := hY h1
 have hx : (H ++ [AO.list []])[3]? = some (.dict aN) := (List.getElem?_append_left lt).trans h1
 have hf : hW (H ++ [.list []]) 3 = some aN := az hx rfl
 have aS : ∀ x y : AO, (H ++ [x]).set H.length y = H ++ [y] := fun x y => by simp [List.set_append_right]
 have aS3 : ∀ x y : AO, (H ++ [x]).set 3 y = H.set 3 y ++ [x] := fun x y => List.set_append_left _ _ lt
 have hx2 : ((H ++ [AO.list []]).set H.length (AO.list ([] ++ [AV.str (fJ cv b3 aq)])))[3]? = some (.dict aN) := by rw [aS]; exact (List.getElem?_append_left lt).trans h1
 have hf2 : hW ((H ++ [AO.list []]).set H.length (AO.list ([] ++ [AV.str (fJ cv b3 aq)]))) 3 = some aN := az hx2 rfl
 have hd2 : gq ((H ++ [AO.list []]).set H.length (AO.list ([] ++ [AV.str (fJ cv b3 aq)]))) 3 = some aN := EU hx2
 have hl2 : eJ (H ++ [.list []]) H.length = some [] := g8 (by simp)
 have hw := j9 (L := H.length) (b3 := b3) hc hx rfl h3 h4 [0] aq rb G3.fuel rfl (by rw [mG]; omega)
 have hsum := rR cv b3 aq
 have hlen : aq.length = (fJ cv b3 aq).length + (ko cv b3 aq).length := by rw [← List.length_append, hsum]
 have p1 : 0 < (fJ cv b3 aq).length := List.length_pos_iff.mpr hp
 have p2 : 0 < (ko cv b3 aq).length := List.length_pos_iff.mpr hr
 have c1 : (((rb.length + (fJ cv b3 aq).length : Nat) : Int) == (rb.length : Int)) = false := beq_eq_false_iff_ne.mpr (by omega)
 have c2 : (!(((rb.length + (fJ cv b3 aq).length : Nat) : Int) == ((rb.reverse ++ aq).length : Int))) = true := by rw [beq_eq_false_iff_ne.mpr (show ((rb.length + (fJ cv b3 aq).length : Nat) : Int) ≠ ((rb.reverse ++ aq).length : Int) by simp; omega)]; rfl
 have hs : zw (H ++ [.list []]) (.str (rb.reverse ++ aq)) (.int (rb.length : Int)) (.int ((rb.length + (fJ cv b3 aq).length : Nat) : Int)) = some (.str (fJ cv b3 aq)) := by
  have := Lf (H ++ [.list []]) rb (fJ cv b3 aq) (ko cv b3 aq)
  rwa [hsum] at this
 have hw' : fk G3.fuel (cW G3 kD) (b0 G3 jz) { H := H ++ [.list []], V := pt (uV cv b3 ++ [(.d9, .aQ H.length)]) .a5 (.int (rb.length : Int)), O := [0] } = some (.nx, { H := H ++ [.list []], V := uV cv b3 ++ [(.d9, .aQ H.length), (.a5, .int ((rb.length + (fJ cv b3 aq).length : Nat) : Int))], O := [0] }) := hw
 have run : b0 G3 d5 { H := H ++ [.list []], V := uV cv b3 ++ [(.d9, .aQ H.length)], O := [0] } = some (.bk, { H := ((H ++ [AO.list []]).set H.length (AO.list ([] ++ [AV.str (fJ cv b3 aq)]))).set 3 (.dict (pt aN .ar (.int ((rb.length + (fJ cv b3 aq).length : Nat) : Int)))), V := uV cv b3 ++ ((.d9, .aQ H.length) :: [(.a5, .int ((rb.length + (fJ cv b3 aq).length : Nat) : Int))]), O := [aN.length + 1, 1, 0] }) := by
  unfold d5
  apply run_eq
  repeat' trivial
 rw [aS, aS3] at run
 exact run
theorem xK {H2 : List AO} (hc : HF cv = true) (h1 : H[3]? = some ao) (h2 : ao.fl = some aN) (h3 : lk aN .a9 = some (.str (rb.reverse ++ aq))) (h4 : lk aN .aC = some (.int ((rb.reverse ++ aq).length : Int))) (h5 : lk aN .ar = some (.int (rb.length : Int)))
  (h6 : lk aN .fQ = none) (hl : aq.length ≤ 1000000) (hr : ko cv b3 aq = []) (kr : G3.call .hK [.inst .ak 3] (H ++ [.list [.str aq]]) = some (.bool false, H2 ++ [.list [.str aq]], [])) :
  b0 G3 d5 { H := H ++ [.list []], V := uV cv b3 ++ [(.d9, .aQ H.length)], O := [0] } = some (.bk, { H := H2 ++ [.list [.str aq]], V := uV cv b3 ++ ((.d9, .aQ H.length) :: [(.a5, .int ((rb.length + aq.length : Nat) : Int))]), O := [1, 0] }) := by
 have lt := hY h1
 have hx : (H ++ [AO.list []])[3]? = some ao := (List.getElem?_append_left lt).trans h1
 have hf : hW (H ++ [.list []]) 3 = some aN := az hx h2
 have aS : ∀ x y : AO, (H ++ [x]).set H.length y = H ++ [y] := fun x y => by simp [List.set_append_right]
 have hf2 : hW ((H ++ [AO.list []]).set H.length (AO.list ([] ++ [AV.str aq]))) 3 = some aN := by
  rw [aS]
  exact az ((List.getElem?_append_left lt).trans h1) h2
 have hl2 : eJ (H ++ [.list []]) H.length = some [] := g8 (by simp)
 have kr' : G3.call .hK [.inst .ak 3] ((H ++ [AO.list []]).set H.length (AO.list ([] ++ [AV.str aq]))) = some (.bool false, H2 ++ [.list [.str aq]], []) := by
  rw [aS]
  exact kr
 have hw := j9 (L := H.length) (b3 := b3) hc hx h2 h3 h4 [0] aq rb G3.fuel rfl (by rw [mG]; omega)
 have hsum := rR cv b3 aq
 rw [hr, List.append_nil] at hsum
 rw [hsum] at hw
 have hs := GH (H ++ [.list []]) rb aq
 have hw' : fk G3.fuel (cW G3 kD) (b0 G3 jz) { H := H ++ [.list []], V := pt (uV cv b3 ++ [(.d9, .aQ H.length)]) .a5 (.int (rb.length : Int)), O := [0] } = some (.nx, { H := H ++ [.list []], V := uV cv b3 ++ [(.d9, .aQ H.length), (.a5, .int ((rb.length + aq.length : Nat) : Int))], O := [0] }) := hw
 have e0 : ((rb.reverse ++ aq).length : Int) = ((rb.length + aq.length : Nat) : Int) := by simp
 have c2 : (!(((rb.length + aq.length : Nat) : Int) == ((rb.reverse ++ aq).length : Int))) = false := by rw [e0, beq_self_eq_true]; rfl
 by_cases ha : aq = []
 ·have c1 : (((rb.length + aq.length : Nat) : Int) == (rb.length : Int)) = true := by rw [ha]; exact beq_self_eq_true _
  have c3 : (!((rb.length : Int) == ((rb.reverse ++ aq).length : Int))) = false := by rw [ha]; simp
  clear ha
  unfold d5
  apply run_eq
  repeat' trivial
 ·have p1 : 0 < aq.length := List.length_pos_iff.mpr ha
  have c1 : (((rb.length + aq.length : Nat) : Int) == (rb.length : Int)) = false := beq_eq_false_iff_ne.mpr (by omega)
  unfold d5
  apply run_eq
  repeat' trivial
end
theorem S9 {n : Nat} (s : List Nat) : iJ n (.str s) := .str _
theorem ug {cv : AV} {b3 : Bool} {q : List AV} (r m k : AO) (J : List AO) (rb aq t : List Nat) (hc : HF cv = true) (hb : jM jC [.bool false] (.inst .ak 3 :: cv :: q) = some (uV cv b3)) (hl : aq.length ≤ 1000000) :
  fK G3 nu (.inst .ak 3 :: cv :: q) (r :: m :: k :: .ak 4 3 rb aq false :: .txt t true :: J) (.str (fJ cv b3 aq))
   (r :: m :: k :: .ak 4 3 ((fJ cv b3 aq).reverse ++ rb) (ko cv b3 aq) (ko cv b3 aq).isEmpty :: .txt t true :: J) [aq.length] := by
 have hsum := rR cv b3 aq
 have ml : ∀ (a b : List Nat) (e : Bool), la (r :: m :: k :: .ak 4 3 rb aq false :: .txt t true :: J).length (r :: m :: k :: .ak 4 3 rb aq false :: .txt t true :: J) → la (r :: m :: k :: .ak 4 3 a b e :: .txt t true :: J).length (r :: m :: k :: .ak 4 3 a b e :: .txt t true :: J) :=
  fun a b e h => gW h (d4 (by simp) _ _ _) (gz _ _)
 by_cases hr : ko cv b3 aq = []
 ·have ht : fJ cv b3 aq = aq := by rw [hr, List.append_nil] at hsum; exact hsum
  have kr : G3.call .hK [.inst .ak 3] ((r :: m :: k :: .ak 4 3 rb aq false :: .txt t true :: J) ++ [.list [.str aq]]) = some (.bool false, (r :: m :: k :: .ak 4 3 (aq.reverse ++ rb) [] true :: .txt t true :: J) ++ [.list [.str aq]], []) := by kernel_rfl
  have hsz : lk (aB 4 3 rb aq false) .aC = some (.int ((rb.reverse ++ aq).length : Int)) := by
   have : lk (aB 4 3 rb aq false) .aC = some (.int ((rb.length + aq.length : Nat) : Int)) := by kernel_rfl
   rw [this]; simp
  have hbd := xK (b3 := b3) (H := r :: m :: k :: .ak 4 3 rb aq false :: .txt t true :: J) (ao := .ak 4 3 rb aq false) (aN := aB 4 3 rb aq false) hc rfl rfl (by kernel_rfl) hsz (by kernel_rfl) (by kernel_rfl) hl hr kr
  obtain ⟨V', he⟩ := i1 (x := aq) hbd (by simp) (.inl rfl) (by kernel_rfl)
  rw [ht, hr]
  refine ⟨_, _, _, _, hb, rfl, .refl _, he, rfl, gw.pre _ _, by simp, fun h _ => ⟨ml _ _ _ h, .str _⟩, fun k hk => ?_⟩
  simp at hk
  rcases hk with rfl | rfl | rfl
  ·exact .inr ⟨_, .head _, Nat.le_refl _⟩
  ·left; omega
  ·left; omega
 ·have hre : (ko cv b3 aq).isEmpty = false := by
   cases hd : ko cv b3 aq with
   | nil => exact absurd hd hr
   | cons a b => rfl
  rw [hre]
  by_cases hp : fJ cv b3 aq = []
  ·have hd : ko cv b3 aq = aq := by rw [hp, List.nil_append] at hsum; exact hsum
   have hsz : lk (aB 4 3 rb aq false) .aC = some (.int ((rb.reverse ++ aq).length : Int)) := by
    have : lk (aB 4 3 rb aq false) .aC = some (.int ((rb.length + aq.length : Nat) : Int)) := by kernel_rfl
    rw [this]; simp
   have hbd := GW (b3 := b3) (H := r :: m :: k :: .ak 4 3 rb aq false :: .txt t true :: J) (ao := .ak 4 3 rb aq false) (aN := aB 4 3 rb aq false) hc rfl rfl (by kernel_rfl) hsz (by kernel_rfl) hl hp hr
   obtain ⟨V', he⟩ := i1 (x := []) hbd rfl (.inr ⟨rfl, rfl⟩) (by kernel_rfl)
   rw [hp, hd]
   refine ⟨_, _, _, _, hb, rfl, .refl _, he, rfl, gw.pre _ _, Nat.le_refl _, fun h _ => ⟨h, .str _⟩, fun k hk => ?_⟩
   simp at hk
   subst hk
   left; omega
  ·have hsz : lk (aB 4 3 rb aq false) .aC = some (.int ((rb.reverse ++ aq).length : Int)) := by
    have : lk (aB 4 3 rb aq false) .aC = some (.int ((rb.length + aq.length : Nat) : Int)) := by kernel_rfl
    rw [this]; simp
   have hbd := GX (b3 := b3) (H := r :: m :: k :: .dict (aB 4 3 rb aq false) :: .txt t true :: J) (aN := aB 4 3 rb aq false) hc rfl (by kernel_rfl) hsz (by kernel_rfl) hl hp hr
   obtain ⟨V', he⟩ := i1 (x := fJ cv b3 aq) hbd (by simp) (.inl rfl) (by kernel_rfl)
   refine ⟨_, r :: m :: k :: .dict (aB 4 3 rb aq false) :: .txt t true :: J, _, _, hb, rfl, .cons (.refl _) (.cons (.refl _) (.cons (.refl _) (.cons (.inr ⟨_, rfl, rfl⟩) (.refl _)))), he, rfl, ?_, Nat.le_refl _, fun h _ => ⟨ml _ _ _ h, .str _⟩, fun k hk => ?_⟩
   ·show gw (r :: m :: k :: .dict (pt (aB 4 3 rb aq false) .ar _) :: .txt t true :: (J ++ [_])) _
    refine .cons (.refl _) (.cons (.refl _) (.cons (.refl _) (.cons (.inr ⟨_, rfl, ?_⟩) (.cons (.refl _) (gw.pre _ _)))))
    have e1 : (((fJ cv b3 aq).reverse ++ rb).reverse ++ ko cv b3 aq) = rb.reverse ++ aq := by
     rw [List.reverse_append, List.reverse_reverse, List.append_assoc, hsum]
    have e2 : (((fJ cv b3 aq).reverse ++ rb).length + (ko cv b3 aq).length : Nat) = rb.length + aq.length := by
     have := congrArg List.length hsum
     simp at this ⊢; omega
    have e3 : (((fJ cv b3 aq).reverse ++ rb).length : Nat) = rb.length + (fJ cv b3 aq).length := by simp; omega
    simp only [AO.fl, aB, cond_false, e1, e2, e3]
    simp [pt]
    have e4 := congrArg List.length hsum
    simp at e4
    congr 1
    omega
   ·simp [aB] at hk
    rcases hk with rfl | rfl | rfl | rfl
    ·refine .inr ⟨_, .head _, ?_⟩
     have := congrArg List.length hsum
     simp at this; omega
    ·left; omega
    ·left; omega
    ·left; omega
theorem zL {cv : AV} {b3 : Bool} {q : List AV} (r m k : AO) (J : List AO) (rb t : List Nat) (hc : HF cv = true) (hb : jM jC [.bool false] (.inst .ak 3 :: cv :: q) = some (uV cv b3)) :
  fK G3 nu (.inst .ak 3 :: cv :: q) (r :: m :: k :: .ak 4 3 rb [] true :: .txt t true :: J) (.str []) (r :: m :: k :: .ak 4 3 rb [] true :: .txt t true :: J) [0] := by
 have kr : G3.call .hK [.inst .ak 3] ((r :: m :: k :: .ak 4 3 rb [] true :: .txt t true :: J) ++ [.list [.str []]]) = some (.bool false, (r :: m :: k :: .ak 4 3 rb [] true :: .txt t true :: J) ++ [.list [.str []]], []) := by kernel_rfl
 have hbd := xK (b3 := b3) (rb := []) (aq := []) (H := r :: m :: k :: .ak 4 3 rb [] true :: .txt t true :: J) (ao := .ak 4 3 rb [] true) (aN := aB 4 3 rb [] true) hc rfl rfl (by kernel_rfl) (by kernel_rfl) (by kernel_rfl) (by kernel_rfl) (by simp) rfl kr
 obtain ⟨V', he⟩ := i1 (x := []) hbd rfl (.inl rfl) (by kernel_rfl)
 refine ⟨_, _, _, _, hb, rfl, .refl _, he, rfl, gw.pre _ _, Nat.le_refl _, fun h _ => ⟨h, .str _⟩, fun k hk => ?_⟩
 simp at hk
 left; omega
noncomputable def KC : List AV → Option Bool
 | [] => some false
 | [.bool o] => some o
 | _ => none
theorem qo {cv : AV} {q : List AV} {b3 : Bool} (h : KC q = some b3) : jM jC [.bool false] (.inst .ak 3 :: cv :: q) = some (uV cv b3) := by
 unfold KC at h
 split at h
 ·cases h; rfl
 ·cases h; rfl
 ·cases h
noncomputable def IF (cv : AV) (q : List AV) (r m k : AO) (rb aq : List Nat) (en : Bool) (t : List Nat) (J : List AO) : Option (CP HW G3 .oO (.inst .ak 3 :: cv :: q) (r :: m :: k :: .ak 4 3 rb aq en :: .txt t true :: J)) :=
 match hc : HF cv, ho : KC q with
 | true, some b3 => (match en, aq with
  | false, aq => some ⟨(.str (fJ cv b3 aq), r :: m :: k :: .ak 4 3 ((fJ cv b3 aq).reverse ++ rb) (ko cv b3 aq) (ko cv b3 aq).isEmpty :: .txt t true :: J, [aq.length]), fun hL => ⟨_, nP, ug _ _ _ _ _ _ _ hc (qo ho) (by
    have := hL _ (.tail _ (.tail _ (.tail _ (.head _)))) _ rfl .a9 _ rfl
    simp at this
    unfold dD at this
    omega)⟩⟩
  | true, [] => some ⟨(.str [], r :: m :: k :: .ak 4 3 rb [] true :: .txt t true :: J, [0]), fun _ => ⟨_, nP, zL _ _ _ _ _ _ hc (qo ho)⟩⟩
  | true, _ :: _ => none)
 | _, _ => none
noncomputable def cC : ∀ f as H, Option (CP HW G3 f as H)
 | .gS, [.inst .ak 3], r :: m :: k :: .ak 4 3 rb (c :: aq) false :: T :: J => some ⟨(.str [c], r :: m :: k :: .ak 4 3 (c :: rb) aq false :: T :: J, []), fun _ => ⟨_, iB, Aq _ _ _ _ _ _ _ _⟩⟩
 | .gS, [.inst .ak 3], r :: m :: k :: .ak 4 3 rb [] en :: .txt t true :: J => some ⟨(.none, r :: m :: k :: .ak 4 3 rb [] true :: .txt t true :: J, []), fun _ => ⟨_, iB, Ap _ _ _ _ _ _ _⟩⟩
 | .gS, [.inst .ak 3], r :: m :: k :: .ak 4 3 [] [] true :: .txt [] false :: J => some ⟨(.none, r :: m :: k :: .ak 4 3 [] [] true :: .txt [] true :: J, []), fun _ => ⟨_, iB, Ar _ _ _ _⟩⟩
 | .gS, [.inst .ak 3], r :: m :: k :: .ak 4 3 [] [] true :: .txt (c :: t) false :: J => Fo ((c :: t).all wR && Nat.ble (c :: t).length 10240) fun h => ⟨(.str [c], r :: m :: k :: .ak 4 3 [c] t false :: .txt (c :: t) true :: J, []), fun _ => ⟨_, iB, sm _ _ _ _ _ _ h⟩⟩
 | .oN, [.inst .ak 3, .none], H => some ⟨(.none, H, []), fun _ => ⟨_, nO, DY _⟩⟩
 | .oN, [.inst .ak 3, .str [c]], r :: m :: k :: .ak 4 3 (d :: rb) aq false :: T :: J => Fo (Nat.beq c d) fun h => ⟨(.none, r :: m :: k :: .ak 4 3 rb (d :: aq) false :: T :: J, []), fun _ => ⟨_, nO, Nat.eq_of_beq_eq_true h ▸ zK _ _ _ _ _ _ _ _⟩⟩
 | .oO, .inst .ak 3 :: cv :: q, r :: m :: k :: .ak 4 3 rb aq en :: .txt t true :: J => IF cv q r m k rb aq en t J
 | _, _, _ => none
noncomputable def G4 : bS := y7 G3 cC
theorem x5 (r m k : AO) (J : List AO) (c : Nat) (t : List Nat) (h : ((c :: t).all wR && Nat.ble (c :: t).length 10240) = true) :
  G4.call .gS [.inst .ak 3] (r :: m :: k :: .ak 4 3 [] [] true :: .txt (c :: t) false :: J) = some (.str [c], r :: m :: k :: .ak 4 3 [c] t false :: .txt (c :: t) true :: J, []) :=
 lB ((by kernel_rfl : cC .gS [.inst .ak 3] (r :: m :: k :: .ak 4 3 [] [] true :: .txt (c :: t) false :: J) = Fo ((c :: t).all wR && Nat.ble (c :: t).length 10240) fun h => ⟨(.str [c], r :: m :: k :: .ak 4 3 [c] t false :: .txt (c :: t) true :: J, []), fun _ => ⟨_, iB, sm _ _ _ _ _ _ h⟩⟩).trans (nS h))
theorem L0 (w : World) : a6 (SS w) G4 8 := mN (LZ w) fun _ _ h => h w
noncomputable def Vr : ∀ f, Option (FD HW f)
 | .xu => some ⟨wu, yz⟩
 | .xD => some ⟨wz, yC⟩
 | .n7 => some ⟨nr, uT⟩
 | .qk => some ⟨mB, yw⟩
 | .ql => some ⟨qG, yx⟩
 | _ => none
noncomputable def L8 : bS := lay G4 Vr
theorem HZ (w : World) : a6 (SS w) L8 10 := q8 (L0 w) fun _ _ h => h w
theorem iJ.up {m n : Nat} (h : m ≤ n) {v : AV} : iJ m v → iJ n v :=
 AV.rec (motive_1 := fun a => iJ m a → iJ n a) (motive_2 := fun as => ij m as → ij n as) (motive_3 := fun as => ja m as → ja n as) (motive_4 := fun p => iJ m p.2 → iJ n p.2)
  (fun c => c) (fun _ c => c) (fun _ c => c) (fun _ c => c) (fun _ ih c => ih c) (fun _ ih c => ih c) (fun _ ih c => ih c) (fun _ c => c) (fun _ c => Nat.lt_of_lt_of_le c h) (fun _ c => c) (fun _ c => c) (fun _ c => c) (fun _ _ ih c => ih c) (fun _ _ c => Nat.lt_of_lt_of_le c h)
  (fun c => c) (fun _ _ i j c => ⟨i c.1, j c.2⟩) (fun c => c) (fun _ _ i j c => ⟨i c.1, j c.2⟩) (fun _ _ ih => ih) v
theorem ij.up {m n : Nat} (h : m ≤ n) : ∀ {v : List AV}, ij m v → ij n v
 | [], c => c
 | _ :: _, c => ⟨iJ.up h c.1, ij.up h c.2⟩
theorem ja.up {m n : Nat} (h : m ≤ n) : ∀ {v : List (Nm × AV)}, ja m v → ja n v
 | [], c => c
 | _ :: _, c => ⟨iJ.up h c.1, ja.up h c.2⟩
theorem i9.up {m n : Nat} (h : m ≤ n) {ao : AO} (c : i9 m ao) : i9 n ao := by
 cases ao with
 | list vs => exact ij.up h c
 | _ => exact fun aN e => ja.up h (c aN e)
theorem tU (r m k : AO) (t : List Nat) : fK L8 wt [.inst .ak 3, .str t] [r, m, k, .dict []] .none [r, m, k, .ak 4 3 [] [] true, .txt t false] [] := by
 refine ⟨[(.aa, .inst .ak 3), (.fT, .str t)], [r, m, k, .dict []], .nx, ⟨[r, m, k, .dict (aB 4 3 [] [] true), .dict [(.af, .str t), (.ae, .int 0)]], [(.aa, .inst .ak 3), (.fT, .str t)], [10, 9, 8, 7, 0, 6, 5, 4, 3, 2, 1, 2, 1, 1]⟩, rfl, rfl, .refl _, ?_, rfl, ?_, by simp, ?_, ?_⟩
 ·show b0 L8 tc _ = _
  kernel_rfl
 ·exact .cons (.refl _) (.cons (.refl _) (.cons (.refl _) (.cons (.inr ⟨_, rfl, rfl⟩) (.cons (.inr ⟨_, rfl, rfl⟩) (.refl _)))))
 ·intro h _
  refine ⟨fun ao hm => ?_, .none⟩
  simp only [List.mem_cons, List.not_mem_nil, or_false] at hm
  have up : ∀ {ao : AO}, ao ∈ [r, m, k, .dict []] → i9 5 ao := fun q => i9.up (m := 4) (by decide) (h _ q)
  rcases hm with rfl | rfl | rfl | rfl | rfl
  ·exact up (.head _)
  ·exact up (.tail _ (.head _))
  ·exact up (.tail _ (.tail _ (.head _)))
  ·exact d4 (by simp) _ _ _
  ·exact gz _ _
 ·intro k hk
  left
  simp at hk; omega
noncomputable def cD : ∀ f as H, Option (CP HW L8 f as H)
 | .xt, [.inst .ak 3, .str t], [r, m, k, .dict []] => some ⟨(.none, [r, m, k, .ak 4 3 [] [] true, .txt t false], []), fun _ => ⟨_, yy, tU _ _ _ _⟩⟩
 | _, _, _ => none
noncomputable def G5 : bS := y7 L8 cD
theorem L7 (w : World) : a6 (SS w) G5 12 := mN (HZ w) fun _ _ h => h w
noncomputable def Vs : ∀ f, Option (FD HW f)
 | .tF => some ⟨qF, yv⟩
 | _ => none
noncomputable def G6 : bS := lay G5 Vs
theorem L9 (w : World) : a6 (SS w) G6 14 := q8 (L7 w) fun _ _ h => h w
noncomputable def Vt : ∀ f, Option (FD HW f)
 | .t9 => some ⟨wA, yD⟩
 | .bl => some ⟨wx, yB⟩
 | .jR => some ⟨Hj, Fi⟩
 | .fj => some ⟨AA, Bk⟩
 | .cu => some ⟨sC, uY⟩
 | .i8 => some ⟨wD, yG⟩
 | .i7 => some ⟨wC, yF⟩
 | .b8 => some ⟨wB, yE⟩
 | .gk => some ⟨sF, u3⟩
 | .gj => some ⟨sE, u0⟩
 | .bx => some ⟨sD, uZ⟩
 | .iX => some ⟨Ay, Bh⟩
 | .tAN => some ⟨Hi, Fh⟩
 | .zG => some ⟨Az, Bj⟩
 | .zF => some ⟨Ax, Bg⟩
 | .zP => some ⟨Hk, Fj⟩
 | _ => none
noncomputable def G7 : bS := lay G6 Vt
theorem Ma (w : World) : a6 (SS w) G7 16 := q8 (L9 w) fun _ _ h => h w
noncomputable def tk (f : Fn) (ct : AV) (q : Nat) (tb : List (Nm × AV)) : AO := .dict ((.aE, .inst .ak 3) :: (.fP, .none) :: (.e7, .bool false) :: (.dC, .lst []) :: (.aI, .ba f (.inst .tok 2)) :: (.jo, .bool false) :: (.ay, ct) :: (.au, .aQ q) :: tb)
noncomputable def fy (nm : List Nat) : AO := .dict [(.aV, .int 3), (.aK, .str nm), (.ag, .lst [])]
noncomputable abbrev HA (R M : AO) (nm t : List Nat) (f : Fn) (rb aq : List Nat) (en : Bool) (tb : List (Nm × AV)) (got qs : List AV) : List AO :=
 [R, M, tk f (.aQ 5) 7 tb, .ak 4 3 rb aq en, .txt t true, fy nm, .list got, .list qs]
noncomputable abbrev HB (R M : AO) (nm t : List Nat) (f : Fn) (rb aq : List Nat) (en : Bool) (tb : List (Nm × AV)) (got qs : List AV) : List AO :=
 [R, M, tk f .none 6 tb, .ak 4 3 rb aq en, .txt t true, .list got, .list qs]
noncomputable abbrev cz (b : List Nat) : List (Nm × AV) := [(.aO, .str b)]
noncomputable def bh (kd : Int) (d : List Nat) : AV := .cH [(.aV, .int kd), (.ag, .str d)]
noncomputable def Lm (o : List Nat) : Prop := ∀ k ∈ o, k ≤ dD
theorem Lm.app {a b : List Nat} (h : Lm a) (h' : Lm b) : Lm (a ++ b) := fun k m => (List.mem_append.mp m).elim (h k) (h' k)
theorem Lm.nil : Lm [] := fun _ m => nomatch m
theorem Lm.cons {a : Nat} {b : List Nat} (h : a ≤ dD) (h' : Lm b) : Lm (a :: b) := fun k m => by
 rcases List.mem_cons.mp m with rfl | m
 ·exact h
 ·exact h' k m
noncomputable def hp (R M : AO) (o : Option (List Nat)) (t : List Nat) (f : Fn) (rb aq : List Nat) (en : Bool) (tb : List (Nm × AV)) (got qs : List AV) : List AO := match o with
 | some nm => HA R M nm t f rb aq en tb got qs
 | none => HB R M [] t f rb aq en tb got qs
noncomputable def yt : Option (List Nat) → Nat
 | some _ => 6
 | none => 5
noncomputable def o7 : St → Option (Fl × St) := b0 G7 mI
noncomputable abbrev sV (k : Nat) (ph : Bool) (σ : St) : Option St := dx G7 2 .aM o7 k ph σ
noncomputable def bG (rb : List Nat) : AV := .tup [.int (jQ rb + 1), .int (fA rb)]
structure Ek (o : Option (List Nat)) (V0 V : List (Nm × AV)) : Prop where
 same : ∀ x, x ≠ .aM → lk V x = lk V0 x
 tok : lk V0 .aD = some (.inst .tok 2)
 got : lk V0 .iD = some (.aQ (yt o))
theorem Ek.pt {o : Option (List Nat)} {V0 V : List (Nm × AV)} (h : Ek o V0 V) (v : AV) : Ek o V0 (pt V .aM v) := by
 refine ⟨fun x hx => ?_, h.tok, h.got⟩
 rw [← h.same x hx]
 rw [Hr, if_neg fun z => hx z.symm]
structure jd (R M : AO) (o : Option (List Nat)) (t : List Nat) (V0 : List (Nm × AV)) (f : Fn) (rb aq : List Nat) (en : Bool) (tb : List (Nm × AV)) (got : List AV) (σ : St) : Prop where
 h : σ.H = hp R M o t f rb aq en tb got []
 v : Ek o V0 σ.V
 lm : Lm σ.O
noncomputable def eM (P Q : St → Prop) : Prop := ∀ σ, P σ → ∃ c σ', Q σ' ∧ ∀ k, sV (k + c) true σ = sV k true σ'
theorem eM.refl (P : St → Prop) : eM P P := fun σ h => ⟨0, σ, h, fun _ => rfl⟩
theorem eM.trans {P Q S : St → Prop} (h : eM P Q) (h' : eM Q S) : eM P S := fun σ p => by
 obtain ⟨c, σ1, q, e⟩ := h σ p
 obtain ⟨d, σ2, s, e'⟩ := h' σ1 q
 exact ⟨d + c, σ2, s, fun k => by rw [← Nat.add_assoc, e, e']⟩
section
variable {R M : AO} {o : Option (List Nat)} {t : List Nat} {V0 : List (Nm × AV)} {f f' : Fn} {rb aq rb' aft' : List Nat} {en en' : Bool} {tb tb' : List (Nm × AV)} {got qs : List AV} {σ : St}
theorem uP {V : List (Nm × AV)} {O os : List Nat} {b : Bool} {H' : List AO} (e : G7.call f [.inst .tok 2] (hp R M o t f rb aq en tb got qs) = some (.bool b, H', os)) :
  cW G7 uO (k9 2 ⟨hp R M o t f rb aq en tb got qs, V, O⟩) = some (b, ⟨H', gV 2, os ++ O⟩) := by
 cases o <;> exact ju (bK rfl) (oq rfl rfl) rfl (lR (sQ e)) rfl
theorem A8 {O : List Nat} : cW G7 Eb ⟨hp R M o t f rb aq en tb got qs, gV 2, O⟩ = some (false, ⟨hp R M o t f rb aq en tb got qs, gV 2, O⟩) := by
 cases o <;> cases en <;> kernel_rfl
theorem wO {V : List (Nm × AV)} {O : List Nat} : cW G7 zO (k9 2 ⟨hp R M o t f rb aq en tb got [], V, O⟩) = some (false, ⟨hp R M o t f rb aq en tb got [], gV 2, O⟩) := by
 cases o <;> kernel_rfl
theorem A9 {V : List (Nm × AV)} {O : List Nat} {q : AV} : cW G7 zO (k9 2 ⟨hp R M o t f rb aq en tb got (q :: qs), V, O⟩) = some (true, ⟨hp R M o t f rb aq en tb got (q :: qs), gV 2, O⟩) := by
 cases o <;> kernel_rfl
theorem Bb {O : List Nat} {q : AV} : ev G7 Ba ⟨hp R M o t f rb aq en tb got (q :: qs), gV 2, O⟩ = some (q, ⟨hp R M o t f rb aq en tb got qs, gV 2, O⟩) := by
 cases o <;> kernel_rfl
theorem xw : G7.call .kY [.inst .ak 3] (hp R M o t f rb aq en tb got qs) = some (bG rb, hp R M o t f rb aq en tb got qs, []) := by
 cases o <;> cases en <;> kernel_rfl
noncomputable def Uv : AV := .str [116,121,112,101]
noncomputable def Ve : AV := .str [115,101,108,102,67,108,111,115,105,110,103]
noncomputable def RC : AV := .cH [(.qj, .int 0), (.kE, .int 1), (.gY, .int 2), (.nY, .int 3), (.tn, .int 4), (.nX, .int 5), (.qh, .int 6), (.kG, .int 7)]
theorem se {H : List AO} {n : Nat} {kd : Int} {v : AV} {V : List (Nm × AV)} {O : List Nat} (h1 : lk V .aM = some v) (h2 : lk V .aD = some (.inst .tok 2)) (h3 : lk V .iD = some (.aQ n))
  (k1 : lW H v Uv = some (.int kd)) (k2 : (kd == 4) = true → ∃ sc, lW H v Ve = some (.bool sc)) (m2 : sd G7 H (.inst .tok 2) .aE = some (.inst .ak 3)) (m3 : gu G7 H (.inst .ak 3) .c5 = some (.inl (.ba .kY (.inst .ak 3))))
  (p : G7.call .kY [.inst .ak 3] H = some (bG rb, H, [])) (m4 : H[n]? = some (.list got)) :
  o7 ⟨H, V, O⟩ = some (.nx, ⟨H.set n (.list (got ++ [.tup [bG rb, v]])), V, [got.length + 1] ++ (2 :: ([] ++ O))⟩) :=
 have g1 : G7.glob .ah = some RC := by kernel_rfl
 have g3 : G7.glob .e8 = some (.bi .lx) := by kernel_rfl
 have g4 : G7.glob .nZ = some (.bi .bool) := by kernel_rfl
 have g2 : lW H RC (.str [69,110,100,84,97,103]) = some (.int 4) := by kernel_rfl
 have a0 : cW G7 (.cmp (.ix (.v .aM) (.c Uv)) (.cons .eq (.ix (.g .ah) (.c (.str [69,110,100,84,97,103]))) .nil)) ⟨H, V, O⟩ = some (kd == 4, ⟨H, V, O⟩) := cV (gK (bK h1) rfl k1) (eP (gK (ka g1) rfl g2) rfl)
 have a1 : cW G7 (.and (.cons (.cmp (.ix (.v .aM) (.c Uv)) (.cons .eq (.ix (.g .ah) (.c (.str [69,110,100,84,97,103]))) .nil)) (.cons (.not (.call (.g .e8) (.cons (.ix (.v .aM) (.c Ve)) (.cons (.g .nZ) .nil)))) .nil))) ⟨H, V, O⟩ = some (false, ⟨H, V, O⟩) := by
  cases hk : kd == 4 with
  | false => exact gn (cY (a0.trans (by rw [hk])) rfl)
  | true =>
   obtain ⟨sc, k3⟩ := k2 hk
   exact gn (cY (b := true) (a0.trans (by rw [hk])) (cY (b := false) (lI (b := true) (kZ (r := .bool true) (ka g3) (aH (gK (bK h1) (by exact rfl) k3) (aH (ka g4) (by exact rfl))) (nJ (os := []) (by exact rfl)) (by exact rfl))) (by exact rfl)))
 have a2 : ex G7 (.exp (.aw (.v .iD) .aA (.cons (.tup (.cons (.aw (.at (.v .aD) .aE) .c5 .nil) (.cons (.v .aM) .nil))) .nil))) ⟨H, V, O⟩ = some (.nx, ⟨H.set n (.list (got ++ [.tup [bG rb, v]])), V, [got.length + 1] ++ (2 :: ([] ++ O))⟩) :=
  l9 (dE (bK h3) (lZ fh (g8 m4)) (aH (i5 (aH (dE (uF (bK h2) m2) m3 (by exact rfl) (lR (sQ p))) (aH (bK h1) (by exact rfl)))) (by exact rfl)) (lU (g8 m4) (by exact rfl))) (by exact rfl)
 show b0 G7 mI _ = _ from iV a1 (aJ a2 rfl)
theorem Af {V : List (Nm × AV)} {O : List Nat} (hV : Ek o V0 V) {kd : Int} {d : List Nat} (hk : (kd == 4) = false) :
  o7 ⟨hp R M o t f rb aq en tb got qs, pt V .aM (bh kd d), O⟩ = some (.nx, ⟨hp R M o t f rb aq en tb (got ++ [.tup [bG rb, bh kd d]]) qs, pt V .aM (bh kd d), [got.length + 1] ++ (2 :: ([] ++ O))⟩) := by
 have m2 : sd G7 (hp R M o t f rb aq en tb got qs) (.inst .tok 2) .aE = some (.inst .ak 3) := by cases o <;> kernel_rfl
 have m3 : gu G7 (hp R M o t f rb aq en tb got qs) (.inst .ak 3) .c5 = some (.inl (.ba .kY (.inst .ak 3))) := by cases o <;> cases en <;> kernel_rfl
 have m4 : (hp R M o t f rb aq en tb got qs)[yt o]? = some (.list got) := by cases o <;> rfl
 refine (se (n := yt o) bR (((hV.pt _).same .aD (by decide)).trans hV.tok) (((hV.pt _).same .iD (by decide)).trans hV.got) (kd := kd) (by kernel_rfl) (fun z => absurd (hk.symm.trans z) Bool.false_ne_true) m2 m3 xw m4).trans ?_
 cases o <;> rfl
theorem mh {os : List Nat} (e : ∀ got, G7.call f [.inst .tok 2] (hp R M o t f rb aq en tb got []) = some (.bool true, hp R M o t f' rb' aft' en' tb' got [], os)) (hos : Lm os) :
  eM (jd R M o t V0 f rb aq en tb got) (jd R M o t V0 f' rb' aft' en' tb' got) := fun σ p => by
 obtain ⟨H, V, O⟩ := σ
 obtain ⟨rfl, hv, hl⟩ := p
 refine ⟨2, ⟨hp R M o t f' rb' aft' en' tb' got [], V, os ++ O⟩, ⟨rfl, hv, hos.app hl⟩, fun k => ?_⟩
 show dx G7 2 .aM o7 (k + 1 + 1) true _ = _
 exact az (uP (e got)) (az A8 (az wO rfl))
theorem jS {os : List Nat} {kd : Int} {d : List Nat} (hk : (kd == 4) = false) (hn : got.length ≤ 500000) (e : ∀ got, G7.call f [.inst .tok 2] (hp R M o t f rb aq en tb got []) = some (.bool true, hp R M o t f' rb' aft' en' tb' got [bh kd d], os)) (hos : Lm os) :
  eM (jd R M o t V0 f rb aq en tb got) (jd R M o t V0 f' rb' aft' en' tb' (got ++ [.tup [bG rb', bh kd d]])) := fun σ p => by
 obtain ⟨H, V, O⟩ := σ
 obtain ⟨rfl, hv, hl⟩ := p
 refine ⟨3, ⟨hp R M o t f' rb' aft' en' tb' (got ++ [.tup [bG rb', bh kd d]]) [], pt V .aM (bh kd d), [got.length + 1] ++ (2 :: ([] ++ (os ++ O)))⟩, ⟨rfl, hv.pt _, ?_⟩, fun k => ?_⟩
 ·refine Lm.app (.cons ?_ .nil) (.cons (by decide) (Lm.app .nil (hos.app hl)))
  show got.length + 1 ≤ 1000000
  omega
 show dx G7 2 .aM o7 (k + 1 + 1 + 1) true _ = _
 exact az (uP (e got)) (az A8 (az A9 (az Bb (az (Af hv hk) (az wO rfl)))))
end
noncomputable def fq : Option (List Nat) → List (Nm × AV)
 | some b => cz b
 | none => []
noncomputable def Lh : AV := (.tup [.str [9], .str [10], .str [12], .str [32], .str [13]])
noncomputable def KW : AV := (.tup [.str [38], .str [60], .str [0]])
noncomputable def K0 : AV := (.tup [.str [60], .str [0]])
noncomputable def KH : AV := (.str [0])
section
variable (R M : AO) (o : Option (List Nat)) (t rb aq b : List Nat) (tb : List (Nm × AV)) (cP : Option (List Nat)) (en : Bool)
theorem zC : ∀ c ∈ ([10, 32] : List Nat), ∀ got, G7.call .jR [.inst .tok 2] (hp R M o t .jR rb (c :: aq) false tb got []) = some (.bool true, hp R M o t .jR ((fJ Lh true aq).reverse ++ c :: rb) (ko Lh true aq) (ko Lh true aq).isEmpty tb got [bh 2 (c :: (fJ Lh true aq))], [1, 2, [c].length + (fJ Lh true aq).length, aq.length]) := by
 cases o <;> (repeat' first | exact List.forall_mem_nil _ | refine List.forall_mem_cons.mpr ⟨fun got => by kernel_rfl, ?_⟩)
theorem zB : ∀ c ∈ ([33, 34, 45, 47, 49, 61, 62, 66, 69, 76, 84, 98, 101, 105, 107, 108, 116, 117, 118, 119, 120, 201] : List Nat), ∀ got, G7.call .jR [.inst .tok 2] (hp R M o t .jR rb (c :: aq) false tb got []) = some (.bool true, hp R M o t .jR ((fJ KW false aq).reverse ++ c :: rb) (ko KW false aq) (ko KW false aq).isEmpty tb got [bh 1 (c :: (fJ KW false aq))], [1, 2, [c].length + (fJ KW false aq).length, aq.length, 3]) := by
 cases o <;> (repeat' first | exact List.forall_mem_nil _ | refine List.forall_mem_cons.mpr ⟨fun got => by kernel_rfl, ?_⟩)
theorem vF : ∀ c ∈ ([10, 32, 33, 34, 45, 47, 49, 61, 62, 66, 69, 76, 84, 98, 101, 105, 107, 108, 116, 117, 118, 119, 120, 201] : List Nat), ∀ got, G7.call .fj [.inst .tok 2] (hp R M o t .fj rb (c :: aq) false tb got []) = some (.bool true, hp R M o t .fj ((fJ K0 false aq).reverse ++ c :: rb) (ko K0 false aq) (ko K0 false aq).isEmpty tb got [bh 1 (c :: (fJ K0 false aq))], [1, 2, [c].length + (fJ K0 false aq).length, aq.length, 2]) := by
 cases o <;> (repeat' first | exact List.forall_mem_nil _ | refine List.forall_mem_cons.mpr ⟨fun got => by kernel_rfl, ?_⟩)
theorem rJ : ∀ c ∈ ([10, 32, 33, 34, 45, 47, 49, 60, 61, 62, 66, 69, 76, 84, 98, 101, 105, 107, 108, 116, 117, 118, 119, 120, 201] : List Nat), ∀ got, G7.call .cu [.inst .tok 2] (hp R M o t .cu rb (c :: aq) false tb got []) = some (.bool true, hp R M o t .cu ((fJ KH false aq).reverse ++ c :: rb) (ko KH false aq) (ko KH false aq).isEmpty tb got [bh 1 (c :: (fJ KH false aq))], [1, 2, [c].length + (fJ KH false aq).length, aq.length]) := by
 cases o <;> (repeat' first | exact List.forall_mem_nil _ | refine List.forall_mem_cons.mpr ⟨fun got => by kernel_rfl, ?_⟩)
theorem vG : ∀ got, G7.call .jR [.inst .tok 2] (hp R M o t .jR rb [] en tb got []) = some (.bool false, hp R M o t .jR rb [] true tb got [], []) := by
 cases o <;> cases en <;> exact fun got => by kernel_rfl
theorem tY : ∀ got, G7.call .fj [.inst .tok 2] (hp R M o t .fj rb [] en tb got []) = some (.bool false, hp R M o t .fj rb [] true tb got [], []) := by
 cases o <;> cases en <;> exact fun got => by kernel_rfl
theorem pE : ∀ got, G7.call .cu [.inst .tok 2] (hp R M o t .cu rb [] en tb got []) = some (.bool false, hp R M o t .cu rb [] true tb got [], []) := by
 cases o <;> cases en <;> exact fun got => by kernel_rfl
theorem zA : ∀ got, G7.call .jR [.inst .tok 2] (hp R M o t .jR rb (60 :: aq) false (fq cP) got []) = some (.bool true, hp R M o t .i8 (60 :: rb) aq false (fq cP) got [], [9 + (fq cP).length]) := by
 cases o <;> cases cP <;> exact fun got => by kernel_rfl
theorem t7 : ∀ got, G7.call .i8 [.inst .tok 2] (hp R M o t .i8 rb (47 :: aq) false (fq cP) got []) = some (.bool true, hp R M o t .i7 (47 :: rb) aq false (cz []) got [], [10, 9 + (fq cP).length]) := by
 cases o <;> cases cP <;> exact fun got => by kernel_rfl
theorem t6 : ∀ c ∈ ([10, 32, 33, 34, 45, 49, 60, 61, 62, 66, 69, 76, 84, 98, 101, 105, 107, 108, 116, 117, 118, 119, 120, 201] : List Nat), ∀ got, G7.call .i8 [.inst .tok 2] (hp R M o t .i8 rb (c :: aq) false (fq cP) got []) = some (.bool true, hp R M o t .jR rb (c :: aq) false (fq cP) got [bh 1 [60]], [9 + (fq cP).length, 1, 2]) := by
 cases o <;> cases cP <;> (repeat' first | exact List.forall_mem_nil _ | refine List.forall_mem_cons.mpr ⟨fun got => by kernel_rfl, ?_⟩)
theorem rP : ∀ got, G7.call .i8 [.inst .tok 2] (hp R M o t .i8 rb [] en (fq cP) got []) = some (.bool true, hp R M o t .jR rb [] true (fq cP) got [bh 1 [60]], [9 + (fq cP).length, 1, 2]) := by
 cases o <;> cases cP <;> cases en <;> exact fun got => by kernel_rfl
theorem tZ : ∀ c ∈ ([66, 69, 76, 84, 98, 101, 105, 107, 108, 116, 117, 118, 119, 120] : List Nat), ∀ got, G7.call .i7 [.inst .tok 2] (hp R M o t .i7 rb (c :: aq) false (cz []) got []) = some (.bool true, hp R M o t .b8 (c :: rb) aq false (cz [c]) got [], [10, 10, 1]) := by
 cases o <;> (repeat' first | exact List.forall_mem_nil _ | refine List.forall_mem_cons.mpr ⟨fun got => by kernel_rfl, ?_⟩)
theorem t4 : ∀ c ∈ ([10, 32, 33, 34, 45, 47, 49, 60, 61, 62, 201] : List Nat), ∀ got, G7.call .i7 [.inst .tok 2] (hp R M o t .i7 rb (c :: aq) false (cz b) got []) = some (.bool true, hp R M o t .jR rb (c :: aq) false (cz b) got [bh 1 [60, 47]], [10, 1, 2]) := by
 cases o <;> (repeat' first | exact List.forall_mem_nil _ | refine List.forall_mem_cons.mpr ⟨fun got => by kernel_rfl, ?_⟩)
theorem rO : ∀ got, G7.call .i7 [.inst .tok 2] (hp R M o t .i7 rb [] en (cz b) got []) = some (.bool true, hp R M o t .jR rb [] true (cz b) got [bh 1 [60, 47]], [10, 1, 2]) := by
 cases o <;> cases en <;> exact fun got => by kernel_rfl
theorem vE : ∀ got, G7.call .fj [.inst .tok 2] (hp R M o t .fj rb (60 :: aq) false (fq cP) got []) = some (.bool true, hp R M o t .gk (60 :: rb) aq false (fq cP) got [], [9 + (fq cP).length]) := by
 cases o <;> cases cP <;> exact fun got => by kernel_rfl
theorem rN : ∀ got, G7.call .gk [.inst .tok 2] (hp R M o t .gk rb (47 :: aq) false (fq cP) got []) = some (.bool true, hp R M o t .gj (47 :: rb) aq false (cz []) got [], [10, 9 + (fq cP).length]) := by
 cases o <;> cases cP <;> exact fun got => by kernel_rfl
theorem rM : ∀ c ∈ ([10, 32, 33, 34, 45, 49, 60, 61, 62, 66, 69, 76, 84, 98, 101, 105, 107, 108, 116, 117, 118, 119, 120, 201] : List Nat), ∀ got, G7.call .gk [.inst .tok 2] (hp R M o t .gk rb (c :: aq) false (fq cP) got []) = some (.bool true, hp R M o t .fj rb (c :: aq) false (fq cP) got [bh 1 [60]], [9 + (fq cP).length, 1, 2]) := by
 cases o <;> cases cP <;> (repeat' first | exact List.forall_mem_nil _ | refine List.forall_mem_cons.mpr ⟨fun got => by kernel_rfl, ?_⟩)
theorem pG : ∀ got, G7.call .gk [.inst .tok 2] (hp R M o t .gk rb [] en (fq cP) got []) = some (.bool true, hp R M o t .fj rb [] true (fq cP) got [bh 1 [60]], [9 + (fq cP).length, 1, 2]) := by
 cases o <;> cases cP <;> cases en <;> exact fun got => by kernel_rfl
theorem rK : ∀ c ∈ ([66, 69, 76, 84, 98, 101, 105, 107, 108, 116, 117, 118, 119, 120] : List Nat), ∀ got, G7.call .gj [.inst .tok 2] (hp R M o t .gj rb (c :: aq) false (cz []) got []) = some (.bool true, hp R M o t .bx (c :: rb) aq false (cz [c]) got [], [10, 10, 1]) := by
 cases o <;> (repeat' first | exact List.forall_mem_nil _ | refine List.forall_mem_cons.mpr ⟨fun got => by kernel_rfl, ?_⟩)
theorem rL : ∀ c ∈ ([10, 32, 33, 34, 45, 47, 49, 60, 61, 62, 201] : List Nat), ∀ got, G7.call .gj [.inst .tok 2] (hp R M o t .gj rb (c :: aq) false (cz b) got []) = some (.bool true, hp R M o t .fj rb (c :: aq) false (cz b) got [bh 1 [60, 47]], [10, 1, 2]) := by
 cases o <;> (repeat' first | exact List.forall_mem_nil _ | refine List.forall_mem_cons.mpr ⟨fun got => by kernel_rfl, ?_⟩)
theorem pF : ∀ got, G7.call .gj [.inst .tok 2] (hp R M o t .gj rb [] en (cz b) got []) = some (.bool true, hp R M o t .fj rb [] true (cz b) got [bh 1 [60, 47]], [10, 1, 2]) := by
 cases o <;> cases en <;> exact fun got => by kernel_rfl
end
noncomputable def GN : cT → cT
 | .cons _ r => r
 | .nil => .nil
noncomputable def bQ (ir : cT) (a : AV) (O : List Nat) (H : List AO) : Option (AV × List AO × List Nat) := bd (b0 G6 (GN ir) { H := H, V := [(.aa, .inst .tok 2), (.bM, a)], O := O }) fun p => bd (ky p.1) fun r => some (r, p.2.H, p.2.O)
section
variable (R M : AO) (o : Option (List Nat)) (nm t rb aq b O : List Nat) (a : Bool) (en : Bool) (got : List AV)
noncomputable def iz (nm : List Nat) (sc : Bool) (l : Nat) : AO := .dict [(.aV, .int 4), (.aK, .str nm), (.ag, .aQ l), (.br, .bool sc)]
theorem dH (en : Bool) : G7.call .b8 [.inst .tok 2] (HA R M nm t .b8 rb aq en (cz b) got []) = bQ dg (.bool (bV (a8 nm) (a8 b))) [(a8 b).length, (a8 nm).length] (HA R M nm t .b8 rb aq en (cz b) got []) := by kernel_rfl
theorem jU (en : Bool) : G7.call .b8 [.inst .tok 2] (HB R M [] t .b8 rb aq en (cz b) got []) = bQ dg .none [] (HB R M [] t .b8 rb aq en (cz b) got []) := by kernel_rfl
theorem o9 : ∀ c ∈ ([66, 69, 76, 84, 98, 101, 105, 107, 108, 116, 117, 118, 119, 120] : List Nat), bQ dg (.bool a) O (HA R M nm t .b8 rb (c :: aq) false (cz b) got []) = some (.bool true, HA R M nm t .b8 (c :: rb) aq false (cz (b ++ [c])) got [], 10 :: (b.length + 1) :: O) := by
 cases a <;> (repeat' first | exact List.forall_mem_nil _ | refine List.forall_mem_cons.mpr ⟨by kernel_rfl, ?_⟩)
theorem pg : ∀ c ∈ ([33, 34, 45, 49, 60, 61, 201] : List Nat), bQ dg (.bool a) O (HA R M nm t .b8 rb (c :: aq) false (cz b) got []) = some (.bool true, HA R M nm t .jR rb (c :: aq) false (cz b) got [bh 1 (60 :: 47 :: b)], 10 :: 1 :: 2 :: (2 + b.length) :: O) := by
 cases a <;> (repeat' first | exact List.forall_mem_nil _ | refine List.forall_mem_cons.mpr ⟨by kernel_rfl, ?_⟩)
theorem nG : bQ dg (.bool a) O (HA R M nm t .b8 rb [] en (cz b) got []) = some (.bool true, HA R M nm t .jR rb [] true (cz b) got [bh 1 (60 :: 47 :: b)], 10 :: 1 :: 2 :: (2 + b.length) :: O) := by
 cases a <;> cases en <;> kernel_rfl
theorem pk : ∀ c ∈ ([66, 69, 76, 84, 98, 101, 105, 107, 108, 116, 117, 118, 119, 120] : List Nat), bQ dg .none O (HB R M [] t .b8 rb (c :: aq) false (cz b) got []) = some (.bool true, HB R M [] t .b8 (c :: rb) aq false (cz (b ++ [c])) got [], 10 :: (b.length + 1) :: O) := by
 (repeat' first | exact List.forall_mem_nil _ | refine List.forall_mem_cons.mpr ⟨by kernel_rfl, ?_⟩)
theorem pn : ∀ c ∈ ([33, 34, 45, 49, 60, 61, 201, 32, 10, 47, 62] : List Nat), bQ dg .none O (HB R M [] t .b8 rb (c :: aq) false (cz b) got []) = some (.bool true, HB R M [] t .jR rb (c :: aq) false (cz b) got [bh 1 (60 :: 47 :: b)], 10 :: 1 :: 2 :: (2 + b.length) :: O) := by
 (repeat' first | exact List.forall_mem_nil _ | refine List.forall_mem_cons.mpr ⟨by kernel_rfl, ?_⟩)
theorem nH : bQ dg .none O (HB R M [] t .b8 rb [] en (cz b) got []) = some (.bool true, HB R M [] t .jR rb [] true (cz b) got [bh 1 (60 :: 47 :: b)], 10 :: 1 :: 2 :: (2 + b.length) :: O) := by
 cases en <;> kernel_rfl
theorem pd : ∀ c ∈ ([32, 10, 47, 62] : List Nat), bQ dg (.bool false) O (HA R M nm t .b8 rb (c :: aq) false (cz b) got []) = some (.bool true, HA R M nm t .jR rb (c :: aq) false (cz b) got [bh 1 (60 :: 47 :: b)], 10 :: 1 :: 2 :: (2 + b.length) :: O) := by
 (repeat' first | exact List.forall_mem_nil _ | refine List.forall_mem_cons.mpr ⟨by kernel_rfl, ?_⟩)
theorem jN : ∀ c ∈ ([32, 10] : List Nat), bQ dg (.bool true) O (HA R M nm t .b8 rb (c :: aq) false (cz b) got []) = some (.bool true, [R, M, tk .iX (.aQ 9) 7 (cz b), .ak 4 3 (c :: rb) aq false, .txt t true, fy nm, .list got, .list [], .list [], iz b false 8], 10 :: 10 :: 4 :: 0 :: O) := by
 (repeat' first | exact List.forall_mem_nil _ | refine List.forall_mem_cons.mpr ⟨by kernel_rfl, ?_⟩)
theorem pj : ∀ c ∈ ([47] : List Nat), bQ dg (.bool true) O (HA R M nm t .b8 rb (c :: aq) false (cz b) got []) = some (.bool true, [R, M, tk .zP (.aQ 9) 7 (cz b), .ak 4 3 (c :: rb) aq false, .txt t true, fy nm, .list got, .list [], .list [], iz b false 8], 10 :: 10 :: 4 :: 0 :: O) := by
 (repeat' first | exact List.forall_mem_nil _ | refine List.forall_mem_cons.mpr ⟨by kernel_rfl, ?_⟩)
theorem o8 : ∀ c ∈ ([62] : List Nat), bQ dg (.bool true) O (HA R M nm t .b8 rb (c :: aq) false (cz b) got []) = some (.bool true, [R, M, tk .bl (.aQ 9) 7 (cz b), .ak 4 3 (c :: rb) aq false, .txt t true, fy nm, .list got, .list [.aQ 9], .list [], iz (b.map fU) false 8], 10 :: 10 :: 1 :: b.length :: 10 :: 4 :: 0 :: O) := by
 (repeat' first | exact List.forall_mem_nil _ | refine List.forall_mem_cons.mpr ⟨by kernel_rfl, ?_⟩)
theorem dk (en : Bool) : G7.call .bx [.inst .tok 2] (HA R M nm t .bx rb aq en (cz b) got []) = bQ cy (.bool (bV (a8 nm) (a8 b))) [(a8 b).length, (a8 nm).length] (HA R M nm t .bx rb aq en (cz b) got []) := by kernel_rfl
theorem jm (en : Bool) : G7.call .bx [.inst .tok 2] (HB R M [] t .bx rb aq en (cz b) got []) = bQ cy .none [] (HB R M [] t .bx rb aq en (cz b) got []) := by kernel_rfl
theorem nA : ∀ c ∈ ([66, 69, 76, 84, 98, 101, 105, 107, 108, 116, 117, 118, 119, 120] : List Nat), bQ cy (.bool a) O (HA R M nm t .bx rb (c :: aq) false (cz b) got []) = some (.bool true, HA R M nm t .bx (c :: rb) aq false (cz (b ++ [c])) got [], 10 :: (b.length + 1) :: O) := by
 cases a <;> (repeat' first | exact List.forall_mem_nil _ | refine List.forall_mem_cons.mpr ⟨by kernel_rfl, ?_⟩)
theorem nC : ∀ c ∈ ([33, 34, 45, 49, 60, 61, 201] : List Nat), bQ cy (.bool a) O (HA R M nm t .bx rb (c :: aq) false (cz b) got []) = some (.bool true, HA R M nm t .fj rb (c :: aq) false (cz b) got [bh 1 (60 :: 47 :: b)], 10 :: 1 :: 2 :: (2 + b.length) :: O) := by
 cases a <;> (repeat' first | exact List.forall_mem_nil _ | refine List.forall_mem_cons.mpr ⟨by kernel_rfl, ?_⟩)
theorem mn : bQ cy (.bool a) O (HA R M nm t .bx rb [] en (cz b) got []) = some (.bool true, HA R M nm t .fj rb [] true (cz b) got [bh 1 (60 :: 47 :: b)], 10 :: 1 :: 2 :: (2 + b.length) :: O) := by
 cases a <;> cases en <;> kernel_rfl
theorem nE : ∀ c ∈ ([66, 69, 76, 84, 98, 101, 105, 107, 108, 116, 117, 118, 119, 120] : List Nat), bQ cy .none O (HB R M [] t .bx rb (c :: aq) false (cz b) got []) = some (.bool true, HB R M [] t .bx (c :: rb) aq false (cz (b ++ [c])) got [], 10 :: (b.length + 1) :: O) := by
 (repeat' first | exact List.forall_mem_nil _ | refine List.forall_mem_cons.mpr ⟨by kernel_rfl, ?_⟩)
theorem nF : ∀ c ∈ ([33, 34, 45, 49, 60, 61, 201, 32, 10, 47, 62] : List Nat), bQ cy .none O (HB R M [] t .bx rb (c :: aq) false (cz b) got []) = some (.bool true, HB R M [] t .fj rb (c :: aq) false (cz b) got [bh 1 (60 :: 47 :: b)], 10 :: 1 :: 2 :: (2 + b.length) :: O) := by
 (repeat' first | exact List.forall_mem_nil _ | refine List.forall_mem_cons.mpr ⟨by kernel_rfl, ?_⟩)
theorem mq : bQ cy .none O (HB R M [] t .bx rb [] en (cz b) got []) = some (.bool true, HB R M [] t .fj rb [] true (cz b) got [bh 1 (60 :: 47 :: b)], 10 :: 1 :: 2 :: (2 + b.length) :: O) := by
 cases en <;> kernel_rfl
theorem nB : ∀ c ∈ ([32, 10, 47, 62] : List Nat), bQ cy (.bool false) O (HA R M nm t .bx rb (c :: aq) false (cz b) got []) = some (.bool true, HA R M nm t .fj rb (c :: aq) false (cz b) got [bh 1 (60 :: 47 :: b)], 10 :: 1 :: 2 :: (2 + b.length) :: O) := by
 (repeat' first | exact List.forall_mem_nil _ | refine List.forall_mem_cons.mpr ⟨by kernel_rfl, ?_⟩)
theorem jl : ∀ c ∈ ([32, 10] : List Nat), bQ cy (.bool true) O (HA R M nm t .bx rb (c :: aq) false (cz b) got []) = some (.bool true, [R, M, tk .iX (.aQ 9) 7 (cz b), .ak 4 3 (c :: rb) aq false, .txt t true, fy nm, .list got, .list [], .list [], iz b false 8], 10 :: 10 :: 4 :: 0 :: O) := by
 (repeat' first | exact List.forall_mem_nil _ | refine List.forall_mem_cons.mpr ⟨by kernel_rfl, ?_⟩)
theorem nD : ∀ c ∈ ([47] : List Nat), bQ cy (.bool true) O (HA R M nm t .bx rb (c :: aq) false (cz b) got []) = some (.bool true, [R, M, tk .zP (.aQ 9) 7 (cz b), .ak 4 3 (c :: rb) aq false, .txt t true, fy nm, .list got, .list [], .list [], iz b false 8], 10 :: 10 :: 4 :: 0 :: O) := by
 (repeat' first | exact List.forall_mem_nil _ | refine List.forall_mem_cons.mpr ⟨by kernel_rfl, ?_⟩)
theorem nz : ∀ c ∈ ([62] : List Nat), bQ cy (.bool true) O (HA R M nm t .bx rb (c :: aq) false (cz b) got []) = some (.bool true, [R, M, tk .bl (.aQ 9) 7 (cz b), .ak 4 3 (c :: rb) aq false, .txt t true, fy nm, .list got, .list [.aQ 9], .list [], iz (b.map fU) false 8], 10 :: 10 :: 1 :: b.length :: 10 :: 4 :: 0 :: O) := by
 (repeat' first | exact List.forall_mem_nil _ | refine List.forall_mem_cons.mpr ⟨by kernel_rfl, ?_⟩)
end
noncomputable def hX (R M : AO) (t : List Nat) (CD : AO) (K : List AO) (f : Fn) (ct : AV) (rb aq : List Nat) (en : Bool) (b : List Nat) (got qs : List AV) : List AO :=
 R :: M :: tk f ct 7 (cz b) :: .ak 4 3 rb aq en :: .txt t true :: CD :: .list got :: .list qs :: K
noncomputable def H6 (H : List AO) (v : AV) : Prop := ∃ kd, lW H v (.str [116,121,112,101]) = some (.int kd) ∧ ((kd == 4) = true → ∃ sc, lW H v (.str [115,101,108,102,67,108,111,115,105,110,103]) = some (.bool sc))
structure dj (R M : AO) (t : List Nat) (V0 : List (Nm × AV)) (CD : AO) (K : List AO) (f : Fn) (ct : AV) (rb aq : List Nat) (en : Bool) (b : List Nat) (got : List AV) (σ : St) : Prop where
 h : σ.H = hX R M t CD K f ct rb aq en b got []
 v : Ek (some []) V0 σ.V
 lm : Lm σ.O
section
variable {R M : AO} {t : List Nat} {V0 : List (Nm × AV)} {CD CD' : AO} {K K' : List AO} {f f' : Fn} {ct ct' : AV} {rb aq rb' aft' : List Nat} {en en' : Bool} {b b' : List Nat} {got qs : List AV} {σ : St}
theorem Tq {G : bS} {n k : Nat} {x : Nm} {b : St → Option (Fl × St)} {σ τ : St} (h : cW G zO (k9 n σ) = some (false, τ)) : dx G n x b (k + 1) false σ = dx G n x b k true (bk σ τ) := az h rfl
theorem Tr {G : bS} {n k : Nat} {x : Nm} {b : St → Option (Fl × St)} {σ τ ρ : St} {q : AV} {H : List AO} {V : List (Nm × AV)} {O : List Nat} (h : cW G zO (k9 n σ) = some (true, τ)) (h2 : ev G Ba τ = some (q, ⟨H, V, O⟩)) (h3 : b ⟨H, pt σ.V x q, O⟩ = some (.nx, ρ)) : dx G n x b (k + 1) false σ = dx G n x b k false ρ := az h (az h2 (az h3 rfl))
theorem Ts {G : bS} {n k : Nat} {x : Nm} {b : St → Option (Fl × St)} {σ τ ρ : St} (h : cW G uO (k9 n σ) = some (true, τ)) (h2 : cW G Eb τ = some (false, ρ)) : dx G n x b (k + 1) true σ = dx G n x b k false (bk σ ρ) := az h (az h2 rfl)
theorem Nq {G : bS} {n k : Nat} {x : Nm} {b : St → Option (Fl × St)} {σ τ : St} (h : cW G uO (k9 n σ) = some (false, τ)) : dx G n x b (k + 1) true σ = some (bk σ τ) := az h rfl
theorem Vh {V : List (Nm × AV)} {O os : List Nat} {r : Bool} {H' : List AO} (e : G7.call f [.inst .tok 2] (hX R M t CD K f ct rb aq en b got qs) = some (.bool r, H', os)) :
  cW G7 uO (k9 2 ⟨hX R M t CD K f ct rb aq en b got qs, V, O⟩) = some (r, ⟨H', gV 2, os ++ O⟩) := ju (bK rfl) (oq rfl rfl) rfl (lR (sQ e)) rfl
theorem V8 {O : List Nat} : cW G7 Eb ⟨hX R M t CD K f ct rb aq en b got qs, gV 2, O⟩ = some (false, ⟨hX R M t CD K f ct rb aq en b got qs, gV 2, O⟩) := by
 cases en <;> kernel_rfl
theorem Ux {V : List (Nm × AV)} {O : List Nat} : cW G7 zO (k9 2 ⟨hX R M t CD K f ct rb aq en b got [], V, O⟩) = some (false, ⟨hX R M t CD K f ct rb aq en b got [], gV 2, O⟩) := by kernel_rfl
theorem Uw {V : List (Nm × AV)} {O : List Nat} {q : AV} : cW G7 zO (k9 2 ⟨hX R M t CD K f ct rb aq en b got (q :: qs), V, O⟩) = some (true, ⟨hX R M t CD K f ct rb aq en b got (q :: qs), gV 2, O⟩) := by kernel_rfl
theorem V9 {O : List Nat} {q : AV} : ev G7 Ba ⟨hX R M t CD K f ct rb aq en b got (q :: qs), gV 2, O⟩ = some (q, ⟨hX R M t CD K f ct rb aq en b got qs, gV 2, O⟩) := by kernel_rfl
theorem RL : G7.call .kY [.inst .ak 3] (hX R M t CD K f ct rb aq en b got qs) = some (bG rb, hX R M t CD K f ct rb aq en b got qs, []) := by
 cases en <;> kernel_rfl
theorem Uy {V : List (Nm × AV)} {O : List Nat} (hV : Ek (some []) V0 V) {v : AV} (hk : H6 (hX R M t CD K f ct rb aq en b got qs) v) :
  o7 ⟨hX R M t CD K f ct rb aq en b got qs, pt V .aM v, O⟩ = some (.nx, ⟨hX R M t CD K f ct rb aq en b (got ++ [.tup [bG rb, v]]) qs, pt V .aM v, [got.length + 1] ++ (2 :: ([] ++ O))⟩) :=
 have m3 : gu G7 (hX R M t CD K f ct rb aq en b got qs) (.inst .ak 3) .c5 = some (.inl (.ba .kY (.inst .ak 3))) := by cases en <;> kernel_rfl
 Exists.elim hk fun kd k => se (kd := kd) bR (((hV.pt _).same .aD (by decide)).trans hV.tok) (((hV.pt _).same .iD (by decide)).trans hV.got) k.1 k.2 (by kernel_rfl) m3 RL rfl
theorem D4 : ∀ (vs : List AV) (got : List AV) (V : List (Nm × AV)) (O : List Nat), Ek (some []) V0 V → Lm O → got.length + vs.length ≤ 500000 → (∀ got qs v, v ∈ vs → H6 (hX R M t CD K f ct rb aq en b got qs) v) →
  ∃ σ', dj R M t V0 CD K f ct rb aq en b (got ++ vs.map fun v => .tup [bG rb, v]) σ' ∧ ∀ n, sV (n + vs.length + 1) false ⟨hX R M t CD K f ct rb aq en b got vs, V, O⟩ = sV n true σ'
 | [], got, V, O, hV, hO, _, _ => ⟨⟨hX R M t CD K f ct rb aq en b got [], V, O⟩, ⟨by rw [List.map_nil, List.append_nil], hV, hO⟩, fun n => Tq Ux⟩
 | v :: vs, got, V, O, hV, hO, hl, hk => by
  rw [List.length_cons] at hl
  have h1 : got.length + 1 ≤ dD := by show got.length + 1 ≤ 1000000; omega
  obtain ⟨σ', q, z⟩ := D4 vs (got ++ [.tup [bG rb, v]]) (pt V .aM v) ([got.length + 1] ++ (2 :: ([] ++ O))) (hV.pt v) (Lm.app (.cons h1 .nil) (.cons (by decide) (Lm.app .nil hO))) (by rw [List.length_append, List.length_singleton]; omega) fun g q w m => hk g q w (.tail _ m)
  refine ⟨σ', ?_, fun n => ?_⟩
  ·rw [List.append_assoc] at q; exact q
  ·show dx G7 2 .aM o7 (n + vs.length + 1 + 1) false _ = _
   exact (Tr Uw V9 (Uy hV (hk got vs v (.head _)))).trans (z n)
theorem eh {vs : List AV} {os : List Nat} (hn : got.length + vs.length ≤ 500000) (e : G7.call f [.inst .tok 2] (hX R M t CD K f ct rb aq en b got []) = some (.bool true, hX R M t CD' K' f' ct' rb' aft' en' b' got vs, os)) (hos : Lm os)
  (hk : ∀ got qs v, v ∈ vs → H6 (hX R M t CD' K' f' ct' rb' aft' en' b' got qs) v) :
  eM (dj R M t V0 CD K f ct rb aq en b got) (dj R M t V0 CD' K' f' ct' rb' aft' en' b' (got ++ vs.map fun v => .tup [bG rb', v])) := fun σ p => by
 obtain ⟨H, V, O⟩ := σ
 obtain ⟨rfl, hv, hl⟩ := p
 obtain ⟨σ', q, z⟩ := D4 vs got V (os ++ O) hv (hos.app hl) hn hk
 refine ⟨vs.length + 2, σ', q, fun k => ?_⟩
 show dx G7 2 .aM o7 (k + vs.length + 1 + 1) true _ = _
 exact (Ts (Vh e) V8).trans (z k)
end
theorem LS : True := trivial
section
variable {R M : AO} {t : List Nat} {V0 : List (Nm × AV)} {nm : List Nat} {CD : AO} {K : List AO} {ct : AV} {rb aq : List Nat} {en : Bool} {b : List Nat} {got : List AV} {σ : St}
noncomputable abbrev toks (rb : List Nat) (vs : List AV) : List AV := vs.map fun v => .tup [bG rb, v]
theorem sM (hx : bV (a8 nm) (a8 b) = true) (hn : got.length ≤ 400000) (hb : b.length ≤ 400000) (hm : (a8 nm).length ≤ 400000) (hl : (a8 b).length ≤ 400000) : eM (dj R M t V0 (fy nm) [] .b8 (.aQ 5) rb (32 :: aq) false b got) (dj R M t V0 (fy nm) [.list [], iz b false 8] .iX (.aQ 9) (32 :: rb) aq false b (got ++ toks (32 :: rb) [])) :=
 eh (vs := []) (os := 10 :: 10 :: 4 :: 0 :: [(a8 b).length, (a8 nm).length]) (by simp only [List.length_cons, List.length_nil]; omega) (by
  show G7.call .b8 [.inst .tok 2] (HA R M nm t .b8 rb (32 :: aq) false (cz b) got []) = _
  rw [dH, hx]; exact jN _ _ _ _ _ _ _ _ _ 32 (by decide)) (fun k hk => by simp at hk; show k ≤ 1000000; omega) (fun _ _ _ m => nomatch m)
theorem AK (hx : bV (a8 nm) (a8 b) = true) (hn : got.length ≤ 400000) (hb : b.length ≤ 400000) (hm : (a8 nm).length ≤ 400000) (hl : (a8 b).length ≤ 400000) : eM (dj R M t V0 (fy nm) [] .b8 (.aQ 5) rb (10 :: aq) false b got) (dj R M t V0 (fy nm) [.list [], iz b false 8] .iX (.aQ 9) (10 :: rb) aq false b (got ++ toks (10 :: rb) [])) :=
 eh (vs := []) (os := 10 :: 10 :: 4 :: 0 :: [(a8 b).length, (a8 nm).length]) (by simp only [List.length_cons, List.length_nil]; omega) (by
  show G7.call .b8 [.inst .tok 2] (HA R M nm t .b8 rb (10 :: aq) false (cz b) got []) = _
  rw [dH, hx]; exact jN _ _ _ _ _ _ _ _ _ 10 (by decide)) (fun k hk => by simp at hk; show k ≤ 1000000; omega) (fun _ _ _ m => nomatch m)
theorem sN (hx : bV (a8 nm) (a8 b) = true) (hn : got.length ≤ 400000) (hb : b.length ≤ 400000) (hm : (a8 nm).length ≤ 400000) (hl : (a8 b).length ≤ 400000) : eM (dj R M t V0 (fy nm) [] .b8 (.aQ 5) rb (47 :: aq) false b got) (dj R M t V0 (fy nm) [.list [], iz b false 8] .zP (.aQ 9) (47 :: rb) aq false b (got ++ toks (47 :: rb) [])) :=
 eh (vs := []) (os := 10 :: 10 :: 4 :: 0 :: [(a8 b).length, (a8 nm).length]) (by simp only [List.length_cons, List.length_nil]; omega) (by
  show G7.call .b8 [.inst .tok 2] (HA R M nm t .b8 rb (47 :: aq) false (cz b) got []) = _
  rw [dH, hx]; exact pj _ _ _ _ _ _ _ _ _ 47 (by decide)) (fun k hk => by simp at hk; show k ≤ 1000000; omega) (fun _ _ _ m => nomatch m)
theorem AL (hx : bV (a8 nm) (a8 b) = true) (hn : got.length ≤ 400000) (hb : b.length ≤ 400000) (hm : (a8 nm).length ≤ 400000) (hl : (a8 b).length ≤ 400000) : eM (dj R M t V0 (fy nm) [] .b8 (.aQ 5) rb (62 :: aq) false b got) (dj R M t V0 (fy nm) [.list [], iz (b.map fU) false 8] .bl (.aQ 9) (62 :: rb) aq false b (got ++ toks (62 :: rb) [.aQ 9])) :=
 eh (vs := [.aQ 9]) (os := 10 :: 10 :: 1 :: b.length :: 10 :: 4 :: 0 :: [(a8 b).length, (a8 nm).length]) (by simp only [List.length_cons, List.length_nil]; omega) (by
  show G7.call .b8 [.inst .tok 2] (HA R M nm t .b8 rb (62 :: aq) false (cz b) got []) = _
  rw [dH, hx]; exact o8 _ _ _ _ _ _ _ _ _ 62 (by decide)) (fun k hk => by simp at hk; show k ≤ 1000000; omega) (fun g q v m => by
  cases List.mem_singleton.mp m
  exact ⟨4, by kernel_rfl, fun _ => ⟨false, by kernel_rfl⟩⟩)
theorem pS (hx : bV (a8 nm) (a8 b) = true) (hn : got.length ≤ 400000) (hb : b.length ≤ 400000) (hm : (a8 nm).length ≤ 400000) (hl : (a8 b).length ≤ 400000) : eM (dj R M t V0 (fy nm) [] .bx (.aQ 5) rb (32 :: aq) false b got) (dj R M t V0 (fy nm) [.list [], iz b false 8] .iX (.aQ 9) (32 :: rb) aq false b (got ++ toks (32 :: rb) [])) :=
 eh (vs := []) (os := 10 :: 10 :: 4 :: 0 :: [(a8 b).length, (a8 nm).length]) (by simp only [List.length_cons, List.length_nil]; omega) (by
  show G7.call .bx [.inst .tok 2] (HA R M nm t .bx rb (32 :: aq) false (cz b) got []) = _
  rw [dk, hx]; exact jl _ _ _ _ _ _ _ _ _ 32 (by decide)) (fun k hk => by simp at hk; show k ≤ 1000000; omega) (fun _ _ _ m => nomatch m)
theorem yd (hx : bV (a8 nm) (a8 b) = true) (hn : got.length ≤ 400000) (hb : b.length ≤ 400000) (hm : (a8 nm).length ≤ 400000) (hl : (a8 b).length ≤ 400000) : eM (dj R M t V0 (fy nm) [] .bx (.aQ 5) rb (10 :: aq) false b got) (dj R M t V0 (fy nm) [.list [], iz b false 8] .iX (.aQ 9) (10 :: rb) aq false b (got ++ toks (10 :: rb) [])) :=
 eh (vs := []) (os := 10 :: 10 :: 4 :: 0 :: [(a8 b).length, (a8 nm).length]) (by simp only [List.length_cons, List.length_nil]; omega) (by
  show G7.call .bx [.inst .tok 2] (HA R M nm t .bx rb (10 :: aq) false (cz b) got []) = _
  rw [dk, hx]; exact jl _ _ _ _ _ _ _ _ _ 10 (by decide)) (fun k hk => by simp at hk; show k ≤ 1000000; omega) (fun _ _ _ m => nomatch m)
theorem pT (hx : bV (a8 nm) (a8 b) = true) (hn : got.length ≤ 400000) (hb : b.length ≤ 400000) (hm : (a8 nm).length ≤ 400000) (hl : (a8 b).length ≤ 400000) : eM (dj R M t V0 (fy nm) [] .bx (.aQ 5) rb (47 :: aq) false b got) (dj R M t V0 (fy nm) [.list [], iz b false 8] .zP (.aQ 9) (47 :: rb) aq false b (got ++ toks (47 :: rb) [])) :=
 eh (vs := []) (os := 10 :: 10 :: 4 :: 0 :: [(a8 b).length, (a8 nm).length]) (by simp only [List.length_cons, List.length_nil]; omega) (by
  show G7.call .bx [.inst .tok 2] (HA R M nm t .bx rb (47 :: aq) false (cz b) got []) = _
  rw [dk, hx]; exact nD _ _ _ _ _ _ _ _ _ 47 (by decide)) (fun k hk => by simp at hk; show k ≤ 1000000; omega) (fun _ _ _ m => nomatch m)
theorem yf (hx : bV (a8 nm) (a8 b) = true) (hn : got.length ≤ 400000) (hb : b.length ≤ 400000) (hm : (a8 nm).length ≤ 400000) (hl : (a8 b).length ≤ 400000) : eM (dj R M t V0 (fy nm) [] .bx (.aQ 5) rb (62 :: aq) false b got) (dj R M t V0 (fy nm) [.list [], iz (b.map fU) false 8] .bl (.aQ 9) (62 :: rb) aq false b (got ++ toks (62 :: rb) [.aQ 9])) :=
 eh (vs := [.aQ 9]) (os := 10 :: 10 :: 1 :: b.length :: 10 :: 4 :: 0 :: [(a8 b).length, (a8 nm).length]) (by simp only [List.length_cons, List.length_nil]; omega) (by
  show G7.call .bx [.inst .tok 2] (HA R M nm t .bx rb (62 :: aq) false (cz b) got []) = _
  rw [dk, hx]; exact nz _ _ _ _ _ _ _ _ _ 62 (by decide)) (fun k hk => by simp at hk; show k ≤ 1000000; omega) (fun g q v m => by
  cases List.mem_singleton.mp m
  exact ⟨4, by kernel_rfl, fun _ => ⟨false, by kernel_rfl⟩⟩)
theorem sI (hn : got.length ≤ 400000) (hb : b.length ≤ 400000) : eM (dj R M t V0 CD [.list [], iz b false 8] .iX (.aQ 9) rb (62 :: aq) false b got) (dj R M t V0 CD [.list [], iz (b.map fU) false 8] .bl (.aQ 9) (62 :: rb) aq false b (got ++ toks (62 :: rb) [.aQ 9])) :=
 eh (vs := [.aQ 9]) (os := [10, 1, b.length]) (by simp only [List.length_cons, List.length_nil]; omega) (by kernel_rfl) (fun k hk => by simp at hk; show k ≤ 1000000; omega) (fun g q v m => by
  cases List.mem_singleton.mp m
  exact ⟨4, by kernel_rfl, fun _ => ⟨false, by kernel_rfl⟩⟩)
theorem yc (hn : got.length ≤ 400000) (hb : b.length ≤ 400000) : eM (dj R M t V0 CD [.list [], iz b false 8] .iX (.aQ 9) rb [] false b got) (dj R M t V0 CD [.list [], iz b false 8] .bl (.aQ 9) rb [] true b (got ++ toks rb [bh 7 [101, 120, 112, 101, 99, 116, 101, 100, 45, 97, 116, 116, 114, 105, 98, 117, 116, 101, 45, 110, 97, 109, 101, 45, 98, 117, 116, 45, 103, 111, 116, 45, 101, 111, 102]])) :=
 eh (vs := [bh 7 [101, 120, 112, 101, 99, 116, 101, 100, 45, 97, 116, 116, 114, 105, 98, 117, 116, 101, 45, 110, 97, 109, 101, 45, 98, 117, 116, 45, 103, 111, 116, 45, 101, 111, 102]]) (os := [10, 1, 2, 4]) (by simp only [List.length_cons, List.length_nil]; omega) (by kernel_rfl) (fun k hk => by simp at hk; show k ≤ 1000000; omega) (fun g q v m => by
  cases List.mem_singleton.mp m
  exact ⟨7, by kernel_rfl, fun h => nomatch h⟩)
theorem yb (hn : got.length ≤ 400000) (hb : b.length ≤ 400000) : eM (dj R M t V0 CD [.list [], iz b false 8] .iX (.aQ 9) rb (107 :: aq) false b got) (dj R M t V0 CD [.list [.aQ 10], iz b false 8, .list [.str [107], .str []]] .tAN (.aQ 9) (107 :: rb) aq false b (got ++ toks (107 :: rb) [])) :=
 eh (vs := []) (os := [10, 1, 2]) (by simp only [List.length_cons, List.length_nil]; omega) (by kernel_rfl) (fun k hk => by simp at hk; show k ≤ 1000000; omega) (fun _ _ _ m => nomatch m)
theorem Te (hn : got.length ≤ 400000) (hb : b.length ≤ 400000) : eM (dj R M t V0 CD [.list [.aQ 10], iz b false 8, .list [.str [107], .str []]] .tAN (.aQ 9) rb (61 :: aq) false b got) (dj R M t V0 CD [.list [.aQ 10], iz b false 8, .list [.str [107], .str []]] .zG (.aQ 9) (61 :: rb) aq false b (got ++ toks (61 :: rb) [])) :=
 eh (vs := []) (os := [1, 10]) (by simp only [List.length_cons, List.length_nil]; omega) (by kernel_rfl) (fun k hk => by simp at hk; show k ≤ 1000000; omega) (fun _ _ _ m => nomatch m)
theorem Nb (hn : got.length ≤ 400000) (hb : b.length ≤ 400000) : eM (dj R M t V0 CD [.list [.aQ 10], iz b false 8, .list [.str [107], .str []]] .zG (.aQ 9) rb (49 :: aq) false b got) (dj R M t V0 CD [.list [.aQ 10], iz b false 8, .list [.str [107], .str [49]]] .zF (.aQ 9) (49 :: rb) aq false b (got ++ toks (49 :: rb) [])) :=
 eh (vs := []) (os := [10, 1, 3]) (by simp only [List.length_cons, List.length_nil]; omega) (by kernel_rfl) (fun k hk => by simp at hk; show k ≤ 1000000; omega) (fun _ _ _ m => nomatch m)
theorem Na (hn : got.length ≤ 400000) (hb : b.length ≤ 400000) : eM (dj R M t V0 CD [.list [.aQ 10], iz b false 8, .list [.str [107], .str [49]]] .zF (.aQ 9) rb (62 :: aq) false b got) (dj R M t V0 CD [.list [.aQ 10], iz (b.map fU) false 8, .list [.str [107], .str [49]]] .bl (.aQ 9) (62 :: rb) aq false b (got ++ toks (62 :: rb) [bh 7 [97, 116, 116, 114, 105, 98, 117, 116, 101, 115, 45, 105, 110, 45, 101, 110, 100, 45, 116, 97, 103], .aQ 9])) :=
 eh (vs := [bh 7 [97, 116, 116, 114, 105, 98, 117, 116, 101, 115, 45, 105, 110, 45, 101, 110, 100, 45, 116, 97, 103], .aQ 9]) (os := [10, 2, 1, 2, b.length]) (by simp only [List.length_cons, List.length_nil]; omega) (by kernel_rfl) (fun k hk => by simp at hk; show k ≤ 1000000; omega) (fun g q v m => by
  rcases List.mem_cons.mp m with rfl | m
  ·exact ⟨7, by kernel_rfl, fun h => nomatch h⟩
  ·cases List.mem_singleton.mp m
   exact ⟨4, by kernel_rfl, fun _ => ⟨false, by kernel_rfl⟩⟩)
theorem EX (hn : got.length ≤ 400000) (hb : b.length ≤ 400000) : eM (dj R M t V0 CD [.list [], iz b false 8] .zP (.aQ 9) rb (62 :: aq) false b got) (dj R M t V0 CD [.list [], iz (b.map fU) true 8] .bl (.aQ 9) (62 :: rb) aq false b (got ++ toks (62 :: rb) [bh 7 [115, 101, 108, 102, 45, 99, 108, 111, 115, 105, 110, 103, 45, 102, 108, 97, 103, 45, 111, 110, 45, 101, 110, 100, 45, 116, 97, 103], .aQ 9])) :=
 eh (vs := [bh 7 [115, 101, 108, 102, 45, 99, 108, 111, 115, 105, 110, 103, 45, 102, 108, 97, 103, 45, 111, 110, 45, 101, 110, 100, 45, 116, 97, 103], .aQ 9]) (os := [10, 2, 1, 2, b.length]) (by simp only [List.length_cons, List.length_nil]; omega) (by kernel_rfl) (fun k hk => by simp at hk; show k ≤ 1000000; omega) (fun g q v m => by
  rcases List.mem_cons.mp m with rfl | m
  ·exact ⟨7, by kernel_rfl, fun h => nomatch h⟩
  ·cases List.mem_singleton.mp m
   exact ⟨4, by kernel_rfl, fun _ => ⟨true, by kernel_rfl⟩⟩)
theorem EW (hn : got.length ≤ 400000) (hb : b.length ≤ 400000) : eM (dj R M t V0 CD [.list [], iz b false 8] .zP (.aQ 9) rb (32 :: aq) false b got) (dj R M t V0 CD [.list [], iz b false 8] .iX (.aQ 9) rb (32 :: aq) false b (got ++ toks rb [bh 7 [117, 110, 101, 120, 112, 101, 99, 116, 101, 100, 45, 99, 104, 97, 114, 97, 99, 116, 101, 114, 45, 97, 102, 116, 101, 114, 45, 115, 111, 108, 105, 100, 117, 115, 45, 105, 110, 45, 116, 97, 103]])) :=
 eh (vs := [bh 7 [117, 110, 101, 120, 112, 101, 99, 116, 101, 100, 45, 99, 104, 97, 114, 97, 99, 116, 101, 114, 45, 97, 102, 116, 101, 114, 45, 115, 111, 108, 105, 100, 117, 115, 45, 105, 110, 45, 116, 97, 103]]) (os := [10, 1, 2]) (by simp only [List.length_cons, List.length_nil]; omega) (by kernel_rfl) (fun k hk => by simp at hk; show k ≤ 1000000; omega) (fun g q v m => by
  cases List.mem_singleton.mp m
  exact ⟨7, by kernel_rfl, fun h => nomatch h⟩)
theorem AI (hn : got.length ≤ 400000) (hb : b.length ≤ 400000) (ha : aq.length ≤ 400000) : eM (dj R M t V0 CD [.list [], iz b false 8] .iX (.aQ 9) rb (32 :: 62 :: aq) false b got) (dj R M t V0 CD [.list [], iz b false 8] .iX (.aQ 9) (32 :: rb) (62 :: aq) false b (got ++ toks (32 :: rb) [])) :=
 eh (vs := []) (os := [aq.length + 1]) (by simp only [List.length_cons, List.length_nil]; omega) (by kernel_rfl) (fun k hk => by simp at hk; show k ≤ 1000000; omega) (fun _ _ _ m => nomatch m)
theorem Td (hn : got.length ≤ 400000) (hb : b.length ≤ 400000) : eM (dj R M t V0 CD K .bl ct rb [117, 32, 118] false b got) (dj R M t V0 CD K .bl ct (118 :: 32 :: 117 :: rb) [] true b (got ++ toks (118 :: 32 :: 117 :: rb) [bh 1 [117, 32, 118]])) :=
 eh (vs := [bh 1 [117, 32, 118]]) (os := [1, 2, 3, 2, 3]) (by simp only [List.length_cons, List.length_nil]; omega) (by kernel_rfl) (fun k hk => by simp at hk; show k ≤ 1000000; omega) (fun g q v m => by
  cases List.mem_singleton.mp m
  exact ⟨1, by kernel_rfl, fun h => nomatch h⟩)
theorem Tb (hn : got.length ≤ 400000) (hb : b.length ≤ 400000) : eM (dj R M t V0 CD K .bl ct rb [10, 32, 119, 62] false b got) (dj R M t V0 CD K .bl ct (32 :: 10 :: rb) [119, 62] false b (got ++ toks (32 :: 10 :: rb) [bh 2 [10, 32]])) :=
 eh (vs := [bh 2 [10, 32]]) (os := [1, 2, 2, 3]) (by simp only [List.length_cons, List.length_nil]; omega) (by kernel_rfl) (fun k hk => by simp at hk; show k ≤ 1000000; omega) (fun g q v m => by
  cases List.mem_singleton.mp m
  exact ⟨2, by kernel_rfl, fun h => nomatch h⟩)
theorem Vi (hn : got.length ≤ 400000) (hb : b.length ≤ 400000) : eM (dj R M t V0 CD K .bl ct rb [119, 62] false b got) (dj R M t V0 CD K .bl ct (62 :: 119 :: rb) [] true b (got ++ toks (62 :: 119 :: rb) [bh 1 [119, 62]])) :=
 eh (vs := [bh 1 [119, 62]]) (os := [1, 2, 2, 1, 3]) (by simp only [List.length_cons, List.length_nil]; omega) (by kernel_rfl) (fun k hk => by simp at hk; show k ≤ 1000000; omega) (fun g q v m => by
  cases List.mem_singleton.mp m
  exact ⟨1, by kernel_rfl, fun h => nomatch h⟩)
theorem Tc (hn : got.length ≤ 400000) (hb : b.length ≤ 400000) : eM (dj R M t V0 CD K .bl ct rb [32] false b got) (dj R M t V0 CD K .bl ct (32 :: rb) [] true b (got ++ toks (32 :: rb) [bh 2 [32]])) :=
 eh (vs := [bh 2 [32]]) (os := [1, 2, 1, 0]) (by simp only [List.length_cons, List.length_nil]; omega) (by kernel_rfl) (fun k hk => by simp at hk; show k ≤ 1000000; omega) (fun g q v m => by
  cases List.mem_singleton.mp m
  exact ⟨2, by kernel_rfl, fun h => nomatch h⟩)
end
noncomputable def tH (c : Nat) : Nat := if c = 201 then 233 else fU c
theorem Ce : ∀ c ∈ alpha, Unicode.lowerOf c = [tH c] ∧ (c == 0x3A3) = false := by
 unfold alpha
 repeat' first | exact List.forall_mem_nil _ | refine List.forall_mem_cons.mpr ⟨⟨by kernel_rfl, by kernel_rfl⟩, ?_⟩
theorem A1 (f : Nat → Nat) : ∀ s : List Nat, ((s.map fun c => #[f c]).toArray.flatten).toList = s.map f := fun s => by
 rw [Array.flatten_toArray]
 simp
 induction s with
 | nil => rfl
 | cons c r ih => simp [ih]
theorem rh (s : List Nat) (h : ∀ c ∈ s, c ∈ alpha) : a8 s = s.map tH := by
 have e : (s.toArray.mapIdx fun i _ => (Unicode.lowerAt s.toArray i).toArray) = (s.map fun c => #[tH c]).toArray := by
  apply Array.ext
  ·simp
  ·intro i h1 h2
   have hi : i < s.length := by simpa using h1
   obtain ⟨a, b⟩ := Ce s[i] (h _ (List.getElem_mem hi))
   have : Unicode.lowerAt s.toArray i = [tH s[i]] := by
    unfold Unicode.lowerAt
    have : s.toArray[i]? = some s[i] := by simp [hi]
    rw [this]
    simp only [b, Bool.false_and, a]
    simp
   simp [this]
 unfold a8 Txt.lower placed
 simp only []
 rw [e, A1]
noncomputable def fR : Bool → Fn | true => .jR | false => .fj
noncomputable def Ji : Bool → Fn | true => .i8 | false => .gk
noncomputable def Jh : Bool → Fn | true => .i7 | false => .gj
noncomputable def ku : Bool → Fn | true => .b8 | false => .bx
noncomputable def eG (c : Nat) : Bool := (decide (97 ≤ c) && decide (c ≤ 122)) || (decide (65 ≤ c) && decide (c ≤ 90))
noncomputable def dG (c : Nat) : Bool := c == 32 || c == 10
noncomputable def yP (c : Nat) : Bool := c == 32 || c == 10 || c == 47 || c == 62
noncomputable def Ik (o : Option (List Nat)) (b : List Nat) : Bool := match o with
 | some nm => bV (a8 nm) (a8 b)
 | none => false
noncomputable def CT (o : Option (List Nat)) (b : List Nat) : List Nat := match o with
 | some nm => [(a8 b).length, (a8 nm).length]
 | none => []
theorem zZ : ∀ c ∈ alpha, eG c = true → c ∈ [66, 69, 76, 84, 98, 101, 105, 107, 108, 116, 117, 118, 119, 120] := by decide
theorem z0 : ∀ c ∈ alpha, eG c = false → c ∈ [10, 32, 33, 34, 45, 47, 49, 60, 61, 62, 201] := by decide
theorem Mk : ∀ c ∈ alpha, eG c = false → yP c = false → c ∈ [33, 34, 45, 49, 60, 61, 201] := by decide
theorem Ml : ∀ c ∈ alpha, eG c = false → c ∈ [33, 34, 45, 49, 60, 61, 201, 32, 10, 47, 62] := by decide
theorem SU : ∀ c ∈ alpha, yP c = true → c ∈ [32, 10, 47, 62] := by decide
theorem z4 : ∀ c ∈ alpha, c ≠ 47 → c ∈ [10, 32, 33, 34, 45, 49, 60, 61, 62, 66, 69, 76, 84, 98, 101, 105, 107, 108, 116, 117, 118, 119, 120, 201] := by decide
theorem Mo : ∀ c ∈ alpha, dG c = true → c ∈ [10, 32] := by decide
theorem Mm : ∀ c ∈ alpha, dG c = false → c ≠ 60 → c ∈ [33, 34, 45, 47, 49, 61, 62, 66, 69, 76, 84, 98, 101, 105, 107, 108, 116, 117, 118, 119, 120, 201] := by decide
theorem Mn : ∀ c ∈ alpha, c ≠ 60 → c ∈ [10, 32, 33, 34, 45, 47, 49, 61, 62, 66, 69, 76, 84, 98, 101, 105, 107, 108, 116, 117, 118, 119, 120, 201] := by decide
theorem Ij : ∀ c ∈ alpha, (lD Lh c == true) = dG c := by decide
theorem Ig : ∀ c ∈ alpha, (lD KW c == false) = (c != 60) := by decide
theorem Ih : ∀ c ∈ alpha, (lD K0 c == false) = (c != 60) := by decide
theorem Ie : ∀ c ∈ alpha, (lD KH c == false) = true := by decide
section
variable (R M : AO) (o : Option (List Nat)) (t rb aq b : List Nat) (cP : Option (List Nat)) (en ap : Bool) {c : Nat}
theorem Rq : ∀ got, G7.call (fR ap) [.inst .tok 2] (hp R M o t (fR ap) rb (60 :: aq) false (fq cP) got []) = some (.bool true, hp R M o t (Ji ap) (60 :: rb) aq false (fq cP) got [], [9 + (fq cP).length]) := by
 cases ap
 ·exact vE R M o t rb aq cP
 ·exact zA R M o t rb aq cP
theorem xA : ∀ got, G7.call (Ji ap) [.inst .tok 2] (hp R M o t (Ji ap) rb (47 :: aq) false (fq cP) got []) = some (.bool true, hp R M o t (Jh ap) (47 :: rb) aq false (cz []) got [], [10, 9 + (fq cP).length]) := by
 cases ap
 ·exact rN R M o t rb aq cP
 ·exact t7 R M o t rb aq cP
theorem GC (h : c ∈ alpha) (h' : c ≠ 47) : ∀ got, G7.call (Ji ap) [.inst .tok 2] (hp R M o t (Ji ap) rb (c :: aq) false (fq cP) got []) = some (.bool true, hp R M o t (fR ap) rb (c :: aq) false (fq cP) got [bh 1 [60]], [9 + (fq cP).length, 1, 2]) := by
 cases ap
 ·exact rM R M o t rb aq cP c (z4 c h h')
 ·exact t6 R M o t rb aq cP c (z4 c h h')
theorem Dy : ∀ got, G7.call (Ji ap) [.inst .tok 2] (hp R M o t (Ji ap) rb [] en (fq cP) got []) = some (.bool true, hp R M o t (fR ap) rb [] true (fq cP) got [bh 1 [60]], [9 + (fq cP).length, 1, 2]) := by
 cases ap
 ·exact pG R M o t rb cP en
 ·exact rP R M o t rb cP en
theorem xy (h : c ∈ alpha) (h' : eG c = true) : ∀ got, G7.call (Jh ap) [.inst .tok 2] (hp R M o t (Jh ap) rb (c :: aq) false (cz []) got []) = some (.bool true, hp R M o t (ku ap) (c :: rb) aq false (cz [c]) got [], [10, 10, 1]) := by
 cases ap
 ·exact rK R M o t rb aq c (zZ c h h')
 ·exact tZ R M o t rb aq c (zZ c h h')
theorem GA (h : c ∈ alpha) (h' : eG c = false) : ∀ got, G7.call (Jh ap) [.inst .tok 2] (hp R M o t (Jh ap) rb (c :: aq) false (cz b) got []) = some (.bool true, hp R M o t (fR ap) rb (c :: aq) false (cz b) got [bh 1 [60, 47]], [10, 1, 2]) := by
 cases ap
 ·exact rL R M o t rb aq b c (z0 c h h')
 ·exact t4 R M o t rb aq b c (z0 c h h')
theorem Dx : ∀ got, G7.call (Jh ap) [.inst .tok 2] (hp R M o t (Jh ap) rb [] en (cz b) got []) = some (.bool true, hp R M o t (fR ap) rb [] true (cz b) got [bh 1 [60, 47]], [10, 1, 2]) := by
 cases ap
 ·exact pF R M o t rb b en
 ·exact rO R M o t rb b en
theorem xx (h : c ∈ alpha) (h' : eG c = true) : ∀ got, G7.call (ku ap) [.inst .tok 2] (hp R M o t (ku ap) rb (c :: aq) false (cz b) got []) = some (.bool true, hp R M o t (ku ap) (c :: rb) aq false (cz (b ++ [c])) got [], 10 :: (b.length + 1) :: CT o b) := fun got => by
 have hc := zZ c h h'
 cases o with
 | none =>
  cases ap
  ·exact (jm R M t rb (c :: aq) b got false).trans (nE R M t rb aq b [] got c hc)
  ·exact (jU R M t rb (c :: aq) b got false).trans (pk R M t rb aq b [] got c hc)
 | some nm =>
  cases ap
  ·exact (dk R M nm t rb (c :: aq) b got false).trans (nA R M nm t rb aq b _ _ got c hc)
  ·exact (dH R M nm t rb (c :: aq) b got false).trans (o9 R M nm t rb aq b _ _ got c hc)
theorem Gz (h : c ∈ alpha) (h' : eG c = false) (h2 : yP c = false ∨ Ik o b = false) : ∀ got, G7.call (ku ap) [.inst .tok 2] (hp R M o t (ku ap) rb (c :: aq) false (cz b) got []) = some (.bool true, hp R M o t (fR ap) rb (c :: aq) false (cz b) got [bh 1 (60 :: 47 :: b)], 10 :: 1 :: 2 :: (2 + b.length) :: CT o b) := fun got => by
 cases o with
 | none =>
  have hc := Ml c h h'
  cases ap
  ·exact (jm R M t rb (c :: aq) b got false).trans (nF R M t rb aq b [] got c hc)
  ·exact (jU R M t rb (c :: aq) b got false).trans (pn R M t rb aq b [] got c hc)
 | some nm =>
  cases hF : yP c with
  | false =>
   have hc := Mk c h h' hF
   cases ap
   ·exact (dk R M nm t rb (c :: aq) b got false).trans (nC R M nm t rb aq b _ _ got c hc)
   ·exact (dH R M nm t rb (c :: aq) b got false).trans (pg R M nm t rb aq b _ _ got c hc)
  | true =>
   have hc := SU c h hF
   have ha : bV (a8 nm) (a8 b) = false := by
    rcases h2 with h2 | h2
    ·rw [hF] at h2; cases h2
    ·exact h2
   cases ap
   ·exact (dk R M nm t rb (c :: aq) b got false).trans (by rw [ha]; exact nB R M nm t rb aq b _ got c hc)
   ·exact (dH R M nm t rb (c :: aq) b got false).trans (by rw [ha]; exact pd R M nm t rb aq b _ got c hc)
theorem Dw : ∀ got, G7.call (ku ap) [.inst .tok 2] (hp R M o t (ku ap) rb [] en (cz b) got []) = some (.bool true, hp R M o t (fR ap) rb [] true (cz b) got [bh 1 (60 :: 47 :: b)], 10 :: 1 :: 2 :: (2 + b.length) :: CT o b) := fun got => by
 cases o with
 | none =>
  cases ap
  ·exact (jm R M t rb [] b got en).trans (mq R M t rb b [] en got)
  ·exact (jU R M t rb [] b got en).trans (nH R M t rb b [] en got)
 | some nm =>
  cases ap
  ·exact (dk R M nm t rb [] b got en).trans (mn R M nm t rb b _ _ en got)
  ·exact (dH R M nm t rb [] b got en).trans (nG R M nm t rb b _ _ en got)
end
noncomputable def Al (l : List Nat) : Prop := ∀ c ∈ l, c ∈ alpha
theorem Al.hd {c : Nat} {l : List Nat} (h : Al (c :: l)) : c ∈ alpha := h _ (.head _)
theorem Al.tl {c : Nat} {l : List Nat} (h : Al (c :: l)) : Al l := fun x m => h _ (.tail _ m)
theorem Al.app {a b : List Nat} (h : Al (a ++ b)) : Al a ∧ Al b := ⟨fun x m => h _ (List.mem_append_left _ m), fun x m => h _ (List.mem_append_right _ m)⟩
structure qw (o : Option (List Nat)) : Prop where
 lo : ∀ nm, o = some nm → a8 nm = nm
 le : ∀ nm, o = some nm → nm.length ≤ 10
theorem Cc {o : Option (List Nat)} {b : List Nat} (hn : qw o) (hb : Al b) (hl : b.length ≤ 400000) : Lm (CT o b) := by
 cases o with
 | none => exact .nil
 | some nm =>
  refine .cons ?_ (.cons ?_ .nil)
  ·rw [rh b hb, List.length_map]; show _ ≤ 1000000; omega
  ·rw [hn.lo nm rfl]; have := hn.le nm rfl; show _ ≤ 1000000; omega
theorem k7 {p q : Nat → Bool} : ∀ {l : List Nat}, (∀ c ∈ l, p c = q c) → l.takeWhile p = l.takeWhile q ∧ l.dropWhile p = l.dropWhile q
 | [], _ => ⟨rfl, rfl⟩
 | c :: r, h => by
  have hc := h c (.head _)
  obtain ⟨a, b⟩ := k7 (l := r) fun x m => h x (.tail _ m)
  simp only [List.takeWhile_cons, List.dropWhile_cons, hc, a, b]
  exact ⟨trivial, trivial⟩
theorem vM {p : Nat → Bool} : ∀ {l : List Nat}, (∀ c ∈ l, p c = true) → l.takeWhile p = l ∧ l.dropWhile p = []
 | [], _ => ⟨rfl, rfl⟩
 | c :: r, h => by
  have hc := h c (.head _)
  obtain ⟨a, b⟩ := vM (l := r) fun x m => h x (.tail _ m)
  simp only [List.takeWhile_cons, List.dropWhile_cons, hc, a, b]
  exact ⟨rfl, rfl⟩
theorem j8 (p : Nat → Bool) (l : List Nat) : (l.takeWhile p).length ≤ l.length := by
 have := congrArg List.length (List.takeWhile_append_dropWhile (p := p) (l := l))
 rw [List.length_append] at this; omega
section
variable {R M : AO} {o : Option (List Nat)} {t : List Nat} {V0 : List (Nm × AV)} {rb : List Nat} {got : List AV} {cP : Option (List Nat)} {ap : Bool}
theorem Gl {c : Nat} {r : List Nat} (h : Al (c :: r)) (h1 : c ≠ 60) (h2 : (ap && dG c) = false) (hg : got.length ≤ 400000) (hl : r.length ≤ 400000) :
  eM (jd R M o t V0 (fR ap) rb (c :: r) false (fq cP) got) (jd R M o t V0 (fR ap) ((r.takeWhile (· != 60)).reverse ++ c :: rb) (r.dropWhile (· != 60)) (r.dropWhile (· != 60)).isEmpty (fq cP) (got ++ [.tup [bG ((r.takeWhile (· != 60)).reverse ++ c :: rb), bh 1 (c :: r.takeWhile (· != 60))]])) := by
 have ht := j8 (· != 60) r
 cases ap with
 | true =>
  obtain ⟨a, b⟩ := k7 (p := fun c => lD KW c == false) (q := (· != 60)) (l := r) fun x m => Ig x (h.tl x m)
  have e := zB R M o t rb r (fq cP) c (Mm c h.hd (by simpa using h2) h1)
  unfold fJ ko at e
  rw [a, b] at e
  refine jS rfl (by omega) e fun k hk => ?_
  simp at hk
  show k ≤ 1000000
  omega
 | false =>
  obtain ⟨a, b⟩ := k7 (p := fun c => lD K0 c == false) (q := (· != 60)) (l := r) fun x m => Ih x (h.tl x m)
  have e := vF R M o t rb r (fq cP) c (Mn c h.hd h1)
  unfold fJ ko at e
  rw [a, b] at e
  refine jS rfl (by omega) e fun k hk => ?_
  simp at hk
  show k ≤ 1000000
  omega
theorem Gk {c : Nat} {r : List Nat} (h : Al (c :: r)) (h2 : dG c = true) (hg : got.length ≤ 400000) (hl : r.length ≤ 400000) :
  eM (jd R M o t V0 (fR true) rb (c :: r) false (fq cP) got) (jd R M o t V0 (fR true) ((r.takeWhile dG).reverse ++ c :: rb) (r.dropWhile dG) (r.dropWhile dG).isEmpty (fq cP) (got ++ [.tup [bG ((r.takeWhile dG).reverse ++ c :: rb), bh 2 (c :: r.takeWhile dG)]])) := by
 have ht := j8 dG r
 obtain ⟨a, b⟩ := k7 (p := fun c => lD Lh c == true) (q := dG) (l := r) fun x m => Ij x (h.tl x m)
 have e := zC R M o t rb r (fq cP) c (Mo c h.hd h2)
 unfold fJ ko at e
 rw [a, b] at e
 refine jS rfl (by omega) e fun k hk => ?_
 simp at hk
 show k ≤ 1000000
 omega
theorem Gm {c : Nat} {r : List Nat} (h : Al (c :: r)) (hg : got.length ≤ 400000) (hl : r.length ≤ 400000) :
  eM (jd R M o t V0 .cu rb (c :: r) false (fq cP) got) (jd R M o t V0 .cu (r.reverse ++ c :: rb) [] true (fq cP) (got ++ [.tup [bG (r.reverse ++ c :: rb), bh 1 (c :: r)]])) := by
 obtain ⟨a, b⟩ := vM (p := fun c => lD KH c == false) (l := r) fun x m => Ie x (h.tl x m)
 have e := rJ R M o t rb r (fq cP) c (by have := h.hd; exact this)
 unfold fJ ko at e
 rw [a, b] at e
 refine jS rfl (by omega) e fun k hk => ?_
 simp at hk
 show k ≤ 1000000
 omega
theorem CW (hn : qw o) : ∀ (s b rb : List Nat), Al s → Al b → s.length + b.length ≤ 400000 →
  eM (jd R M o t V0 (ku ap) rb s false (cz b) got) (jd R M o t V0 (ku ap) ((s.takeWhile eG).reverse ++ rb) (s.dropWhile eG) false (cz (b ++ s.takeWhile eG)) got)
 | [], b, rb, _, _, _ => by simpa using eM.refl _
 | c :: s, b, rb, hs, hb, hl => by
  cases hc : eG c with
  | false => simpa [List.takeWhile_cons, List.dropWhile_cons, hc] using eM.refl _
  | true =>
   simp only [List.length_cons] at hl
   have ih := CW hn s (b ++ [c]) (c :: rb) hs.tl (fun x m => (List.mem_append.mp m).elim (hb x) fun m => by cases List.mem_singleton.mp m; exact hs.hd) (by simp; omega)
   have e := xx R M o t rb s b ap hs.hd hc
   have := (mh (V0 := V0) (got := got) e (.cons (by decide) (.cons (by show _ ≤ 1000000; omega) (Cc hn hb (by omega))))).trans ih
   simpa [List.takeWhile_cons, List.dropWhile_cons, hc, List.append_assoc] using this
end
noncomputable def bc (ap : Bool) (c : Nat) (r : List Nat) : Int × List Nat × List Nat :=
 if c = 60 then match r with
  | 47 :: s => (1, 47 :: s.takeWhile eG, s.dropWhile eG)
  | r => (1, [], r)
 else if (ap && dG c) = true then (2, r.takeWhile dG, r.dropWhile dG)
 else (1, r.takeWhile (· != 60), r.dropWhile (· != 60))
theorem kl (ap : Bool) (c : Nat) (r : List Nat) : (bc ap c r).2.1 ++ (bc ap c r).2.2 = r := by
 unfold bc
 split
 ·split
  ·simp
  ·simp
 ·split <;> simp
noncomputable def fL (o : Option (List Nat)) (l : List Nat) : Bool := match o with
 | some nm => bV (l.take 2) [60, 47] && bV (a8 ((l.drop 2).take nm.length)) nm && (match l.drop (2 + nm.length) with | e :: _ => yP e | [] => false)
 | none => false
theorem oh {b : List Nat} (h : Al b) : (a8 b).length = b.length := by rw [rh b h, List.length_map]
section
variable {R M : AO} {o : Option (List Nat)} {t : List Nat} {V0 : List (Nm × AV)} {rb : List Nat} {got : List AV} {cP : Option (List Nat)} {ap : Bool}
theorem HR {p : Nat → Bool} {l : List Nat} (h : Al l) : Al (l.takeWhile p) ∧ Al (l.dropWhile p) :=
 Al.app (by rw [List.takeWhile_append_dropWhile]; exact h)
theorem wG {p : Nat → Bool} : ∀ {l r : List Nat} {e : Nat}, l.dropWhile p = e :: r → p e = false
 | [], r, e, h => by cases h
 | c :: l, r, e, h => by
  rw [List.dropWhile_cons] at h
  split at h
  ·exact wG h
  ·rename_i hc; cases h; simpa using hc
theorem Gh {s : List Nat} {e : Nat} {q : List Nat} (hn : qw o) (ha : Al s) (hs : s.dropWhile eG = e :: q) (hf : fL o (60 :: 47 :: s) = false) : yP e = false ∨ Ik o (s.takeWhile eG) = false := by
 cases o with
 | none => exact .inr rfl
 | some nm =>
  cases hF : yP e with
  | false => exact .inl rfl
  | true =>
   refine .inr ?_
   cases hb : Ik (some nm) (s.takeWhile eG) with
   | false => rfl
   | true =>
    have hb : bV (a8 nm) (a8 (s.takeWhile eG)) = true := hb
    rw [gy, hn.lo nm rfl] at hb
    have hb := eq_of_beq hb
    have hlen : nm.length = (s.takeWhile eG).length := by rw [← oh (HR (p := eG) ha).1, ← hb]
    have hst : s.takeWhile eG ++ e :: q = s := by rw [← hs]; exact List.takeWhile_append_dropWhile
    have h1 : s.take nm.length = s.takeWhile eG := by
     rw [hlen]; exact (congrArg (List.take _) hst.symm).trans List.take_left
    have h2 : s.drop nm.length = e :: q := by
     rw [hlen]; exact (congrArg (List.drop _) hst.symm).trans List.drop_left
    have h3 : (60 :: 47 :: s).drop (2 + nm.length) = e :: q := by
     rw [Nat.add_comm]; exact h2
    exfalso
    have : fL (some nm) (60 :: 47 :: s) = true := by
     show (bV [60, 47] [60, 47] && bV (a8 (s.take nm.length)) nm && _) = true
     rw [h1, h3]
     have e1 : bV (a8 (s.takeWhile eG)) nm = true := by rw [gy, ← hb]; exact beq_self_eq_true _
     rw [e1]
     exact hF
    rw [this] at hf; cases hf
theorem Rd {c : Nat} {r : List Nat} (hn : qw o) (h : Al (c :: r)) (hf : fL o (c :: r) = false) (hg : got.length ≤ 400000) (hl : r.length ≤ 300000) :
  ∃ tbo', eM (jd R M o t V0 (fR ap) rb (c :: r) false (fq cP) got)
   (jd R M o t V0 (fR ap) ((c :: (bc ap c r).2.1).reverse ++ rb) (bc ap c r).2.2 (bc ap c r).2.2.isEmpty (fq tbo') (got ++ [.tup [bG ((c :: (bc ap c r).2.1).reverse ++ rb), bh (bc ap c r).1 (c :: (bc ap c r).2.1)]])) := by
 have htb : ∀ k ∈ [9 + (fq cP).length], k ≤ dD := by
  intro k hk
  simp at hk; subst hk
  show _ ≤ 1000000
  cases cP <;> simp [fq, cz]
 have yH : 9 + (fq cP).length ≤ dD := htb _ (.head _)
 by_cases h1 : c = 60
 ·subst h1
  have go1 := mh (V0 := V0) (got := got) (Rq R M o t rb r cP ap) (fun k hk => htb k hk)
  match r, h, hf, hl, go1 with
  | [], h, hf, hl, go1 =>
   refine ⟨cP, go1.trans ?_⟩
   have := jS (V0 := V0) (got := got) (kd := 1) rfl (by omega) (Dy R M o t (60 :: rb) cP false ap) (.cons yH (.cons (by decide) (.cons (by decide) .nil)))
   simpa [bc] using this
  | d :: s, h, hf, hl, go1 =>
   by_cases h47 : d = 47
   ·subst h47
    have go2 := go1.trans (mh (V0 := V0) (got := got) (xA R M o t (60 :: rb) s cP ap) (.cons (by decide) (.cons yH .nil)))
    match s, h, hf, hl, go2 with
    | [], h, hf, hl, go2 =>
     refine ⟨some [], go2.trans ?_⟩
     have := jS (V0 := V0) (got := got) (kd := 1) rfl (by omega) (Dx R M o t (47 :: 60 :: rb) [] false ap) (.cons (by decide) (.cons (by decide) (.cons (by decide) .nil)))
     simpa [bc, fq] using this
    | d :: s, h, hf, hl, go2 =>
     cases hd : eG d with
     | false =>
      refine ⟨some [], go2.trans ?_⟩
      have := jS (V0 := V0) (got := got) (kd := 1) rfl (by omega) (GA R M o t (47 :: 60 :: rb) s [] ap h.tl.tl.hd hd) (.cons (by decide) (.cons (by decide) (.cons (by decide) .nil)))
      simpa [bc, fq, List.takeWhile_cons, List.dropWhile_cons, hd] using this
     | true =>
      have hA : Al [d] := fun x m => by cases List.mem_singleton.mp m; exact h.tl.tl.hd
      simp only [List.length_cons] at hl
      have go3 := (go2.trans (mh (V0 := V0) (got := got) (xy R M o t (47 :: 60 :: rb) s ap h.tl.tl.hd hd) (.cons (by decide) (.cons (by decide) (.cons (by decide) .nil))))).trans (CW hn s [d] (d :: 47 :: 60 :: rb) h.tl.tl.tl hA (by simp; omega))
      have hAl := HR (p := eG) h.tl.tl
      have hle := j8 eG s
      have e1 : [d] ++ s.takeWhile eG = (d :: s).takeWhile eG := by simp [List.takeWhile_cons, hd]
      have e2 : s.dropWhile eG = (d :: s).dropWhile eG := by simp [List.dropWhile_cons, hd]
      have hle2 := j8 eG (d :: s)
      simp only [List.length_cons] at hle2
      have hlm : Lm (10 :: 1 :: 2 :: (2 + ((d :: s).takeWhile eG).length) :: CT o ((d :: s).takeWhile eG)) := .cons (by decide) (.cons (by decide) (.cons (by decide) (.cons (by show _ ≤ 1000000; omega) (Cc hn hAl.1 (by omega)))))
      refine ⟨some ((d :: s).takeWhile eG), go3.trans ?_⟩
      rw [e1, e2]
      have e3 : (s.takeWhile eG).reverse ++ d :: 47 :: 60 :: rb = ((d :: s).takeWhile eG).reverse ++ 47 :: 60 :: rb := by simp [List.takeWhile_cons, hd]
      rw [e3]
      have e4 : (60 :: (bc ap 60 (47 :: d :: s)).2.1).reverse ++ rb = ((d :: s).takeWhile eG).reverse ++ 47 :: 60 :: rb := by simp [bc]
      have e5 : (bc ap 60 (47 :: d :: s)).2.2 = (d :: s).dropWhile eG := by simp [bc]
      have e6 : bh (bc ap 60 (47 :: d :: s)).1 (60 :: (bc ap 60 (47 :: d :: s)).2.1) = bh 1 (60 :: 47 :: (d :: s).takeWhile eG) := by simp [bc]
      rw [e4, e5, e6]
      cases hq : (d :: s).dropWhile eG with
      | nil => exact jS (V0 := V0) (got := got) (kd := 1) rfl (by omega) (Dw R M o t _ _ false ap) hlm
      | cons e q =>
       have hA2 := hAl.2
       rw [hq] at hA2
       exact jS (V0 := V0) (got := got) (kd := 1) rfl (by omega) (Gz R M o t _ q _ ap hA2.hd (wG hq) (Gh hn h.tl.tl hq hf)) hlm
   ·refine ⟨cP, go1.trans ?_⟩
    have := jS (V0 := V0) (got := got) (kd := 1) rfl (by omega) (GC R M o t (60 :: rb) s cP ap h.tl.hd h47) (.cons yH (.cons (by decide) (.cons (by decide) .nil)))
    have e : bc ap 60 (d :: s) = (1, [], d :: s) := by
     unfold bc
     rw [if_pos rfl]
     split
     ·rename_i z; cases z; exact absurd rfl h47
     ·rfl
    rw [e]
    simpa using this
 ·refine ⟨cP, ?_⟩
  by_cases h2 : (ap && dG c) = true
  ·have ha : ap = true := by cases ap <;> simp_all
   subst ha
   have hb : dG c = true := by simpa using h2
   have := Gk (R := R) (M := M) (o := o) (t := t) (V0 := V0) (rb := rb) (cP := cP) h hb hg (by omega)
   have e : bc true c r = (2, r.takeWhile dG, r.dropWhile dG) := by unfold bc; rw [if_neg h1, if_pos h2]
   rw [e]
   simpa using this
  ·have := Gl (R := R) (M := M) (o := o) (t := t) (V0 := V0) (rb := rb) (cP := cP) (ap := ap) h h1 (by simpa using h2) hg (by omega)
   have e : bc ap c r = (1, r.takeWhile (· != 60), r.dropWhile (· != 60)) := by unfold bc; rw [if_neg h1, if_neg h2]
   rw [e]
   simpa using this
end
noncomputable def jB (ap : Bool) : Nat → List Nat → List (Int × List Nat)
 | 0, _ => []
 | _ + 1, [] => []
 | n + 1, c :: r => ((bc ap c r).1, c :: (bc ap c r).2.1) :: jB ap n (bc ap c r).2.2
noncomputable def cN : List Nat → List (Int × List Nat) → List AV
 | _, [] => []
 | rb, (k, p) :: r => .tup [bG (p.reverse ++ rb), bh k p] :: cN (p.reverse ++ rb) r
theorem jI {p : Nat → Bool} {x : Nat} {w : List Nat} (h : p x = false) : ∀ l : List Nat, (l ++ x :: w).takeWhile p = l.takeWhile p ∧ (l ++ x :: w).dropWhile p = l.dropWhile p ++ x :: w
 | [] => by simp [List.takeWhile_cons, List.dropWhile_cons, h]
 | c :: l => by
  obtain ⟨a, b⟩ := jI (w := w) h l
  cases hc : p c <;> simp [List.takeWhile_cons, List.dropWhile_cons, hc, a, b]
theorem qE {ap : Bool} {d : Nat} (h : d ≠ 47) {s : List Nat} : bc ap 60 (d :: s) = (1, [], d :: s) := by
 unfold bc
 rw [if_pos rfl]
 split
 ·rename_i z; cases z; exact absurd rfl h
 ·rfl
theorem I6 {ap : Bool} {c : Nat} {w : List Nat} (hw : w = [] ∨ ∃ w', w = 60 :: w') (r : List Nat) : bc ap c (r ++ w) = ((bc ap c r).1, (bc ap c r).2.1, (bc ap c r).2.2 ++ w) := by
 rcases hw with rfl | ⟨w', rfl⟩
 ·simp
 ·have hb := jI (p := dG) (x := 60) (w := w') rfl r
  have ho := jI (p := (· != 60)) (x := 60) (w := w') rfl r
  by_cases h1 : c = 60
  ·subst h1
   cases r with
   | nil => rfl
   | cons d s =>
    by_cases h47 : d = 47
    ·subst h47
     have hl := jI (p := eG) (x := 60) (w := w') rfl s
     show (1, 47 :: (s ++ 60 :: w').takeWhile eG, (s ++ 60 :: w').dropWhile eG) = (1, 47 :: s.takeWhile eG, s.dropWhile eG ++ 60 :: w')
     rw [hl.1, hl.2]
    ·rw [List.cons_append, qE h47, qE h47]; rfl
  ·unfold bc
   rw [if_neg h1, if_neg h1]
   split
   ·rw [hb.1, hb.2]
   ·rw [ho.1, ho.2]
section
variable {R M : AO} {o : Option (List Nat)} {t : List Nat} {V0 : List (Nm × AV)} {ap : Bool}
theorem run (hn : qw o) {w : List Nat} (hw : w = [] ∨ ∃ w', w = 60 :: w') : ∀ (n : Nat) (l rb : List Nat) (cP : Option (List Nat)) (got : List AV), l.length ≤ n → Al (l ++ w) → (∀ i, i < l.length → fL o ((l ++ w).drop i) = false) → got.length + l.length ≤ 400000 → l.length + w.length ≤ 300000 →
  ∃ tbo', eM (jd R M o t V0 (fR ap) rb (l ++ w) (l ++ w).isEmpty (fq cP) got) (jd R M o t V0 (fR ap) (l.reverse ++ rb) w w.isEmpty (fq tbo') (got ++ cN rb (jB ap n l)))
 | n, [], rb, cP, got, _, _, _, _, _ => ⟨cP, by
   have : jB ap n [] = [] := by cases n <;> rfl
   rw [this]
   simpa [cN] using eM.refl _⟩
 | 0, c :: r, _, _, _, h, _, _, _, _ => absurd h (by simp)
 | n + 1, c :: r, rb, cP, got, hln, hA, hf, hg, hl => by
  simp only [List.length_cons] at hln hg hl
  have hf0 := hf 0 (by simp)
  obtain ⟨tb1, go1⟩ := Rd (R := R) (M := M) (t := t) (V0 := V0) (rb := rb) (got := got) (cP := cP) (ap := ap) (r := r ++ w) hn hA hf0 (by omega) (by simp; omega)
  rw [I6 hw r] at go1
  simp only [] at go1
  have hsum := kl ap c r
  have hlen := congrArg List.length hsum
  rw [List.length_append] at hlen
  obtain ⟨tb2, go2⟩ := run hn hw n (bc ap c r).2.2 ((c :: (bc ap c r).2.1).reverse ++ rb) tb1 (got ++ [.tup [bG ((c :: (bc ap c r).2.1).reverse ++ rb), bh (bc ap c r).1 (c :: (bc ap c r).2.1)]])
   (by omega) (fun x m => hA x (by
    rcases List.mem_append.mp m with m | m
    ·exact List.mem_append_left _ (.tail _ (hsum ▸ List.mem_append_right _ m))
    ·exact List.mem_append_right _ m)) (fun i hi => by
    have := hf (1 + (bc ap c r).2.1.length + i) (by simp only [List.length_cons]; omega)
    have e : (c :: r ++ w).drop (1 + (bc ap c r).2.1.length + i) = ((bc ap c r).2.2 ++ w).drop i := by
     have e1 : c :: r ++ w = (c :: (bc ap c r).2.1) ++ ((bc ap c r).2.2 ++ w) := by
      conv => lhs; rw [← hsum]
      simp
     rw [e1, ← List.drop_drop]
     congr 1
     have : 1 + (bc ap c r).2.1.length = (c :: (bc ap c r).2.1).length := by simp; omega
     rw [this, List.drop_left]
    rw [e] at this; exact this) (by simp; omega) (by omega)
  refine ⟨tb2, ?_⟩
  have := go1.trans go2
  have e2 : (bc ap c r).2.2.reverse ++ ((c :: (bc ap c r).2.1).reverse ++ rb) = (c :: r).reverse ++ rb := by
   conv => rhs; rw [← hsum]
   simp
  rw [e2, List.append_assoc] at this
  exact this
theorem fin {f : Fn} {rb : List Nat} {en : Bool} {tb : List (Nm × AV)} {got : List AV} (e : ∀ got, G7.call f [.inst .tok 2] (hp R M o t f rb [] en tb got []) = some (.bool false, hp R M o t f rb [] true tb got [], []))
  {σ : St} (p : jd R M o t V0 f rb [] en tb got σ) : ∃ σ', sV 1 true σ = some σ' ∧ jd R M o t V0 f rb [] true tb got σ' := by
 obtain ⟨H, V, O⟩ := σ
 obtain ⟨rfl, hv, hl⟩ := p
 refine ⟨⟨hp R M o t f rb [] true tb got [], V, [] ++ O⟩, ?_, ⟨rfl, hv, Lm.nil.app hl⟩⟩
 show dx G7 2 .aM o7 (0 + 1) true _ = _
 exact Nq (uP (e got))
theorem Nf {CD : AO} {K : List AO} {ct : AV} {rb b : List Nat} {en : Bool} {got : List AV} {σ : St} (p : dj R M t V0 CD K .bl ct rb [] en b got σ) : ∃ σ', sV 1 true σ = some σ' ∧ dj R M t V0 CD K .bl ct rb [] true b got σ' := by
 obtain ⟨H, V, O⟩ := σ
 obtain ⟨rfl, hv, hl⟩ := p
 refine ⟨⟨hX R M t CD K .bl ct rb [] true b got [], V, [] ++ O⟩, ?_, ⟨rfl, hv, Lm.nil.app hl⟩⟩
 show dx G7 2 .aM o7 (0 + 1) true _ = _
 have e : G7.call .bl [.inst .tok 2] (hX R M t CD K .bl ct rb [] en b got []) = some (.bool false, hX R M t CD K .bl ct rb [] true b got [], []) := by cases en <;> kernel_rfl
 exact Nq (Vh e)
theorem eM.end {P Q : St → Prop} (h : eM P Q) {Z : St → Prop} (hq : ∀ σ, Q σ → ∃ σ', sV 1 true σ = some σ' ∧ Z σ') {σ : St} (p : P σ) : ∃ fu σ', sV fu true σ = some σ' ∧ Z σ' := by
 obtain ⟨c, σ1, q, e⟩ := h σ p
 obtain ⟨σ', e', z⟩ := hq σ1 q
 exact ⟨1 + c, σ', by rw [e 1, e'], z⟩
theorem s_end (rb : List Nat) (tb : List (Nm × AV)) (en : Bool) : ∀ got, G7.call (fR ap) [.inst .tok 2] (hp R M o t (fR ap) rb [] en tb got []) = some (.bool false, hp R M o t (fR ap) rb [] true tb got [], []) := by
 cases ap
 ·exact tY R M o t rb tb en
 ·exact vG R M o t rb tb en
theorem yo (hn : qw o) {l : List Nat} (hA : Al l) (hf : ∀ i, i < l.length → fL o (l.drop i) = false) (hl : l.length ≤ 300000) {σ : St} (p : jd R M o t V0 (fR ap) [] l l.isEmpty [] [] σ) :
  ∃ fu σ' tb, sV fu true σ = some σ' ∧ jd R M o t V0 (fR ap) l.reverse [] true tb (cN [] (jB ap l.length l)) σ' := by
 obtain ⟨cP, go⟩ := run (R := R) (M := M) (t := t) (V0 := V0) (ap := ap) hn (w := []) (.inl rfl) l.length l [] none [] (Nat.le_refl _) (by simpa using hA) (by simpa using hf) (by simp; omega) (by simp; omega)
 have := go.end (Z := jd R M o t V0 (fR ap) l.reverse [] true (fq cP) (cN [] (jB ap l.length l))) (σ := σ) (fun σ q => fin (s_end _ _ _) (by simpa using q)) (by simpa [fq] using p)
 obtain ⟨fu, σ', e, z⟩ := this
 exact ⟨fu, σ', _, e, z⟩
noncomputable def tQ (l : List Nat) : List (Int × List Nat) := match l with
 | [] => []
 | l => [(1, l)]
theorem yq {l : List Nat} (hA : Al l) (hl : l.length ≤ 300000) {σ : St} (p : jd R M o t V0 .cu [] l l.isEmpty [] [] σ) :
  ∃ fu σ', sV fu true σ = some σ' ∧ jd R M o t V0 .cu l.reverse [] true [] (cN [] (tQ l)) σ' := by
 have z : ∀ rb en got σ, jd R M o t V0 .cu rb [] en [] got σ → ∃ σ', sV 1 true σ = some σ' ∧ jd R M o t V0 .cu rb [] true [] got σ' := fun rb en got σ q => fin (pE R M o t rb [] en) q
 cases l with
 | nil => exact (eM.refl _).end (fun σ q => z _ _ _ σ q) p
 | cons c r =>
  have go := Gm (R := R) (M := M) (o := o) (t := t) (V0 := V0) (rb := []) (got := []) (cP := none) hA (by simp) (by simp at hl; omega)
  refine go.end (fun σ q => ?_) p
  have := z _ _ _ σ q
  simpa [cN, tQ] using this
end
section
variable {R M : AO} {nm : List Nat} {t : List Nat} {V0 : List (Nm × AV)} {ap : Bool} {rb aq b : List Nat} {got : List AV} {cP : Option (List Nat)}
theorem Fe (hn : qw (some nm)) {d : Nat} {x : Nat} {w : List Nat} (hA : Al (60 :: 47 :: ((d :: b) ++ x :: w))) (hL : ∀ c ∈ d :: b, eG c = true) (hx : eG x = false) (hg : got.length ≤ 300000) (hl : b.length ≤ 300000) :
  eM (jd R M (some nm) t V0 (fR ap) rb (60 :: 47 :: ((d :: b) ++ x :: w)) false (fq cP) got) (jd R M (some nm) t V0 (ku ap) ((d :: b).reverse ++ 47 :: 60 :: rb) (x :: w) false (cz (d :: b)) got) := by
 have yH : 9 + (fq cP).length ≤ dD := by
  show _ ≤ 1000000
  cases cP <;> simp [fq, cz]
 have hd := hL d (.head _)
 have hA2 : Al (b ++ x :: w) := hA.tl.tl.tl
 have e1 : (b ++ x :: w).takeWhile eG = b ∧ (b ++ x :: w).dropWhile eG = x :: w := by
  obtain ⟨a, c⟩ := jI (w := w) hx b
  obtain ⟨a', c'⟩ := vM (p := eG) (l := b) fun y m => hL y (.tail _ m)
  rw [a, c, a', c']; exact ⟨rfl, rfl⟩
 have hA1 : Al b := fun y m => hA2 y (List.mem_append_left _ m)
 have go4 : eM (jd R M (some nm) t V0 (ku ap) (d :: 47 :: 60 :: rb) (b ++ x :: w) false (cz [d]) got) (jd R M (some nm) t V0 (ku ap) ((d :: b).reverse ++ 47 :: 60 :: rb) (x :: w) false (cz (d :: b)) got) := by
  have key : ∀ (s c rb : List Nat), Al s → Al c → (∀ y ∈ s, eG y = true) → s.length + c.length ≤ 400000 → eM (jd R M (some nm) t V0 (ku ap) rb (s ++ x :: w) false (cz c) got) (jd R M (some nm) t V0 (ku ap) (s.reverse ++ rb) (x :: w) false (cz (c ++ s)) got) := by
   intro s
   induction s with
   | nil => intro c rb _ _ _ _; simpa using eM.refl _
   | cons y s ih =>
    intro c rb hs hc hls hl
    simp only [List.length_cons] at hl
    have ih := ih (c ++ [y]) (y :: rb) hs.tl (fun z m => (List.mem_append.mp m).elim (hc z) fun m => by cases List.mem_singleton.mp m; exact hs.hd) (fun z m => hls z (.tail _ m)) (by simp; omega)
    have e := xx R M (some nm) t rb (s ++ x :: w) c ap hs.hd (hls y (.head _))
    have := (mh (V0 := V0) (got := got) e (.cons (by decide) (.cons (by show _ ≤ 1000000; omega) (Cc hn hc (by omega))))).trans ih
    simpa [List.append_assoc] using this
  have := key b [d] (d :: 47 :: 60 :: rb) hA1 (fun y m => by cases List.mem_singleton.mp m; exact hA.tl.tl.hd) (fun y m => hL y (.tail _ m)) (by simp; omega)
  simpa using this
 exact ((mh (V0 := V0) (got := got) (Rq R M (some nm) t rb (47 :: ((d :: b) ++ x :: w)) cP ap) (.cons yH .nil)).trans
  ((mh (V0 := V0) (got := got) (xA R M (some nm) t (60 :: rb) ((d :: b) ++ x :: w) cP ap) (.cons (by decide) (.cons yH .nil))).trans
   ((mh (V0 := V0) (got := got) (xy R M (some nm) t (47 :: 60 :: rb) (b ++ x :: w) ap hA.tl.tl.hd hd) (.cons (by decide) (.cons (by decide) (.cons (by decide) .nil)))).trans go4)))
theorem VZ {f : Fn} {en : Bool} {σ : St} (p : jd R M (some nm) t V0 f rb aq en (cz b) got σ) : dj R M t V0 (fy nm) [] f (.aQ 5) rb aq en b got σ :=
 ⟨p.h, ⟨p.v.same, p.v.tok, p.v.got⟩, p.lm⟩
noncomputable abbrev KL (b : List Nat) (sc : Bool) : List AO := [.list [], iz (b.map fU) sc 8]
noncomputable abbrev KA (b : List Nat) : List AO := [.list [.aQ 10], iz (b.map fU) false 8, .list [.str [107], .str [49]]]
structure lM (nm b : List Nat) : Prop where
 hx : bV (a8 nm) (a8 b) = true
 hb : b.length ≤ 300000
 hm : (a8 nm).length ≤ 300000
 hl : (a8 b).length ≤ 300000
theorem Vj (F : lM nm b) (hg : got.length ≤ 300000) (ha : aq.length ≤ 300000) :
  eM (dj R M t V0 (fy nm) [] (ku ap) (.aQ 5) rb (62 :: aq) false b got) (dj R M t V0 (fy nm) (KL b false) .bl (.aQ 9) (62 :: rb) aq false b (got ++ [.tup [bG (62 :: rb), .aQ 9]])) := by
 obtain ⟨hx, hb, hm, hl⟩ := F
 have s0 : eM (dj R M t V0 (fy nm) [] (ku ap) (.aQ 5) rb (62 :: aq) false b got) (dj R M t V0 (fy nm) (KL b false) .bl (.aQ 9) (62 :: rb) (aq) false b (got ++ toks (62 :: rb) [.aQ 9])) := by
  cases ap
  ·exact yf (V0 := V0) hx (by omega) (by omega) (by omega) (by omega)
  ·exact AL (V0 := V0) hx (by omega) (by omega) (by omega) (by omega)
 simpa [toks] using s0
theorem Vk (F : lM nm b) (hg : got.length ≤ 300000) (ha : aq.length ≤ 300000) :
  eM (dj R M t V0 (fy nm) [] (ku ap) (.aQ 5) rb (32 :: 62 :: aq) false b got) (dj R M t V0 (fy nm) (KL b false) .bl (.aQ 9) (62 :: 32 :: rb) aq false b (got ++ [.tup [bG (62 :: 32 :: rb), .aQ 9]])) := by
 obtain ⟨hx, hb, hm, hl⟩ := F
 have s0 : eM (dj R M t V0 (fy nm) [] (ku ap) (.aQ 5) rb (32 :: 62 :: aq) false b got) (dj R M t V0 (fy nm) [.list [], iz b false 8] .iX (.aQ 9) (32 :: rb) (62 :: aq) false b (got ++ toks (32 :: rb) [])) := by
  cases ap
  ·exact pS (V0 := V0) hx (by omega) (by omega) (by omega) (by omega)
  ·exact sM (V0 := V0) hx (by omega) (by omega) (by omega) (by omega)
 have s1 := s0.trans (sI (V0 := V0) (by simp; omega) (by omega))
 simpa [toks] using s1
theorem Vl (F : lM nm b) (hg : got.length ≤ 300000) (ha : aq.length ≤ 300000) :
  eM (dj R M t V0 (fy nm) [] (ku ap) (.aQ 5) rb (47 :: 62 :: aq) false b got) (dj R M t V0 (fy nm) (KL b true) .bl (.aQ 9) (62 :: 47 :: rb) aq false b (got ++ [.tup [bG (62 :: 47 :: rb), bh 7 [115, 101, 108, 102, 45, 99, 108, 111, 115, 105, 110, 103, 45, 102, 108, 97, 103, 45, 111, 110, 45, 101, 110, 100, 45, 116, 97, 103]], .tup [bG (62 :: 47 :: rb), .aQ 9]])) := by
 obtain ⟨hx, hb, hm, hl⟩ := F
 have s0 : eM (dj R M t V0 (fy nm) [] (ku ap) (.aQ 5) rb (47 :: 62 :: aq) false b got) (dj R M t V0 (fy nm) [.list [], iz b false 8] .zP (.aQ 9) (47 :: rb) (62 :: aq) false b (got ++ toks (47 :: rb) [])) := by
  cases ap
  ·exact pT (V0 := V0) hx (by omega) (by omega) (by omega) (by omega)
  ·exact sN (V0 := V0) hx (by omega) (by omega) (by omega) (by omega)
 have s1 := s0.trans (EX (V0 := V0) (by simp; omega) (by omega))
 simpa [toks] using s1
theorem Vm (F : lM nm b) (hg : got.length ≤ 300000) (ha : aq.length ≤ 300000) :
  eM (dj R M t V0 (fy nm) [] (ku ap) (.aQ 5) rb (10 :: 107 :: 61 :: 49 :: 62 :: aq) false b got) (dj R M t V0 (fy nm) (KA b) .bl (.aQ 9) (62 :: 49 :: 61 :: 107 :: 10 :: rb) aq false b (got ++ [.tup [bG (62 :: 49 :: 61 :: 107 :: 10 :: rb), bh 7 [97, 116, 116, 114, 105, 98, 117, 116, 101, 115, 45, 105, 110, 45, 101, 110, 100, 45, 116, 97, 103]], .tup [bG (62 :: 49 :: 61 :: 107 :: 10 :: rb), .aQ 9]])) := by
 obtain ⟨hx, hb, hm, hl⟩ := F
 have s0 : eM (dj R M t V0 (fy nm) [] (ku ap) (.aQ 5) rb (10 :: 107 :: 61 :: 49 :: 62 :: aq) false b got) (dj R M t V0 (fy nm) [.list [], iz b false 8] .iX (.aQ 9) (10 :: rb) (107 :: 61 :: 49 :: 62 :: aq) false b (got ++ toks (10 :: rb) [])) := by
  cases ap
  ·exact yd (V0 := V0) hx (by omega) (by omega) (by omega) (by omega)
  ·exact AK (V0 := V0) hx (by omega) (by omega) (by omega) (by omega)
 have s1 := s0.trans (yb (V0 := V0) (by simp; omega) (by omega))
 have s2 := s1.trans (Te (V0 := V0) (by simp; omega) (by omega))
 have s3 := s2.trans (Nb (V0 := V0) (by simp; omega) (by omega))
 have s4 := s3.trans (Na (V0 := V0) (by simp; omega) (by omega))
 simpa [toks] using s4
theorem Vn (F : lM nm b) (hg : got.length ≤ 300000) (ha : aq.length ≤ 300000) :
  eM (dj R M t V0 (fy nm) [] (ku ap) (.aQ 5) rb (47 :: 32 :: 62 :: aq) false b got) (dj R M t V0 (fy nm) (KL b false) .bl (.aQ 9) (62 :: 32 :: 47 :: rb) aq false b (got ++ [.tup [bG (47 :: rb), bh 7 [117, 110, 101, 120, 112, 101, 99, 116, 101, 100, 45, 99, 104, 97, 114, 97, 99, 116, 101, 114, 45, 97, 102, 116, 101, 114, 45, 115, 111, 108, 105, 100, 117, 115, 45, 105, 110, 45, 116, 97, 103]], .tup [bG (62 :: 32 :: 47 :: rb), .aQ 9]])) := by
 obtain ⟨hx, hb, hm, hl⟩ := F
 have s0 : eM (dj R M t V0 (fy nm) [] (ku ap) (.aQ 5) rb (47 :: 32 :: 62 :: aq) false b got) (dj R M t V0 (fy nm) [.list [], iz b false 8] .zP (.aQ 9) (47 :: rb) (32 :: 62 :: aq) false b (got ++ toks (47 :: rb) [])) := by
  cases ap
  ·exact pT (V0 := V0) hx (by omega) (by omega) (by omega) (by omega)
  ·exact sN (V0 := V0) hx (by omega) (by omega) (by omega) (by omega)
 have s1 := s0.trans (EW (V0 := V0) (by simp; omega) (by omega))
 have s2 := s1.trans (AI (V0 := V0) (by simp; omega) (by omega) (by omega))
 have s3 := s2.trans (sI (V0 := V0) (by simp; omega) (by omega))
 simpa [toks] using s3
theorem Vo (F : lM nm b) (hg : got.length ≤ 300000) (ha : aq.length ≤ 300000) :
  eM (dj R M t V0 (fy nm) [] (ku ap) (.aQ 5) rb (32 :: []) false b got) (dj R M t V0 (fy nm) [.list [], iz b false 8] .bl (.aQ 9) (32 :: rb) [] true b (got ++ [.tup [bG (32 :: rb), bh 7 [101, 120, 112, 101, 99, 116, 101, 100, 45, 97, 116, 116, 114, 105, 98, 117, 116, 101, 45, 110, 97, 109, 101, 45, 98, 117, 116, 45, 103, 111, 116, 45, 101, 111, 102]]])) := by
 obtain ⟨hx, hb, hm, hl⟩ := F
 have s0 : eM (dj R M t V0 (fy nm) [] (ku ap) (.aQ 5) rb (32 :: []) false b got) (dj R M t V0 (fy nm) [.list [], iz b false 8] .iX (.aQ 9) (32 :: rb) ([]) false b (got ++ toks (32 :: rb) [])) := by
  cases ap
  ·exact pS (V0 := V0) hx (by omega) (by omega) (by omega) (by omega)
  ·exact sM (V0 := V0) hx (by omega) (by omega) (by omega) (by omega)
 have s1 := s0.trans (yc (V0 := V0) (by simp; omega) (by omega))
 simpa [toks] using s1
noncomputable def oY (l : List Nat) : List (Int × List Nat) := (match l.takeWhile dG with | [] => [] | q => [(2, q)]) ++ (match l.dropWhile dG with | [] => [] | q => [(1, q)])
theorem Jk {K : List AO} {CD : AO} {ct : AV} (hg : got.length ≤ 300000) (hb : b.length ≤ 300000) {tl : List Nat} (h : tl ∈ ([[], [117, 32, 118], [10, 32, 119, 62], [32]] : List (List Nat))) {σ : St} (p : dj R M t V0 CD K .bl ct rb tl false b got σ) :
  ∃ fu σ', sV fu true σ = some σ' ∧ dj R M t V0 CD K .bl ct (tl.reverse ++ rb) [] true b (got ++ cN rb (oY tl)) σ' := by
 have z : ∀ {rb en got σ}, dj R M t V0 CD K .bl ct rb [] en b got σ → ∃ σ', sV 1 true σ = some σ' ∧ dj R M t V0 CD K .bl ct rb [] true b got σ' := fun q => Nf q
 simp only [List.mem_cons, List.not_mem_nil, or_false] at h
 rcases h with rfl | rfl | rfl | rfl
 ·have := (eM.refl _).end (fun σ q => z q) p
  have e : oY [] = [] := rfl
  rw [e]; simpa [cN] using this
 ·have := (Td (R := R) (M := M) (t := t) (V0 := V0) (CD := CD) (K := K) (ct := ct) (rb := rb) (b := b) (got := got) (by omega) (by omega)).end (fun σ q => z q) p
  have e : oY [117, 32, 118] = [(1, [117, 32, 118])] := rfl
  rw [e]; simpa [cN, toks] using this
 ·have := ((Tb (R := R) (M := M) (t := t) (V0 := V0) (CD := CD) (K := K) (ct := ct) (rb := rb) (b := b) (got := got) (by omega) (by omega)).trans (Vi (V0 := V0) (by simp; omega) (by omega))).end (fun σ q => z q) p
  have e : oY [10, 32, 119, 62] = [(2, [10, 32]), (1, [119, 62])] := rfl
  rw [e]; simpa [cN, toks] using this
 ·have := (Tc (R := R) (M := M) (t := t) (V0 := V0) (CD := CD) (K := K) (ct := ct) (rb := rb) (b := b) (got := got) (by omega) (by omega)).end (fun σ q => z q) p
  have e : oY [32] = [(2, [32])] := rfl
  rw [e]; simpa [cN, toks] using this
end
theorem vQ {T : St → Option (Bool × St)} {B : St → Option (Fl × St)} {ρ : St} : ∀ (k n : Nat) (σ τ : Nat → St), (∀ j, j < k → T (σ j) = some (true, τ j) ∧ B (τ j) = some (.nx, σ (j + 1))) → T (σ k) = some (false, ρ) → k < n → fk n T B (σ 0) = some (.nx, ρ)
 | _, 0, _, _, _, _, h => absurd h (Nat.not_lt_zero _)
 | 0, n + 1, σ, τ, _, h, _ => rU h
 | k + 1, n + 1, σ, τ, hs, h, hn => D3 (hs 0 (Nat.succ_pos _)).1 (hs 0 (Nat.succ_pos _)).2 (vQ k n (fun j => σ (j + 1)) (fun j => τ (j + 1)) (fun j hj => hs (j + 1) (Nat.succ_lt_succ hj)) h (Nat.lt_of_succ_lt_succ hn))
theorem vN {q : Nat → Bool} : ∀ {l : List Nat} {j : Nat}, j < (l.takeWhile q).length → ∃ c, l[j]? = some c ∧ q c = true
 | [], _, h => by simp at h
 | c :: r, j, h => by
  rw [List.takeWhile_cons] at h
  split at h
  ·rename_i hc
   cases j with
   | zero => exact ⟨c, rfl, hc⟩
   | succ j => simpa using vN (l := r) (j := j) (by simpa using h)
  ·simp at h
theorem DW {q : Nat → Bool} : ∀ {l : List Nat}, l[(l.takeWhile q).length]? = none ∨ ∃ c, l[(l.takeWhile q).length]? = some c ∧ q c = false
 | [] => .inl rfl
 | c :: r => by
  rw [List.takeWhile_cons]
  split
  ·simpa using DW (l := r)
  ·rename_i hc; exact .inr ⟨c, rfl, by simpa using hc⟩
theorem dQ {H : List AO} {o : oZ} {a b : AV} {x : Bool} (h : uB o a b = some x) : jT H o a b = some x := by
 unfold jT
 rw [h]
 rfl
theorem qQ {m n : Nat} (h : m < n) : idx (m : Int) n = some m := by
 have h0 : decide ((0 : Int) ≤ (m : Int)) = true := decide_eq_true (Int.natCast_nonneg m)
 have h1 : decide ((m : Int).toNat < n) = true := decide_eq_true h
 unfold idx
 rw [h0, h1]
 rfl
theorem qV (H : List AO) {t : List Nat} {m : Nat} {c : Nat} (h : t[m]? = some c) : lW H (.str t) (.int (m : Int)) = some (.str [c]) := by
 obtain ⟨hm, e⟩ := List.getElem?_eq_some_iff.mp h
 show ((idx (m : Int) t.length).map fun j => AV.str [t.getD j 0]) = _
 rw [qQ hm]
 show some (AV.str [t.getD m 0]) = _
 rw [List.getD_eq_getElem?_getD, h]
 rfl
theorem rj {t : List Nat} {m : Nat} {c : Nat} (h : t[m]? = some c) : m < t.length := (List.getElem?_eq_some_iff.mp h).1
theorem wX (c : Nat) : ([32, 10] : List Nat).any (Nat.beq c) = dG c := by
 simp only [List.any_cons, List.any_nil, Bool.or_false, dG, BT.beq_eq]
 rfl
noncomputable def CX : Ex := (.and (.cons (.cmp (.v .ae) (.cons .lt (.call (.g .bw) (.cons (.v .af) .nil)) .nil)) (.cons (.cmp (.ix (.v .af) (.v .ae)) (.cons .isin (.g .bX) .nil)) .nil)))
theorem CY (H : List AO) (t : List Nat) (m : Nat) (O : List Nat) : cW G4 CX ⟨H, [(.af, .str t), (.ae, .int (m : Int))], O⟩ = some (match t[m]? with | some c => dG c | none => false, ⟨H, [(.af, .str t), (.ae, .int (m : Int))], O⟩) := by
 have g1 : G4.glob .bw = some (.bi .len) := by kernel_rfl
 have g2 : G4.glob .bX = some (.str [32, 10]) := by kernel_rfl
 have lt (b : Bool) (h : decide ((m : Int) < (t.length : Int)) = b) : cW G4 (.cmp (.v .ae) (.cons .lt (.call (.g .bw) (.cons (.v .af) .nil)) .nil)) ⟨H, [(.af, .str t), (.ae, .int (m : Int))], O⟩ = some (b, ⟨H, [(.af, .str t), (.ae, .int (m : Int))], O⟩) :=
  cV (bK rfl) (eP (w := .int t.length) (df (ka g1) (aH (bK rfl) rfl) (nJ (os := []) rfl)) (dQ (congrArg some h)))
 cases h : t[m]? with
 | none => exact gn (cY (lt false (decide_eq_false (by have := List.getElem?_eq_none_iff.mp h; omega))) rfl)
 | some c =>
  have hc : cW G4 (.cmp (.ix (.v .af) (.v .ae)) (.cons .isin (.g .bX) .nil)) ⟨H, [(.af, .str t), (.ae, .int (m : Int))], O⟩ = some (dG c, ⟨H, [(.af, .str t), (.ae, .int (m : Int))], O⟩) :=
   cV (gK (bK rfl) (bK rfl) (qV H h)) (eP (ka g2) (dQ (congrArg some (wX c))))
  refine gn (cY (lt true (decide_eq_true (by have := rj h; omega))) (cY hc ?_))
  show cond (dG c) (some (true, _)) (some (false, _)) = some (dG c, _)
  cases dG c <;> rfl
theorem KG (H : List AO) (t : List Nat) (m : Nat) (O : List Nat) : b0 G4 (.cons (.aug (.v .ae) .add (.c (.int 1))) .nil) ⟨H, [(.af, .str t), (.ae, .int (m : Int))], O⟩ = some (.nx, ⟨H, [(.af, .str t), (.ae, .int ((m + 1 : Nat) : Int))], O⟩) := aJ (oH rfl rfl rfl) rfl
theorem tP (H : List AO) (t : List Nat) (p : Nat) (hl : t.length ≤ 1000000) : jL G4 qG [.str t, .int (p : Int)] H = some (.int ((p + ((t.drop p).takeWhile dG).length : Nat) : Int), H, []) := by
 have hk := j8 dG (t.drop p)
 rw [List.length_drop] at hk
 have w : fk 2000001 (cW G4 CX) (b0 G4 (.cons (.aug (.v .ae) .add (.c (.int 1))) .nil)) ⟨H, [(.af, .str t), (.ae, .int (p : Int))], []⟩ = some (.nx, ⟨H, [(.af, .str t), (.ae, .int ((p + ((t.drop p).takeWhile dG).length : Nat) : Int))], []⟩) :=
  vQ ((t.drop p).takeWhile dG).length 2000001 (fun j => ⟨H, [(.af, .str t), (.ae, .int ((p + j : Nat) : Int))], []⟩) (fun j => ⟨H, [(.af, .str t), (.ae, .int ((p + j : Nat) : Int))], []⟩) (fun j hj => by
   obtain ⟨c, h1, h2⟩ := vN hj
   rw [List.getElem?_drop] at h1
   exact ⟨by rw [CY, h1, ← h2], KG _ _ _ _⟩) (by
   rw [CY]
   rcases DW (q := dG) (l := t.drop p) with h | ⟨c, h, h2⟩
   ·rw [List.getElem?_drop] at h; rw [h]
   ·rw [List.getElem?_drop] at h; rw [h, ← h2]) (by omega)
 exact j0 rfl (show b0 G4 (.cons (.mW CX _) (.cons (.ret (.v .ae)) .nil)) _ = _ from j5 w (iW (bK rfl))) rfl
theorem iu (a n : Nat) : dn (a : Int) n = min a n := by
 unfold dn clipAt
 rw [if_neg (by omega)]
 omega
theorem wo (t : List Nat) (a b : Nat) (h : a ≤ b) : eQ t (min a t.length) (min b t.length) = (t.drop a).take (b - a) := by
 unfold eQ
 by_cases ha : a ≤ t.length
 ·rw [Nat.min_eq_left ha]
  have : t.take (min b t.length) = t.take b := by
   by_cases hb : b ≤ t.length
   ·rw [Nat.min_eq_left hb]
   ·rw [Nat.min_eq_right (by omega), List.take_length, List.take_of_length_le (by omega)]
  rw [this, List.drop_take]
 ·rw [Nat.min_eq_right (by omega : t.length ≤ a), Nat.min_eq_right (by omega : t.length ≤ b), List.take_length, List.drop_length, List.drop_of_length_le (by omega)]
  simp
theorem lL (H : List AO) (t : List Nat) (a b : Nat) (h : a ≤ b) : zw H (.str t) (.int (a : Int)) (.int (b : Int)) = some (.str ((t.drop a).take (b - a))) := by
 show some (AV.str (eQ t (dn (a : Int) t.length) (dn (b : Int) t.length))) = _
 rw [iu, iu, wo t a b h]
theorem Lz (H : List AO) (t : List Nat) (b : Nat) : zw H (.str t) .none (.int (b : Int)) = some (.str (t.take b)) := by
 show some (AV.str (eQ t 0 (dn (b : Int) t.length))) = _
 have := wo t 0 b (Nat.zero_le _)
 rw [Nat.zero_min] at this
 rw [iu, this]
 rfl
theorem D5 (H : List AO) (t : List Nat) (a : Nat) : zw H (.str t) (.int (a : Int)) .none = some (.str (t.drop a)) := by
 show some (AV.str (eQ t (dn (a : Int) t.length) t.length)) = _
 rw [iu]
 unfold eQ
 rw [List.take_length]
 by_cases ha : a ≤ t.length
 ·rw [Nat.min_eq_left ha]
 ·rw [Nat.min_eq_right (by omega), List.drop_length, List.drop_of_length_le (by omega)]
theorem E8 (l : List Nat) : qd (.str (l.take 1)) [.str [32], .str [10], .str [47], .str [62]] = some (match l with | e :: _ => yP e | [] => false) := by
 cases l with
 | nil => rfl
 | cons e r =>
  show some (Nat.beq 32 e && true || (Nat.beq 10 e && true || (Nat.beq 47 e && true || (Nat.beq 62 e && true || false)))) = _
  simp only [BT.beq_eq, yP, Bool.and_true, Bool.or_false]
  have h : ∀ a : Nat, decide (a = e) = (e == a) := fun a => by
   by_cases z : a = e
   ·subst z; simp
   ·rw [decide_eq_false z]; symm; simpa using fun h => z h.symm
  rw [h, h, h, h, Bool.or_assoc, Bool.or_assoc]
section
variable {G : bS} {σ σ1 : St} {e e' : Ex} {es : dZ} {v : AV} {H1 : List AO} {V1 : List (Nm × AV)} {O1 : List Nat} {b : Bool} {z : Option (AV × St)}
theorem Hl (h : o5 G es σ = z) : ev G (.and es) σ = z := h
theorem RI (h : ev G e σ = some (v, σ1)) : o5 G (.cons e .nil) σ = some (v, σ1) := az h rfl
theorem vO (h : ev G e σ = some (.bool true, σ1)) (k : o5 G (.cons e' es) σ1 = z) : o5 G (.cons e (.cons e' es)) σ = z := az h (az (x := true) rfl k)
theorem RJ (h : ev G e σ = some (.bool false, σ1)) : o5 G (.cons e (.cons e' es)) σ = some (.bool false, σ1) := az h (az (x := false) rfl rfl)
end
theorem AY (H : List AO) (t nm : List Nat) (p : Nat) (hA : Al t) (hnm : nm ≠ []) :
  ∃ os, jL G4 mB [.str t, .int (p : Int), .str nm] H = some (.bool (fL (some nm) (t.drop p)), H, os) ∧ ∀ k ∈ os, k ≤ t.length + 10 := by
 have g1 : G4.glob .bw = some (.bi .len) := by kernel_rfl
 have e0 : bV nm [] = false := by cases nm with | nil => exact absurd rfl hnm | cons => rfl
 have s1 := lL H t p (p + 2) (by omega)
 have s2 := lL H t (p + 2) (p + 2 + nm.length) (by omega)
 have s3 := lL H t (p + 2 + nm.length) (p + 2 + nm.length + 1) (by omega)
 rw [show p + 2 - p = 2 by omega] at s1
 rw [Nat.add_sub_cancel_left, show t.drop (p + 2) = (t.drop p).drop 2 by rw [List.drop_drop]] at s2
 rw [Nat.add_sub_cancel_left, show t.drop (p + 2 + nm.length) = (t.drop p).drop (2 + nm.length) by rw [List.drop_drop, Nat.add_assoc]] at s3
 have hin := E8 ((t.drop p).drop (2 + nm.length))
 have hlo : (a8 (((t.drop p).drop 2).take nm.length)).length ≤ t.length := by
  rw [oh (fun x m => hA x (List.mem_of_mem_drop (List.mem_of_mem_drop (List.mem_of_mem_take m))))]
  rw [List.length_take, List.length_drop, List.length_drop]; omega
 have hF : fL (some nm) (t.drop p) = (bV ((t.drop p).take 2) [60, 47] && bV (a8 (((t.drop p).drop 2).take nm.length)) nm && (match (t.drop p).drop (2 + nm.length) with | e :: _ => yP e | [] => false)) := rfl
 rw [hF]
 generalize (match (t.drop p).drop (2 + nm.length) with | e :: _ => yP e | [] => false) = z3 at hin
 generalize ((t.drop p).drop (2 + nm.length)).take 1 = q3 at s3 hin
 generalize ((t.drop p).drop 2).take nm.length = q2 at s2 hlo
 generalize (t.drop p).take 2 = q1 at s1
 have s0 : ex G4 (.asg (.v .a5) (.bin .add (.bin .add (.v .ae) (.c (.int 2))) (.call (.g .bw) (.cons (.v .aK) .nil)))) ⟨H, [(.af, .str t), (.ae, .int (p : Int)), (.aK, .str nm)], []⟩ = some (.nx, ⟨H, [(.af, .str t), (.ae, .int (p : Int)), (.aK, .str nm), (.a5, .int ((p + 2 + nm.length : Nat) : Int))], []⟩) :=
  cg (v := .int ((p + 2 + nm.length : Nat) : Int)) (V1 := [(.af, .str t), (.ae, .int (p : Int)), (.aK, .str nm)]) (eF (os := []) (eF (v := .int p) (y := .int ((p + 2 : Nat) : Int)) (os := []) (bK rfl) rfl rfl) (df (ka g1) (aH (bK rfl) rfl) (nJ (y := .int nm.length) (os := []) rfl)) rfl)
 have v1 : ev G4 (.cmp (.v .aK) (.cons .ne (.c (.str [])) .nil)) ⟨H, [(.af, .str t), (.ae, .int (p : Int)), (.aK, .str nm), (.a5, .int ((p + 2 + nm.length : Nat) : Int))], []⟩ = some (.bool true, ⟨H, [(.af, .str t), (.ae, .int (p : Int)), (.aK, .str nm), (.a5, .int ((p + 2 + nm.length : Nat) : Int))], []⟩) :=
  jk (bK rfl) (eP rfl (dQ (show some (!bV nm []) = _ by rw [e0]; rfl)))
 generalize hV : [(Nm.af, AV.str t), (.ae, .int (p : Int)), (.aK, .str nm), (.a5, .int ((p + 2 + nm.length : Nat) : Int))] = V at s0 v1
 have k1 : lk V .af = some (.str t) := hV ▸ rfl
 have k2 : lk V .ae = some (.int (p : Int)) := hV ▸ rfl
 have k3 : lk V .aK = some (.str nm) := hV ▸ rfl
 have k4 : lk V .a5 = some (.int ((p + 2 + nm.length : Nat) : Int)) := hV ▸ rfl
 have v2 : ev G4 (.cmp (.sl (.v .af) (.v .ae) (.bin .add (.v .ae) (.c (.int 2)))) (.cons .eq (.c (.str [60,47])) .nil)) ⟨H, V, []⟩ = some (.bool (bV q1 [60, 47]), ⟨H, V, []⟩) :=
  jk (ll (bK k1) (bK k2) (eF (os := []) (bK k2) rfl rfl) s1) (eP rfl rfl)
 have v3 : ev G4 (.cmp (.aw (.sl (.v .af) (.bin .add (.v .ae) (.c (.int 2))) (.v .a5)) .g6 .nil) (.cons .eq (.v .aK) .nil)) ⟨H, V, []⟩ = some (.bool (bV (a8 q2) nm), ⟨H, V, [(a8 q2).length]⟩) :=
  jk (dE (ll (bK k1) (eF (os := []) (bK k2) rfl rfl) (bK k4) s2) (qn t8) rfl (pW rfl)) (eP (bK k3) rfl)
 have v4 : ev G4 (.cmp (.sl (.v .af) (.v .a5) (.bin .add (.v .a5) (.c (.int 1)))) (.cons .isin (.tup (.cons (.c (.str [32])) (.cons (.c (.str [10])) (.cons (.c (.str [47])) (.cons (.c (.str [62])) .nil))))) .nil)) ⟨H, V, [(a8 q2).length]⟩ = some (.bool z3, ⟨H, V, [4, (a8 q2).length]⟩) :=
  jk (ll (bK k1) (bK k4) (eF (os := []) (bK k4) rfl rfl) s3) (eP (w := .tup [.str [32], .str [10], .str [47], .str [62]]) (i5 (vs := [.str [32], .str [10], .str [47], .str [62]]) rfl) (dQ hin))
 have go : ∀ (b : Bool) os, o5 G4 _ ⟨H, V, []⟩ = some (.bool b, ⟨H, V, os⟩) → jL G4 mB [.str t, .int (p : Int), .str nm] H = some (.bool b, H, os) := fun b os h => j0 rfl (show b0 G4 ta _ = _ from aJ s0 (iW (Hl h))) rfl
 cases h1 : bV q1 [60, 47] with
 | false => exact ⟨[], go _ _ (vO v1 (RJ (v2.trans (by rw [h1])))), fun _ m => nomatch m⟩
 | true => cases h2 : bV (a8 q2) nm with
  | false => exact ⟨[(a8 q2).length], go _ _ (vO v1 (vO (v2.trans (by rw [h1])) (RJ (v3.trans (by rw [h2]))))), fun k m => by cases List.mem_singleton.mp m; omega⟩
  | true => exact ⟨[4, (a8 q2).length], go _ _ (vO v1 (vO (v2.trans (by rw [h1])) (vO (v3.trans (by rw [h2])) (RI v4)))), fun k m => by
    rcases List.mem_cons.mp m with rfl | m
    ·omega
    ·cases List.mem_singleton.mp m; omega⟩
noncomputable def jY : List Nat → List Nat → List AV
 | rb, [] => [bG rb]
 | rb, c :: r => bG rb :: jY (c :: rb) r
theorem xj : ∀ (l rb : List Nat) (i : Nat), i ≤ l.length → (jY rb l)[i]? = some (bG ((l.take i).reverse ++ rb))
 | [], rb, i, h => by
  have : i = 0 := by simpa using h
  subst this; rfl
 | c :: r, rb, 0, _ => rfl
 | c :: r, rb, i + 1, h => by
  rw [jY]
  simp only [List.getElem?_cons_succ]
  rw [xj r (c :: rb) i (by simpa using h)]
  simp
theorem F8 : ∀ (l rb : List Nat), (jY rb l).length = l.length + 1
 | [], _ => rfl
 | c :: r, rb => by rw [jY, List.length_cons, F8 r]; rfl
theorem Gn (rb : List Nat) : bG (10 :: rb) = .tup [.int ((jQ rb : Int) + 1 + 1), .int 0] := by
 unfold bG
 rw [wk]
 simp [jQ]
theorem Gp {c : Nat} (rb : List Nat) (h : c ≠ 10) : bG (c :: rb) = .tup [.int ((jQ rb : Int) + 1), .int ((fA rb : Int) + 1)] := by
 unfold bG
 rw [pN _ _ h]
 have : jQ (c :: rb) = jQ rb := by simp [jQ, h]
 rw [this]; simp
noncomputable def TS : cT := (.cons (.iO [(.v .cU), (.v .cJ)] (.ix (.v .aY) (.neg (.c (.int 1))))) (.cons (.exp (.aw (.v .aY) .aA (.cons (.ite (.cmp (.v .fe) (.cons .eq (.c (.str [10])) .nil)) (.tup (.cons (.bin .add (.v .cU) (.c (.int 1))) (.cons (.c (.int 0)) .nil))) (.tup (.cons (.v .cU) (.cons (.bin .add (.v .cJ) (.c (.int 1))) .nil)))) .nil))) .nil))
theorem F7 (R : AO) (acc : List AV) (rb : List Nat) (c : Nat) (V : List (Nm × AV)) (O : List Nat) (h : lk V .aY = some (.aQ 1)) :
  ∃ V', b0 G4 TS ⟨[R, .list (acc ++ [bG rb])], pt V .fe (.str [c]), O⟩ = some (.nx, ⟨[R, .list ((acc ++ [bG rb]) ++ [bG (c :: rb)])], V', ((acc ++ [bG rb]).length + 1) :: 2 :: O⟩) ∧ lk V' .aY = some (.aQ 1) := by
 have hi : lW [R, .list (acc ++ [bG rb])] (.aQ 1) (.int (-1)) = some (bG rb) := by
  show (idx (-1) (acc ++ [bG rb]).length).map _ = _
  have e : (acc ++ [bG rb]).length = acc.length + 1 := List.length_append
  have : idx (-1) (acc.length + 1) = some acc.length := by
   unfold idx
   rw [show decide ((0 : Int) ≤ -1) = false from rfl, show decide ((0 : Int) ≤ -1 + ((acc.length + 1 : Nat) : Int)) = true from decide_eq_true (by omega)]
   show some (-1 + ((acc.length + 1 : Nat) : Int)).toNat = _
   congr 1
   omega
  rw [e, this]
  show some ((acc ++ [bG rb]).getD acc.length AV.none) = _
  rw [List.getD_eq_getElem?_getD, List.getElem?_append_right (Nat.le_refl _), Nat.sub_self]
  rfl
 have k1 : lk (pt V .fe (.str [c])) .aY = some (.aQ 1) := (ck (by decide)).trans h
 have k2 : lk (pt V .fe (.str [c])) .fe = some (.str [c]) := bR
 generalize pt V .fe (.str [c]) = V1 at k1 k2
 have k3 : lk (pt (pt V1 .cU (.int (jQ rb + 1))) .cJ (.int (fA rb))) .aY = some (.aQ 1) := (ck (by decide)).trans ((ck (by decide)).trans k1)
 have k4 : lk (pt (pt V1 .cU (.int (jQ rb + 1))) .cJ (.int (fA rb))) .fe = some (.str [c]) := (ck (by decide)).trans ((ck (by decide)).trans k2)
 have k5 : lk (pt (pt V1 .cU (.int (jQ rb + 1))) .cJ (.int (fA rb))) .cU = some (.int (jQ rb + 1)) := (ck (by decide)).trans bR
 have k6 : lk (pt (pt V1 .cU (.int (jQ rb + 1))) .cJ (.int (fA rb))) .cJ = some (.int (fA rb)) := bR
 have st1 : ex G4 (.iO [(.v .cU), (.v .cJ)] (.ix (.v .aY) (.neg (.c (.int 1))))) ⟨[R, .list (acc ++ [bG rb])], V1, O⟩ = some (.nx, ⟨[R, .list (acc ++ [bG rb])], pt (pt V1 .cU (.int (jQ rb + 1))) .cJ (.int (fA rb)), O⟩) :=
  oG (vs := [.int (jQ rb + 1), .int (fA rb)]) (gK (bK k1) (wH (j := 1) rfl) hi) (El (El rZ))
 refine ⟨pt (pt V1 .cU (.int (jQ rb + 1))) .cJ (.int (fA rb)), aJ st1 ?_, k3⟩
 generalize pt (pt V1 .cU (.int (jQ rb + 1))) .cJ (.int (fA rb)) = V2 at k3 k4 k5 k6
 have hv : ev G4 (.ite (.cmp (.v .fe) (.cons .eq (.c (.str [10])) .nil)) (.tup (.cons (.bin .add (.v .cU) (.c (.int 1))) (.cons (.c (.int 0)) .nil))) (.tup (.cons (.v .cU) (.cons (.bin .add (.v .cJ) (.c (.int 1))) .nil)))) ⟨[R, .list (acc ++ [bG rb])], V2, O⟩ = some (bG (c :: rb), ⟨[R, .list (acc ++ [bG rb])], V2, 2 :: O⟩) := by
  by_cases hc : c = 10
  ·subst hc
   rw [Gn]
   exact nv (b := true) (cV (bK k4) (eP rfl rfl)) (i5 (vs := [.int (jQ rb + 1 + 1), .int 0]) (aH (eF (os := []) (bK k5) rfl rfl) (aH rfl rfl)))
  ·rw [Gp rb hc]
   have hb : bV [c] [10] = false := by
    show (Nat.beq c 10 && true) = false
    rw [BT.beq_eq, decide_eq_false hc]; rfl
   exact nv (b := false) (cV (bK k4) (eP rfl (dQ (congrArg some hb)))) (i5 (vs := [.int (jQ rb + 1), .int (fA rb + 1)]) (aH (bK k5) (aH (eF (os := []) (bK k6) rfl rfl) rfl)))
 exact aJ (l9 (v := .none) (dE (bK k3) (lZ fh rfl) (aH hv rfl) (lU (os := [(acc ++ [bG rb]).length + 1]) rfl rfl)) rfl) rfl
theorem xi (R : AO) : ∀ (l rb : List Nat) (acc : List AV) (V : List (Nm × AV)) (O : List Nat), lk V .aY = some (.aQ 1) → acc.length + l.length ≤ 500000 → Lm O →
  ∃ V' O', jO (gI [.fe] false) (b0 G4 TS) (l.map fun c => .str [c]) ⟨[R, .list (acc ++ [bG rb])], V, O⟩ = some (.nx, ⟨[R, .list (acc ++ jY rb l)], V', O'⟩) ∧ lk V' .aY = some (.aQ 1) ∧ Lm O'
 | [], rb, acc, V, O, h, _, hO => ⟨V, O, rfl, h, hO⟩
 | c :: r, rb, acc, V, O, h, hl, hO => by
  obtain ⟨V1, e, h1⟩ := F7 R acc rb c V O h
  have el : (acc ++ [bG rb]).length = acc.length + 1 := List.length_append
  rw [List.length_cons] at hl
  obtain ⟨V', O', e', h', hO'⟩ := xi R r (c :: rb) (acc ++ [bG rb]) V1 (((acc ++ [bG rb]).length + 1) :: 2 :: O) h1 (by omega) (.cons (by show _ ≤ 1000000; omega) (.cons (by decide) hO))
  refine ⟨V', O', qL (σ1 := ⟨_, pt V .fe (.str [c]), O⟩) rfl e (e'.trans ?_), h', hO'⟩
  rw [List.append_assoc]
  rfl
theorem y9 (R : AO) (t : List Nat) (hl : t.length ≤ 400000) : ∃ os, jL G4 nr [.str t] [R] = some (.aQ 1, [R, .list (jY [] t)], os) ∧ Lm os := by
 obtain ⟨V', O', e, h, hO⟩ := xi R t [] [] [(.af, .str t), (.aY, .aQ 1)] [1, 2] rfl (by rw [List.length_nil]; omega) (.cons (by decide) (.cons (by decide) .nil))
 have e1 : b0 G4 qf ⟨[R], [(.af, .str t)], []⟩ = b0 G4 (.cons (.fr [.fe] false (.v .af) TS) (.cons (.ret (.v .aY)) .nil)) ⟨[R, .list [bG []]], [(.af, .str t), (.aY, .aQ 1)], [1, 2]⟩ := by kernel_rfl
 exact ⟨O', j0 rfl (e1.trans (aJ (vC (bK rfl) rfl e) (iW (bK h)))) rfl, hO⟩
noncomputable def mw : List Nat := [67,104,97,114,97,99,116,101,114,115]
noncomputable def Ri : List Nat := [83,112,97,99,101,67,104,97,114,97,99,116,101,114,115]
noncomputable def V7 (t : List Nat) (e : Nat) (ap : Bool) (p : Nat) (kd : List Nat) (st : Nat) : List (Nm × AV) := [(.af, .str t), (.a5, .int (e : Int)), (.gA, .bool ap), (.aU, .aQ 0), (.ae, .int (p : Int)), (.ej, .str kd), (.aG, .int (st : Int))]
noncomputable def SY : Ex := (.and (.cons (.cmp (.v .aG) (.cons .lt (.v .a5) .nil)) (.cons (.or (.cons (.cmp (.c (.str [97])) (.cons .le (.ix (.v .af) (.v .aG)) (.cons .le (.c (.str [122])) .nil))) (.cons (.cmp (.c (.str [65])) (.cons .le (.ix (.v .af) (.v .aG)) (.cons .le (.c (.str [90])) .nil))) .nil))) .nil)))
noncomputable def S1 : Ex := (.and (.cons (.cmp (.v .aG) (.cons .lt (.v .a5) .nil)) (.cons (.cmp (.ix (.v .af) (.v .aG)) (.cons .ne (.c (.str [60])) .nil)) .nil)))
noncomputable def uz : cT := (.cons (.aug (.v .aG) .add (.c (.int 1))) .nil)
section
variable (H : List AO) (l w : List Nat) (ap : Bool) (p : Nat) (kd : List Nat) (O : List Nat)
theorem uS {l w : List Nat} {i c : Nat} (h : l[i]? = some c) : (l ++ w)[i]? = some c := by
 rw [List.getElem?_append_left (rj h)]; exact h
theorem U4 (i : Nat) : lk (V7 (l ++ w) l.length ap p kd i) .aG = some (.int (i : Int)) ∧ lk (V7 (l ++ w) l.length ap p kd i) .a5 = some (.int (l.length : Int)) ∧ lk (V7 (l ++ w) l.length ap p kd i) .af = some (.str (l ++ w)) := ⟨rfl, rfl, rfl⟩
theorem FX {e : Nat} {V : List (Nm × AV)} {i : Nat} {b : Bool} (k1 : lk V .aG = some (.int (i : Int))) (k2 : lk V .a5 = some (.int (e : Int))) (h : decide ((i : Int) < (e : Int)) = b) : cW G5 (.cmp (.v .aG) (.cons .lt (.v .a5) .nil)) ⟨H, V, O⟩ = some (b, ⟨H, V, O⟩) :=
 cV (bK k1) (eP (bK k2) (dQ (congrArg some h)))
theorem MF (i : Nat) : cW G5 SY ⟨H, V7 (l ++ w) l.length ap p kd i, O⟩ = some (match l[i]? with | some c => eG c | none => false, ⟨H, V7 (l ++ w) l.length ap p kd i, O⟩) := by
 obtain ⟨k1, k2, k3⟩ := U4 l w ap p kd i
 generalize V7 (l ++ w) l.length ap p kd i = V at k1 k2 k3
 cases h : l[i]? with
 | none => exact gn (cY (FX H O k1 k2 (decide_eq_false (by have := List.getElem?_eq_none_iff.mp h; omega))) rfl)
 | some c =>
  have hi := qV H (uS (w := w) h)
  have le (x y : Nat) : jT H .le (.str [x]) (.str [y]) = some (decide (x ≤ y)) := dQ (congrArg some (q9 x y))
  have two (a b : Nat) : cW G5 (.cmp (.c (.str [a])) (.cons .le (.ix (.v .af) (.v .aG)) (.cons .le (.c (.str [b])) .nil))) ⟨H, V, O⟩ = some (decide (a ≤ c) && decide (c ≤ b), ⟨H, V, O⟩) := by
   refine cV rfl (EI (gK (bK k3) (bK k1) hi) (le a c) ?_)
   cases decide (a ≤ c) with
   | false => rfl
   | true => exact eP rfl (le c b)
  refine gn (cY (FX H O k1 k2 (decide_eq_true (by have := rj h; omega))) (cY (b := eG c) (xE (or_cons (two 97 122) ?_)) (by show cond (eG c) (some (true, _)) (some (false, _)) = some (eG c, _); cases eG c <;> rfl)))
  unfold eG
  cases decide (97 ≤ c) && decide (c ≤ 122) with
  | true => rfl
  | false =>
   refine or_cons (two 65 90) ?_
   show cond _ (some (true, _)) (some (false, _)) = _
   cases decide (65 ≤ c) && decide (c ≤ 90) <;> rfl
theorem MG (i : Nat) : cW G5 S1 ⟨H, V7 (l ++ w) l.length ap p kd i, O⟩ = some (match l[i]? with | some c => c != 60 | none => false, ⟨H, V7 (l ++ w) l.length ap p kd i, O⟩) := by
 obtain ⟨k1, k2, k3⟩ := U4 l w ap p kd i
 generalize V7 (l ++ w) l.length ap p kd i = V at k1 k2 k3
 cases h : l[i]? with
 | none => exact gn (cY (FX H O k1 k2 (decide_eq_false (by have := List.getElem?_eq_none_iff.mp h; omega))) rfl)
 | some c =>
  have c1 : uB .ne (.str [c]) (.str [60]) = some (c != 60) := by
   show some (!(Nat.beq c 60 && true)) = _
   rw [BT.beq_eq]
   by_cases z : c = 60
   ·subst z; rfl
   ·rw [decide_eq_false z, bne_iff_ne.mpr z]; rfl
  refine gn (cY (FX H O k1 k2 (decide_eq_true (by have := rj h; omega))) (cY (cV (gK (bK k3) (bK k1) (qV H (uS (w := w) h))) (eP rfl (dQ c1))) ?_))
  show cond (c != 60) (some (true, _)) (some (false, _)) = some (c != 60, _)
  cases c != 60 <;> rfl
theorem Iw (i : Nat) : b0 G5 uz ⟨H, V7 (l ++ w) l.length ap p kd i, O⟩ = some (.nx, ⟨H, V7 (l ++ w) l.length ap p kd (i + 1), O⟩) := aJ (oH rfl rfl rfl) rfl
theorem Ag {T : Ex} {q : Nat → Bool} (hT : ∀ i, cW G5 T ⟨H, V7 (l ++ w) l.length ap p kd i, O⟩ = some (match l[i]? with | some c => q c | none => false, ⟨H, V7 (l ++ w) l.length ap p kd i, O⟩)) (s : Nat) (hl : l.length ≤ 1000000) :
  fk G5.fuel (cW G5 T) (b0 G5 uz) ⟨H, V7 (l ++ w) l.length ap p kd s, O⟩ = some (.nx, ⟨H, V7 (l ++ w) l.length ap p kd (s + ((l.drop s).takeWhile q).length), O⟩) := by
 have hk := j8 q (l.drop s)
 rw [List.length_drop] at hk
 exact vQ (T := cW G5 T) (B := b0 G5 uz) ((l.drop s).takeWhile q).length 2000001 (fun j => ⟨H, V7 (l ++ w) l.length ap p kd (s + j), O⟩) (fun j => ⟨H, V7 (l ++ w) l.length ap p kd (s + j), O⟩) (fun j hj => by
   obtain ⟨c, h1, h2⟩ := vN hj
   rw [List.getElem?_drop] at h1
   exact ⟨by rw [hT, h1, ← h2], Iw _ _ _ _ _ _ _ _⟩) (by
   rw [hT]
   rcases DW (q := q) (l := l.drop s) with h | ⟨c, h, h2⟩
   ·rw [List.getElem?_drop] at h; rw [h]
   ·rw [List.getElem?_drop] at h; rw [h, ← h2]) (by omega)
end
noncomputable def bA : cT := (.cons (.ite (.cmp (.sl (.v .af) (.v .aG) (.bin .add (.v .aG) (.c (.int 1)))) (.cons .eq (.c (.str [47])) .nil)) (.cons (.aug (.v .aG) .add (.c (.int 1))) (.cons (.mW SY uz) .nil)) .nil) .nil)
noncomputable def bB : cT := (.cons (.ite (.and (.cons (.v .gA) (.cons (.cmp (.ix (.v .af) (.v .ae)) (.cons .isin (.g .bX) .nil)) .nil))) (.cons (.asg (.v .ej) (.c (.str Ri))) (.cons (.asg (.v .aG) (.call (.g .cb) (.cons (.v .af) (.cons (.v .ae) .nil)))) .nil)) (.cons (.mW S1 uz) .nil)) .nil)
noncomputable def Es : Sx := .ite (.cmp (.ix (.v .af) (.v .ae)) (.cons .eq (.c (.str [60])) .nil)) bA bB
noncomputable def kdOf (k : Int) : List Nat := if k = 2 then Ri else mw
section
variable {H : List AO} {pre r w : List Nat} {c : Nat} {ap : Bool} {O : List Nat}
theorem MI (hw : w = [] ∨ ∃ w', w = 60 :: w') (hl : (pre ++ c :: r).length ≤ 300000) (hl2 : ((pre ++ c :: r) ++ w).length ≤ 1000000) :
  ex G5 Es ⟨H, V7 ((pre ++ c :: r) ++ w) (pre ++ c :: r).length ap pre.length mw (pre.length + 1), O⟩ =
   some (.nx, ⟨H, V7 ((pre ++ c :: r) ++ w) (pre ++ c :: r).length ap pre.length (kdOf (bc ap c r).1) (pre.length + 1 + (bc ap c r).2.1.length), O⟩) := by
 have hg : (pre ++ c :: r)[pre.length]? = some c := by rw [List.getElem?_append_right (Nat.le_refl _), Nat.sub_self]; rfl
 have hi := qV H (uS (w := w) hg)
 have dr (x y : List Nat) : (pre ++ c :: x ++ y).drop (pre.length + 1) = x ++ y := by
  rw [← List.drop_drop, List.append_assoc, List.drop_left]; rfl
 have hdrop := dr r w
 have Bn : (pre ++ c :: r).drop (pre.length + 1) = r := by have := dr r []; rw [List.append_nil, List.append_nil] at this; exact this
 have Bm : ((pre ++ c :: r) ++ w).drop pre.length = c :: (r ++ w) := by rw [List.append_assoc, List.drop_left]; rfl
 have lp1 := fun s => Ag H (pre ++ c :: r) w ap pre.length mw O (MF H (pre ++ c :: r) w ap pre.length mw O) s (by omega)
 have lp2 := Ag H (pre ++ c :: r) w ap pre.length mw O (MG H (pre ++ c :: r) w ap pre.length mw O) (pre.length + 1) (by omega)
 rw [Bn] at lp2
 have c1 (x : Nat) : jT H .eq (.str [c]) (.str [x]) = some (c == x) := dQ (by
  show some (Nat.beq c x && true) = _
  rw [BT.beq_eq, Bool.and_true]
  rfl)
 by_cases hc : c = 60
 ·subst hc
  have s1 := lL H ((pre ++ 60 :: r) ++ w) (pre.length + 1) (pre.length + 1 + 1) (by omega)
  rw [hdrop, Nat.add_sub_cancel_left] at s1
  have tA : cW G5 (.cmp (.sl (.v .af) (.v .aG) (.bin .add (.v .aG) (.c (.int 1)))) (.cons .eq (.c (.str [47])) .nil)) ⟨H, V7 ((pre ++ 60 :: r) ++ w) (pre ++ 60 :: r).length ap pre.length mw (pre.length + 1), O⟩ = some (bV ((r ++ w).take 1) [47], ⟨H, V7 ((pre ++ 60 :: r) ++ w) (pre ++ 60 :: r).length ap pre.length mw (pre.length + 1), O⟩) :=
   cV (ll (bK rfl) (bK rfl) (eF (os := []) (bK rfl) rfl rfl) s1) (eP rfl rfl)
  have go (b : Bool) (hb : bV ((r ++ w).take 1) [47] = b) {z : Option (Fl × St)} (h : cond b (b0 G5 (.cons (.aug (.v .aG) .add (.c (.int 1))) (.cons (.mW SY uz) .nil)) ⟨H, V7 ((pre ++ 60 :: r) ++ w) (pre ++ 60 :: r).length ap pre.length mw (pre.length + 1), O⟩) (some (.nx, ⟨H, V7 ((pre ++ 60 :: r) ++ w) (pre ++ 60 :: r).length ap pre.length mw (pre.length + 1), O⟩)) = z) :
    ex G5 Es ⟨H, V7 ((pre ++ 60 :: r) ++ w) (pre ++ 60 :: r).length ap pre.length mw (pre.length + 1), O⟩ = z :=
   gv (b := true) (cV (gK (bK rfl) (bK rfl) hi) (eP rfl rfl)) (iV (tA.trans (by rw [hb])) h)
  clear lp2 hdrop Bm s1 hi
  cases r with
  | nil =>
   refine go false ?_ rfl
   rcases hw with rfl | ⟨w', rfl⟩ <;> rfl
  | cons d s =>
   by_cases h47 : d = 47
   ·subst h47
    have hs : (pre ++ 60 :: 47 :: s).drop (pre.length + 1 + 1) = s := by
     rw [← List.drop_drop, Bn]; rfl
    have l := lp1 (pre.length + 1 + 1)
    rw [hs] at l
    have e3 : pre.length + 1 + 1 + (s.takeWhile eG).length = pre.length + 1 + (47 :: s.takeWhile eG).length := by rw [List.length_cons]; omega
    rw [e3] at l
    exact go true rfl (aJ (oH rfl rfl rfl) (j5 l rfl))
   ·rw [qE h47]
    refine go false ?_ rfl
    show (Nat.beq d 47 && true) = false
    rw [BT.beq_eq, decide_eq_false h47]; rfl
 ·have g2 : G5.glob .bX = some (.str [32, 10]) := by kernel_rfl
  have tB : cW G5 (.and (.cons (.v .gA) (.cons (.cmp (.ix (.v .af) (.v .ae)) (.cons .isin (.g .bX) .nil)) .nil))) ⟨H, V7 ((pre ++ c :: r) ++ w) (pre ++ c :: r).length ap pre.length mw (pre.length + 1), O⟩ = some (ap && dG c, ⟨H, V7 ((pre ++ c :: r) ++ w) (pre ++ c :: r).length ap pre.length mw (pre.length + 1), O⟩) := by
   refine gn (cY (uc (b := ap) rfl rfl) ?_)
   cases ap with
   | false => rfl
   | true =>
    refine cY (cV (gK (bK rfl) (bK rfl) hi) (eP (ka g2) (dQ (congrArg some (wX c))))) ?_
    show cond (dG c) (some (true, _)) (some (false, _)) = some (dG c, _)
    cases dG c <;> rfl
  have go (b : Bool) (hb : (ap && dG c) = b) {z : Option (Fl × St)} (h : cond b (b0 G5 (.cons (.asg (.v .ej) (.c (.str Ri))) (.cons (.asg (.v .aG) (.call (.g .cb) (.cons (.v .af) (.cons (.v .ae) .nil)))) .nil)) ⟨H, V7 ((pre ++ c :: r) ++ w) (pre ++ c :: r).length ap pre.length mw (pre.length + 1), O⟩) (b0 G5 (.cons (.mW S1 uz) .nil) ⟨H, V7 ((pre ++ c :: r) ++ w) (pre ++ c :: r).length ap pre.length mw (pre.length + 1), O⟩) = z) :
    ex G5 Es ⟨H, V7 ((pre ++ c :: r) ++ w) (pre ++ c :: r).length ap pre.length mw (pre.length + 1), O⟩ = z :=
   gv (b := false) (cV (gK (bK rfl) (bK rfl) hi) (eP rfl ((c1 60).trans (congrArg some (beq_eq_false_iff_ne.mpr hc))))) (iV (tB.trans (by rw [hb])) h)
  cases hb : ap && dG c with
  | true =>
   rw [show bc ap c r = (2, r.takeWhile dG, r.dropWhile dG) by unfold bc; rw [if_neg hc, if_pos hb]]
   have hbc : dG c = true := (Bool.and_eq_true_iff.mp hb).2
   have pr := tP H ((pre ++ c :: r) ++ w) pre.length hl2
   rw [Bm] at pr
   have htw : pre.length + ((c :: (r ++ w)).takeWhile dG).length = pre.length + 1 + (r.takeWhile dG).length := by
    rw [List.takeWhile_cons, hbc]
    have : (r ++ w).takeWhile dG = r.takeWhile dG := by
     rcases hw with rfl | ⟨w', rfl⟩
     ·rw [List.append_nil]
     ·exact (jI (w := w') rfl r).1
    rw [this]
    show _ + (_ + 1) = _
    omega
   rw [htw] at pr
   have g3 : G5.glob .cb = some (.fn .ql) := by kernel_rfl
   exact go true hb (aJ (cg rfl) (aJ (cg (df (ka g3) (aH (bK rfl) (aH (bK rfl) rfl)) (lq pr))) rfl))
  | false =>
   rw [show bc ap c r = (1, r.takeWhile (· != 60), r.dropWhile (· != 60)) by unfold bc; rw [if_neg hc, if_neg (by rw [hb]; exact Bool.false_ne_true)]]
   exact go false hb (j5 lp2 rfl)
end
noncomputable def cS : Nat → List (Int × List Nat) → List AV
 | _, [] => []
 | n, (k, p) :: r => .tup [.int ((n + p.length : Nat) : Int), bh k p] :: cS (n + p.length) r
noncomputable def SW : Sx := (.exp (.aw (.v .aU) .aA (.cons (.tup (.cons (.v .aG) (.cons (.call (.g .aW) (.cons (.v .ej) (.cons (.sl (.v .af) (.v .ae) (.v .aG)) .nil))) .nil))) .nil)))
noncomputable def v8 : cT := (.cons (.asg (.v .ej) (.c (.str mw))) (.cons (.asg (.v .aG) (.bin .add (.v .ae) (.c (.int 1)))) (.cons Es (.cons SW (.cons (.asg (.v .ae) (.v .aG)) .nil)))))
noncomputable def bT : Ex := .cmp (.v .ae) (.cons .lt (.v .a5) .nil)
theorem u5 : nT = (.cons (.asg (.v .aU) (.lst .nil false)) (.cons (.asg (.v .ae) (.c (.int 0))) (.cons (.mW bT v8) (.cons (.ret (.v .aU)) .nil)))) := by kernel_rfl
structure VB (t : List Nat) (e : Nat) (ap : Bool) (p : Nat) (V : List (Nm × AV)) : Prop where
 pl : lk V .ae = some (.int (p : Int))
 en : lk V .a5 = some (.int (e : Int))
 ro : lk V .aU = some (.aQ 0)
 k1 : lk (pt V .ej (.str mw)) .ae = some (.int (p : Int))
 k2 : pt (pt V .ej (.str mw)) .aG (.int ((p + 1 : Nat) : Int)) = V7 t e ap p mw (p + 1)
theorem zY (t : List Nat) (e : Nat) (ap : Bool) : VB t e ap 0 [(.af, .str t), (.a5, .int (e : Int)), (.gA, .bool ap), (.aU, .aQ 0), (.ae, .int 0)] :=
 ⟨rfl, rfl, rfl, rfl, rfl⟩
theorem Ej (t : List Nat) (e : Nat) (ap : Bool) (p : Nat) (kd : List Nat) (s : Nat) : VB t e ap p (V7 t e ap p kd s) := ⟨rfl, rfl, rfl, rfl, rfl⟩
theorem DT (k : Int) (hk : k = 1 ∨ k = 2) (x : List Nat) (H : List AO) : G5.call .fF [.str (kdOf k), .str x] H = some (bh k x, H, [2]) := by
 rcases hk with rfl | rfl <;> kernel_rfl
theorem IZ (ap : Bool) (c : Nat) (r : List Nat) : (bc ap c r).1 = 1 ∨ (bc ap c r).1 = 2 := by
 unfold bc
 split
 ·split
  ·exact .inl rfl
  ·exact .inl rfl
 ·split
  ·exact .inr rfl
  ·exact .inl rfl
section
variable {pre r w : List Nat} {c : Nat} {ap : Bool} {O : List Nat} {acc : List AV} {V : List (Nm × AV)}
theorem Iy (hw : w = [] ∨ ∃ w', w = 60 :: w') (hl : (pre ++ c :: r).length ≤ 300000) (hl2 : ((pre ++ c :: r) ++ w).length ≤ 1000000) (hV : VB ((pre ++ c :: r) ++ w) (pre ++ c :: r).length ap pre.length V) (ha : acc.length ≤ 400000) (hO : Lm O) :
  ∃ O', b0 G5 v8 ⟨[.list acc], V, O⟩ = some (.nx, ⟨[.list (acc ++ [.tup [.int ((pre.length + (c :: (bc ap c r).2.1).length : Nat) : Int), bh (bc ap c r).1 (c :: (bc ap c r).2.1)]])], V7 ((pre ++ c :: r) ++ w) (pre ++ c :: r).length ap (pre.length + (c :: (bc ap c r).2.1).length) (kdOf (bc ap c r).1) (pre.length + (c :: (bc ap c r).2.1).length), O'⟩) ∧ Lm O' := by
 have hI := MI (H := [.list acc]) (pre := pre) (r := r) (c := c) (ap := ap) (O := O) hw hl hl2
 have Bl := kl ap c r
 have hkk := IZ ap c r
 have e2 : pre.length + 1 + (bc ap c r).2.1.length = pre.length + (c :: (bc ap c r).2.1).length := by simp; omega
 rw [e2] at hI
 have hs := lL [.list acc] ((pre ++ c :: r) ++ w) pre.length (pre.length + (c :: (bc ap c r).2.1).length) (by omega)
 have hd : (((pre ++ c :: r) ++ w).drop pre.length).take (pre.length + (c :: (bc ap c r).2.1).length - pre.length) = c :: (bc ap c r).2.1 := by
  have e : (pre ++ c :: r) ++ w = pre ++ ((c :: (bc ap c r).2.1) ++ ((bc ap c r).2.2 ++ w)) := by
   conv => lhs; rw [← Bl]
   simp
  rw [e, List.drop_left, Nat.add_sub_cancel_left, List.take_left]
 rw [hd] at hs
 generalize hS : pre.length + (c :: (bc ap c r).2.1).length = S at *
 generalize c :: (bc ap c r).2.1 = X at *
 generalize (bc ap c r).1 = kk at *
 clear Bl hd
 have g3 : G5.glob .aW = some (.fn .fF) := by kernel_rfl
 have tk := DT kk hkk X [.list acc]
 have st1 : ex G5 (.asg (.v .aG) (.bin .add (.v .ae) (.c (.int 1)))) ⟨[.list acc], pt V .ej (.str mw), O⟩ = some (.nx, ⟨[.list acc], V7 ((pre ++ c :: r) ++ w) (pre ++ c :: r).length ap pre.length mw (pre.length + 1), O⟩) :=
  hV.k2 ▸ cg (eF (os := []) (bK hV.k1) rfl rfl)
 exact ⟨(acc.length + 1) :: 2 :: 2 :: O, aJ (cg rfl) (aJ st1 (aJ hI (aJ (l9 (v := .none) (dE (bK rfl) (lZ fh rfl) (aH (i5 (aH (bK rfl) (aH (df (ka g3) (aH (bK rfl) (aH (ll (bK rfl) (bK rfl) (bK rfl) hs) rfl)) (lq tk)) rfl))) rfl) (lU (os := [acc.length + 1]) rfl rfl)) rfl) (aJ (cg (bK rfl)) rfl)))), .cons (by show _ ≤ 1000000; omega) (.cons (by decide) (.cons (by decide) hO))⟩
end
theorem MH {H : List AO} {t : List Nat} {e p : Nat} {ap : Bool} {V : List (Nm × AV)} {O : List Nat} (hV : VB t e ap p V) {b : Bool} (h : decide ((p : Int) < (e : Int)) = b) : cW G5 bT ⟨H, V, O⟩ = some (b, ⟨H, V, O⟩) :=
 cV (bK hV.pl) (eP (bK hV.en) (dQ (congrArg some h)))
theorem v9 {w : List Nat} {ap : Bool} {l : List Nat} (hw : w = [] ∨ ∃ w', w = 60 :: w') (hl : l.length ≤ 300000) (hl2 : (l ++ w).length ≤ 1000000) :
  ∀ (n : Nat) (s pre : List Nat) (acc : List AV) (V : List (Nm × AV)) (O : List Nat) (fu : Nat), l = pre ++ s → s.length ≤ n → n < fu → VB (l ++ w) l.length ap pre.length V → acc.length + s.length ≤ 400000 → Lm O →
  ∃ V' O', fk fu (cW G5 bT) (b0 G5 v8) ⟨[.list acc], V, O⟩ = some (.nx, ⟨[.list (acc ++ cS pre.length (jB ap n s))], V', O'⟩) ∧ lk V' .aU = some (.aQ 0) ∧ Lm O'
 | _, _, _, _, _, _, 0, _, _, h, _, _, _ => absurd h (Nat.not_lt_zero _)
 | n, [], pre, acc, V, O, fu + 1, e, _, _, hV, _, hO => by
  have hp : jB ap n [] = [] := by cases n <;> rfl
  refine ⟨V, O, ?_, hV.ro, hO⟩
  rw [hp]
  exact (rU (MH hV (decide_eq_false (by rw [e, List.append_nil]; exact Int.lt_irrefl _)))).trans (by rw [cS, List.append_nil])
 | 0, c :: r, _, _, _, _, _ + 1, _, h, _, _, _, _ => absurd h (by simp)
 | n + 1, c :: r, pre, acc, V, O, fu + 1, e, hn, hf, hV, ha, hO => by
  subst e
  rw [List.length_cons] at hn ha
  obtain ⟨O1, e1, hO1⟩ := Iy (O := O) (acc := acc) hw hl hl2 hV (by omega) hO
  have Bl := kl ap c r
  have hlen := congrArg List.length Bl
  rw [List.length_append] at hlen
  have hpl : pre.length + (c :: (bc ap c r).2.1).length = (pre ++ (c :: (bc ap c r).2.1)).length := List.length_append.symm
  have hl' : pre ++ c :: r = (pre ++ (c :: (bc ap c r).2.1)) ++ (bc ap c r).2.2 := by
   rw [List.append_assoc]; exact congrArg (fun x => pre ++ c :: x) Bl.symm
  have hv2 := Ej ((pre ++ c :: r) ++ w) (pre ++ c :: r).length ap (pre.length + (c :: (bc ap c r).2.1).length) (kdOf (bc ap c r).1) (pre.length + (c :: (bc ap c r).2.1).length)
  have ih := v9 hw hl hl2 n (bc ap c r).2.2 (pre ++ (c :: (bc ap c r).2.1)) (acc ++ [.tup [.int ((pre.length + (c :: (bc ap c r).2.1).length : Nat) : Int), bh (bc ap c r).1 (c :: (bc ap c r).2.1)]]) _ O1 fu hl' (by omega) (by omega) (hpl ▸ hv2) (by rw [List.length_append, List.length_singleton]; omega) hO1
  obtain ⟨V', O', e2, h2, hO'⟩ := ih
  refine ⟨V', O', D3 (MH hV (decide_eq_true (by rw [List.length_append, List.length_cons]; omega))) e1 ?_, h2, hO'⟩
  rw [← hpl] at e2
  rw [jB, cS, e2, List.append_assoc]
  rfl
theorem sj {w l : List Nat} (ap : Bool) (hw : w = [] ∨ ∃ w', w = 60 :: w') (hl : l.length ≤ 300000) (hl2 : (l ++ w).length ≤ 1000000) :
  ∃ os, jL G5 qF [.str (l ++ w), .int (l.length : Int), .bool ap] [] = some (.aQ 0, [.list (cS 0 (jB ap l.length l))], os) ∧ Lm os := by
 obtain ⟨V', O', e, h, hO⟩ := v9 (ap := ap) hw hl hl2 l.length l [] [] _ [0] 2000001 rfl (Nat.le_refl _) (by omega) (zY (l ++ w) l.length ap) (by show 0 + _ ≤ _; omega) (.cons (by decide) .nil)
 have e1 : b0 G5 nT ⟨[], [(.af, .str (l ++ w)), (.a5, .int (l.length : Int)), (.gA, .bool ap)], []⟩ = b0 G5 (.cons (.mW bT v8) (.cons (.ret (.v .aU)) .nil)) ⟨[.list []], [(.af, .str (l ++ w)), (.a5, .int (l.length : Int)), (.gA, .bool ap), (.aU, .aQ 0), (.ae, .int 0)], [0]⟩ := by
  rw [u5]; kernel_rfl
 exact ⟨O', j0 rfl (e1.trans (j5 e (iW (bK h)))) rfl, hO⟩
noncomputable def UA : Sx := (.asg (.v .cj) (.call (.g .tp) (.cons (.sl (.v .cM) .no (.c (.int 16))) .nil)))
noncomputable def UB : Sx := (.asg (.v .di) (.bin .mod (.v .cj) (.c (.int 3))))
noncomputable def UC : Sx := (.asg (.v .aK) (.ix (.lst (.cons (.c (.str [98])) (.cons (.c (.str [116,105,116,108,101])) (.cons (.c (.str [])) .nil))) true) (.bin .mod (.bin .fdiv (.v .cj) (.c (.int 3))) (.c (.int 3)))))
noncomputable def UD : Sx := (.iO [(.v .eZ), (.v .dJ), (.v .c8), (.v .f9)] (.ix (.g .dI) (.bin .mod (.bin .fdiv (.v .cj) (.c (.int 9))) (.c (.int 6)))))
noncomputable def UE : Sx := (.asg (.v .gO) (.ix (.call (.g .eW) .nil) (.bin .mod (.bin .fdiv (.v .cj) (.c (.int 54))) (.c (.int 4)))))
noncomputable def UG : Sx := (.asg (.v .af) (.aw (.c (.str [])) .f5 (.cons (.comp [(.vd, .loc), (.b9, .cI)] (.ix (.g .b9) (.bin .mod (.v .vd) (.c (.int 24)))) [.vd] (.sl (.v .cM) .no (.c (.int 16))) .nil) .nil)))
noncomputable def UH : Sx := (.qx .b5 (.comp [(.ae, .loc), (.dm, .cI), (.af, .k8), (.aK, .k8)] (.v .ae) [.ae] (.call (.g .jA) (.cons (.call (.g .bw) (.cons (.v .af) .nil)) .nil)) (.cons (.call (.g .dm) (.cons (.v .af) (.cons (.v .ae) (.cons (.v .aK) .nil)))) .nil)))
noncomputable def D8 : Sx := (.ite (.cmp (.v .di) (.cons .eq (.c (.int 2)) .nil)) (.cons (.asg (.v .aU) (.ite (.v .af) (.lst (.cons (.tup (.cons (.call (.g .bw) (.cons (.v .af) .nil)) (.cons (.call (.g .aW) (.cons (.c (.str [67,104,97,114,97,99,116,101,114,115])) (.cons (.v .af) .nil))) .nil))) .nil) false) (.lst .nil false))) .nil) (.cons (.ite (.not (.v .b5)) (.cons (.asg (.v .aU) (.call (.g .cZ) (.cons (.v .af) (.cons (.call (.g .bw) (.cons (.v .af) .nil)) (.cons (.cmp (.v .di) (.cons .eq (.c (.int 0)) .nil)) .nil))))) .nil) (.cons (.asg (.v .aU) (.call (.g .cZ) (.cons (.v .af) (.cons (.ix (.v .b5) (.c (.int 0))) (.cons (.cmp (.v .di) (.cons .eq (.c (.int 0)) .nil)) .nil))))) (.cons (.asg (.v .ae) (.bin .add (.bin .add (.ix (.v .b5) (.c (.int 0))) (.c (.int 2))) (.call (.g .bw) (.cons (.v .aK) .nil)))) (.cons (.asg (.v .af) (.bin .add (.sl (.v .af) .no (.v .ae)) (.v .eZ))) (.cons (.fr [.dv, .cq] true (.v .dJ) (.cons (.exp (.aw (.v .aU) .aA (.cons (.tup (.cons (.bin .add (.v .ae) (.v .dv)) (.cons (.call (.g .aW) (.cons (.c (.str [80,97,114,115,101,69,114,114,111,114])) (.cons (.v .cq) .nil))) .nil))) .nil))) .nil)) (.cons (.ite (.cmp (.v .c8) (.cons .isn (.c .none) .nil)) (.cons (.asg (.v .ae) (.call (.g .bw) (.cons (.v .af) .nil))) (.cons (.exp (.aw (.v .aU) .aA (.cons (.tup (.cons (.v .ae) (.cons (.cH (.cons .aV (.ix (.g .ah) (.c (.str [69,110,100,84,97,103]))) (.cons .aK (.v .aK) (.cons .ag (.v .c8) (.cons .br (.v .f9) .nil)))) true) .nil))) .nil))) (.cons (.aug (.v .af) .add (.v .gO)) (.cons (.asg (.v .aG) (.call (.g .cb) (.cons (.v .af) (.cons (.v .ae) .nil)))) (.cons (.ite (.cmp (.v .aG) (.cons .gt (.v .ae) .nil)) (.cons (.exp (.aw (.v .aU) .aA (.cons (.tup (.cons (.v .aG) (.cons (.call (.g .aW) (.cons (.c (.str [83,112,97,99,101,67,104,97,114,97,99,116,101,114,115])) (.cons (.sl (.v .af) (.v .ae) (.v .aG)) .nil))) .nil))) .nil))) .nil) .nil) (.cons (.ite (.cmp (.v .aG) (.cons .lt (.call (.g .bw) (.cons (.v .af) .nil)) .nil)) (.cons (.exp (.aw (.v .aU) .aA (.cons (.tup (.cons (.call (.g .bw) (.cons (.v .af) .nil)) (.cons (.call (.g .aW) (.cons (.c (.str [67,104,97,114,97,99,116,101,114,115])) (.cons (.sl (.v .af) (.v .aG) .no) .nil))) .nil))) .nil))) .nil) .nil) .nil)))))) .nil) .nil)))))) .nil))
noncomputable def SQ : Sx := (.asg (.v .aY) (.call (.g .eX) (.cons (.v .af) .nil)))
noncomputable def H7 : Sx := (.asg (.v .aD) (.call (.g .dy) (.cons (.v .af) .nil)))
noncomputable def H8 : Sx := (.ite (.cmp (.v .di) (.cons .eq (.c (.int 0)) .nil)) (.cons (.asg (.at (.v .aD) .aI) (.at (.v .aD) .c6)) .nil) (.cons (.ite (.cmp (.v .di) (.cons .eq (.c (.int 1)) .nil)) (.cons (.asg (.at (.v .aD) .aI) (.at (.v .aD) .cL)) .nil) (.cons (.asg (.at (.v .aD) .aI) (.at (.v .aD) .dS)) .nil)) .nil))
noncomputable def H9 : Sx := (.ite (.cmp (.v .aK) (.cons .ne (.c (.str [])) .nil)) (.cons (.asg (.at (.v .aD) .ay) (.cH (.cons .aV (.ix (.g .ah) (.c (.str [83,116,97,114,116,84,97,103]))) (.cons .aK (.v .aK) (.cons .ag (.lst .nil true) .nil))) false)) .nil) .nil)
noncomputable def Ia : Sx := (.asg (.v .iD) (.lst .nil false))
theorem Jt : mH = (.cons UA (.cons UB (.cons UC (.cons UD (.cons UE (.cons UG (.cons UH (.cons D8 (.cons SQ (.cons H7 (.cons H8 (.cons H9 (.cons Ia .nil))))))))))))) := by kernel_rfl
theorem AS {G : bS} {s : Sx} {r : cT} {σ σ1 : St} (h : ex G s σ = some (.nx, σ1)) : b0 G (.cons s r) σ = b0 G r σ1 := az h rfl
noncomputable def gX (xs : List Int) : AV := .lst (xs.map .int)
theorem ints_map : ∀ xs : List Int, qe (xs.map AV.int) = some xs
 | [] => rfl
 | x :: r => by rw [List.map_cons, qe, ints_map r]; rfl
theorem Ru (H : List AO) (xs : List Int) : zw H (gX xs) .none (.int 16) = some (gX (xs.take 16)) := by
 show some (AV.lst ((xs.map AV.int).take (dn ((16 : Nat) : Int) (xs.map AV.int).length))) = some (AV.lst ((xs.take 16).map AV.int))
 rw [iu, List.map_take]
 congr 2
 by_cases h : 16 ≤ (xs.map AV.int).length
 ·rw [Nat.min_eq_left h]
 ·rw [Nat.min_eq_right (by omega), List.take_length, List.take_of_length_le (by omega)]
theorem BN (H : List AO) {vs : List AV} {m : Int} (h0 : 0 ≤ m) (h1 : m < vs.length) : lW H (.lst vs) (.int m) = some (vs.getD m.toNat .none) := by
 show (idx m vs.length).map _ = _
 obtain ⟨k, rfl⟩ := Int.eq_ofNat_of_zero_le h0
 rw [qQ (by omega)]
 rfl
noncomputable def pieces : List (List Nat) := [[60,47], [60], [62], [47], [32], [10], [98], [66], [116,105], [116,108,101], [84,76,69], [60,47,98,62], [60,47,66,32], [60,47,116,105,116,108,101,62], [60,47,84,105], [120], [49], [33], [45,45], [60,47,120,62], [60,47,116,105,84,76,69,47], [201], [61,34], [60,98,62]]
noncomputable def pieceOf (y : Int) : List Nat := pieces.getD (Int.fmod y 24).toNat []
noncomputable def textOf (xs : List Int) : List Nat := ((xs.take 16).map pieceOf).flatten
noncomputable def names : List (List Nat) := [[98], [116,105,116,108,101], []]
noncomputable def nameOf (T : Int) : List Nat := names.getD (Int.fmod (Int.fdiv T 3) 3).toNat []
noncomputable def k0 : List (List Nat) := [[], [117,32,118], [10,32,119,62], [32]]
noncomputable def jv (T : Int) : List Nat := k0.getD (Int.fmod (Int.fdiv T 54) 4).toNat []
structure Ed where
 tx : List Nat
 fs : List (Int × List Nat)
 ps : AV
 sh : Bool
noncomputable def AM : List Ed := [⟨[62], [], .lst [], false⟩, ⟨[32,62], [], .lst [], false⟩, ⟨[47,62], [(2, [115,101,108,102,45,99,108,111,115,105,110,103,45,102,108,97,103,45,111,110,45,101,110,100,45,116,97,103])], .lst [], true⟩, ⟨[10,107,61,49,62], [(5, [97,116,116,114,105,98,117,116,101,115,45,105,110,45,101,110,100,45,116,97,103])], .lst [.lst [.str [107], .str [49]]], false⟩, ⟨[47,32,62], [(1, [117,110,101,120,112,101,99,116,101,100,45,99,104,97,114,97,99,116,101,114,45,97,102,116,101,114,45,115,111,108,105,100,117,115,45,105,110,45,116,97,103])], .lst [], false⟩, ⟨[32], [(1, [101,120,112,101,99,116,101,100,45,97,116,116,114,105,98,117,116,101,45,110,97,109,101,45,98,117,116,45,103,111,116,45,101,111,102])], .none, false⟩]
noncomputable def kq (T : Int) : Ed := AM.getD (Int.fmod (Int.fdiv T 9) 6).toNat ⟨[], [], .none, false⟩
noncomputable def Ed.av (e : Ed) : AV := .tup [.str e.tx, .lst (e.fs.map fun p => .tup [.int p.1, .str p.2]), e.ps, .bool e.sh]
theorem fm (a : Int) {b : Int} (h : 0 < b) : 0 ≤ Int.fmod a b ∧ Int.fmod a b < b := ⟨Int.fmod_nonneg_of_pos a h, Int.fmod_lt_of_pos a h⟩
theorem getD_map {α β : Type} (f : α → β) : ∀ (l : List α) (i : Nat) (d : α) (d' : β), i < l.length → (l.map f).getD i d' = f (l.getD i d) := fun l i d d' h => by
 simp [List.getD_eq_getElem?_getD, h]
noncomputable abbrev VT (xs : List Int) : List (Nm × AV) := [(.cM, gX xs), (.cj, .int (xs.take 16).sum), (.di, .int (Int.fmod (xs.take 16).sum 3)), (.aK, .str (nameOf (xs.take 16).sum)), (.eZ, .str (kq (xs.take 16).sum).tx), (.dJ, .lst ((kq (xs.take 16).sum).fs.map fun p => .tup [.int p.1, .str p.2])), (.c8, (kq (xs.take 16).sum).ps), (.f9, .bool (kq (xs.take 16).sum).sh), (.gO, .str (jv (xs.take 16).sum))]
section
variable (xs : List Int) (O : List Nat)
theorem l1 : ex G7 UA ⟨[], [(.cM, gX xs)], O⟩ = some (.nx, ⟨[], [(.cM, gX xs), (.cj, .int (xs.take 16).sum)], O⟩) :=
 have g : G7.glob .tp = some (.bi .sum) := by kernel_rfl
 have hs : Ea ([] : List AO) .sum [gX (xs.take 16)] = some (.int (xs.take 16).sum, []) := by
  show (qe _).map _ = _
  rw [ints_map]; rfl
 cg (V1 := [(.cM, gX xs)]) (df (ka g) (aH (ll (bK rfl) (by exact rfl) (by exact rfl) (Ru _ _)) (by exact rfl)) (nJ hs))
theorem l2 {V : List (Nm × AV)} {T : Int} (h : lk V .cj = some (.int T)) : ex G7 UB ⟨[], V, O⟩ = some (.nx, ⟨[], pt V .di (.int (Int.fmod T 3)), O⟩) := cg (eF (os := []) (bK h) rfl rfl)
theorem A2 {V : List (Nm × AV)} {T a b : Int} (h : lk V .cj = some (.int T)) (ha : (decide (0 < a) && decide (a < 100000)) = true) (hb : (decide (0 < b) && decide (b < 100000)) = true) :
  ev G7 (.bin .mod (.bin .fdiv (.v .cj) (.c (.int a))) (.c (.int b))) ⟨[], V, O⟩ = some (.int (Int.fmod (Int.fdiv T a) b), ⟨[], V, O⟩) :=
 eF (os := []) (eF (os := []) (y := .int (Int.fdiv T a)) (bK h) rfl (by show ia _ _ = _; rw [ha]; rfl)) rfl (by show ia _ _ = _; rw [hb]; rfl)
theorem w4 {α : Type} (f : α → AV) (l : List α) (d : α) {a b : Int} (hb : 0 < b) (hl : (l.length : Int) = b) : lW [] (.lst (l.map f)) (.int (Int.fmod a b)) = some (f (l.getD (Int.fmod a b).toNat d)) := by
 obtain ⟨p, q⟩ := fm a hb
 rw [BN [] (vs := l.map f) p (by rw [List.length_map]; omega)]
 exact congrArg some (getD_map f l _ _ _ (by omega))
theorem l3 {V : List (Nm × AV)} {T : Int} (h : lk V .cj = some (.int T)) : ex G7 UC ⟨[], V, O⟩ = some (.nx, ⟨[], pt V .aK (.str (nameOf T)), 3 :: O⟩) :=
 cg (gK (sL (vs := [.str [98], .str [116,105,116,108,101], .str []]) rfl) (A2 _ h rfl rfl) (w4 AV.str names [] (by decide) rfl))
theorem l4 {V : List (Nm × AV)} {T : Int} (h : lk V .cj = some (.int T)) : ex G7 UD ⟨[], V, O⟩ = some (.nx, ⟨[], pt (pt (pt (pt V .eZ (.str (kq T).tx)) .dJ (.lst ((kq T).fs.map fun p => .tup [.int p.1, .str p.2]))) .c8 (kq T).ps) .f9 (.bool (kq T).sh), O⟩) :=
 have g : G7.glob .dI = some (.lst (AM.map Ed.av)) := by kernel_rfl
 oG (gK (ka g) (A2 _ h rfl rfl) (w4 Ed.av AM ⟨[], [], .none, false⟩ (by decide) rfl)) (El (El (El (El rZ))))
theorem l5 {V : List (Nm × AV)} {T : Int} (h : lk V .cj = some (.int T)) : ex G7 UE ⟨[], V, O⟩ = some (.nx, ⟨[], pt V .gO (.str (jv T)), 4 :: O⟩) :=
 have g : G7.glob .eW = some (.fn .ly) := by kernel_rfl
 have hc : G7.call .ly [] [] = some (.lst (k0.map .str), [], [4]) := by kernel_rfl
 cg (gK (df (ka g) rfl (lq hc)) (A2 _ h rfl rfl) (w4 AV.str k0 [] (by decide) rfl))
end
noncomputable def Jb : Ex := (.ix (.g .b9) (.bin .mod (.v .vd) (.c (.int 24))))
theorem Nc {V : List (Nm × AV)} {O : List Nat} {y : Int} (h : lk V .vd = some (.int y)) : ev G7 Jb ⟨[], V, O⟩ = some (.str (pieceOf y), ⟨[], V, O⟩) :=
 have g : G7.glob .b9 = some (.lst (pieces.map .str)) := by kernel_rfl
 gK (ka g) (eF (os := []) (bK h) rfl rfl) (w4 AV.str pieces [] (by decide) rfl)
theorem CV : ∀ (l : List Int) (V : List (Nm × AV)) (O : List Nat), ∃ V', iw (gI [.vd] false) (j7 G7 .nil) (ev G7 Jb) (l.map .int) ⟨[], V, O⟩ = some (l.map fun y => .str (pieceOf y), ⟨[], V', O⟩)
 | [], V, _ => ⟨V, rfl⟩
 | c :: r, V, O => Exists.elim (CV r (pt V .vd (.int c)) O) fun V' h => ⟨V', az (x := ⟨[], pt V .vd (.int c), O⟩) rfl (az (x := (true, ⟨[], pt V .vd (.int c), O⟩)) rfl (az (Nc bR) (az h rfl)))⟩
theorem DJ : ∀ l : List Int, iI (l.map fun y => AV.str (pieceOf y)) = some (l.map pieceOf)
 | [] => rfl
 | c :: r => by
  show (iI _).map _ = _
  rw [DJ r]; rfl
theorem uG {G : bS} {ks : List (Nm × Kd)} {elt it : Ex} {t : List Nm} {cs : dZ} {σ : St} {v : AV} {vs ws : List AV} {H1 H2 : List AO} {V1 V2 : List (Nm × AV)} {O1 O2 : List Nat} {tb : Bool} (ht : isTup t = tb) (h : ev G it σ = some (v, ⟨H1, V1, O1⟩)) (j : BK H1 (pureE elt && u9 cs) v = some vs)
  (l : iw (gI t tb) (j7 G cs) (ev G elt) vs ⟨H1, g7 ks V1, O1⟩ = some (ws, ⟨H2, V2, O2⟩)) : ev G (.comp ks elt t it cs) σ = some (.lst ws, ⟨H2, V1, ws.length :: O2⟩) := by
 subst ht
 exact az h (az j (az l rfl))
theorem l6 (xs : List Int) (O : List Nat) : ex G7 UG ⟨[], VT xs, O⟩ = some (.nx, ⟨[], VT xs ++ [(.af, .str (textOf xs))], (textOf xs).length :: (xs.take 16).length :: O⟩) := by
 have hj : js ([] : List AO) .f5 [] [.lst ((xs.take 16).map fun y => .str (pieceOf y))] = some (.str (textOf xs), [(textOf xs).length]) := by
  show (iI _).map _ = _
  rw [DJ]
  rfl
 obtain ⟨V', h⟩ := CV (xs.take 16) (g7 [(.vd, .loc), (.b9, .cI)] (VT xs)) O
 have er : ev G7 (.sl (.v .cM) .no (.c (.int 16))) ⟨[], VT xs, O⟩ = some (gX (xs.take 16), ⟨[], VT xs, O⟩) := ll (bK rfl) rfl rfl (Ru [] xs)
 have ec := uG (t := [.vd]) (cs := .nil) (ks := [(.vd, .loc), (.b9, .cI)]) (elt := Jb) rfl er rfl h
 rw [List.length_map] at ec
 exact cg (V1 := VT xs) (dE rfl (qn vK) (aH ec rfl) (pW hj))
noncomputable def lF : List Nat → Option (List Nat)
 | [] => none
 | c :: r => some (c :: r)
theorem OU {nm n : List Nat} (h : lF nm = some n) : nm = n := by
 cases nm with
 | nil => cases h
 | cons c r => cases h; rfl
theorem yl (t nm : List Nat) (p : Nat) (hA : Al t) : ∃ os, G7.call .qk [.str t, .int (p : Int), .str nm] [] = some (.bool (fL (lF nm) (t.drop p)), [], os) ∧ ∀ k ∈ os, k ≤ t.length + 10 := by
 cases nm with
 | nil => exact ⟨[], by kernel_rfl, fun _ m => nomatch m⟩
 | cons c r => exact AY [] t (c :: r) p hA (fun z => nomatch z)
noncomputable def mu (nm t : List Nat) : List Nat := (List.range t.length).filter fun p => fL (lF nm) (t.drop p)
noncomputable def Jn : Ex := (.call (.g .dm) (.cons (.v .af) (.cons (.v .ae) (.cons (.v .aK) .nil))))
noncomputable abbrev tL (l : List Nat) : List AV := l.map fun i : Nat => .int (i : Int)
theorem AW (t nm : List Nat) (hA : Al t) (hl : t.length ≤ 300000) : ∀ (ps : List Nat) (V : List (Nm × AV)) (O : List Nat), lk V .af = some (.str t) → lk V .aK = some (.str nm) → Lm O →
  ∃ V' O', iw (gI [.ae] false) (j7 G7 (.cons Jn .nil)) (ev G7 (.v .ae)) (tL ps) ⟨[], V, O⟩ = some (tL (ps.filter fun p => fL (lF nm) (t.drop p)), ⟨[], V', O'⟩) ∧ Lm O'
 | [], V, O, _, _, hO => ⟨V, O, rfl, hO⟩
 | p :: ps, V, O, h1, h2, hO => by
  obtain ⟨os, hc, hos⟩ := yl t nm p hA
  have k1 : lk (pt V .ae (.int (p : Int))) .af = some (.str t) := (ck (by decide)).trans h1
  have k2 : lk (pt V .ae (.int (p : Int))) .aK = some (.str nm) := (ck (by decide)).trans h2
  have k3 : lk (pt V .ae (.int (p : Int))) .ae = some (.int (p : Int)) := bR
  have g : G7.glob .dm = some (.fn .qk) := by kernel_rfl
  obtain ⟨V', O', e, hO'⟩ := AW t nm hA hl ps (pt V .ae (.int (p : Int))) (os ++ O) k1 k2 (Lm.app (fun k m => by have := hos k m; show k ≤ 1000000; omega) hO)
  have a1 : gI [.ae] false (.int (p : Int)) ⟨[], V, O⟩ = some ⟨[], pt V .ae (.int (p : Int)), O⟩ := rfl
  generalize pt V .ae (.int (p : Int)) = W at k1 k2 k3 e a1
  have ht : cW G7 Jn ⟨[], W, O⟩ = some (fL (lF nm) (t.drop p), ⟨[], W, os ++ O⟩) := kZ (ka g) (aH (bK k1) (aH (bK k3) (aH (bK k2) rfl))) (lq hc) rfl
  refine ⟨V', O', ?_, hO'⟩
  rw [List.filter_cons]
  cases hf : fL (lF nm) (t.drop p) with
  | false =>
   rw [hf] at ht
   exact az a1 (az (x := (false, ⟨[], W, os ++ O⟩)) (az ht rfl) e)
  | true =>
   rw [hf] at ht
   exact az a1 (az (x := (true, ⟨[], W, os ++ O⟩)) (az ht rfl) (az (bK k3) (az e rfl)))
noncomputable abbrev VU (xs : List Int) : List (Nm × AV) := VT xs ++ [(.af, .str (textOf xs)), (.b5, .lst (tL (mu (nameOf (xs.take 16).sum) (textOf xs))))]
theorem l7 (xs : List Int) (O : List Nat) (hA : Al (textOf xs)) (hl : (textOf xs).length ≤ 300000) (hO : Lm O) : ∃ O', ex G7 UH ⟨[], VT xs ++ [(.af, .str (textOf xs))], O⟩ = some (.nx, ⟨[], VU xs, O'⟩) ∧ Lm O' := by
 obtain ⟨V', O', e, hO'⟩ := AW (textOf xs) (nameOf (xs.take 16).sum) hA hl (List.range (textOf xs).length) [(.aK, .str (nameOf (xs.take 16).sum)), (.af, .str (textOf xs))] ((textOf xs).length :: O) rfl rfl (.cons (by show _ ≤ 1000000; omega) hO)
 have hR : (tL (mu (nameOf (xs.take 16).sum) (textOf xs))).length ≤ 300000 := by
  have := List.length_filter_le (fun p => fL (lF (nameOf (xs.take 16).sum)) ((textOf xs).drop p)) (List.range (textOf xs).length)
  rw [List.length_range] at this
  rw [List.length_map]
  exact Nat.le_trans this hl
 have g1 : G7.glob .bw = some (.bi .len) := by kernel_rfl
 have g2 : G7.glob .jA = some (.bi .range) := by kernel_rfl
 have hr : Ea ([] : List AO) .range [.int ((textOf xs).length : Int)] = some (.pD (textOf xs).length, [(textOf xs).length]) := by
  show ia (decide ((0 : Int) ≤ ((textOf xs).length : Int))) (AV.pD ((textOf xs).length : Int).toNat, [((textOf xs).length : Int).toNat]) = _
  rw [decide_eq_true (Int.natCast_nonneg _)]
  rfl
 have er : ev G7 (.call (.g .jA) (.cons (.call (.g .bw) (.cons (.v .af) .nil)) .nil)) ⟨[], VT xs ++ [(.af, .str (textOf xs))], O⟩ = some (.pD (textOf xs).length, ⟨[], VT xs ++ [(.af, .str (textOf xs))], (textOf xs).length :: O⟩) :=
  df (ka g2) (aH (df (ka g1) (aH (bK rfl) rfl) (nJ (y := .int ((textOf xs).length : Int)) (os := []) rfl)) rfl) (nJ hr)
 have hk : [(Nm.aK, AV.str (nameOf (xs.take 16).sum)), (.af, .str (textOf xs))] = g7 [(.ae, .loc), (.dm, .cI), (.af, .k8), (.aK, .k8)] (VT xs ++ [(.af, .str (textOf xs))]) := by kernel_rfl
 rw [hk] at e
 have ec := uG (t := [.ae]) (cs := .cons Jn .nil) (elt := .v .ae) rfl er rfl e
 exact ⟨_, rE ec, .cons (Nat.le_trans hR (by decide)) hO'⟩
noncomputable def Vg : Sx := (.asg (.v .aU) (.ite (.v .af) (.lst (.cons (.tup (.cons (.call (.g .bw) (.cons (.v .af) .nil)) (.cons (.call (.g .aW) (.cons (.c (.str [67,104,97,114,97,99,116,101,114,115])) (.cons (.v .af) .nil))) .nil))) .nil) false) (.lst .nil false)))
noncomputable def Vf : Sx := (.asg (.v .aU) (.call (.g .cZ) (.cons (.v .af) (.cons (.call (.g .bw) (.cons (.v .af) .nil)) (.cons (.cmp (.v .di) (.cons .eq (.c (.int 0)) .nil)) .nil)))))
noncomputable def UW : Sx := (.asg (.v .ae) (.call (.g .bw) (.cons (.v .af) .nil)))
noncomputable def UX : Sx := (.exp (.aw (.v .aU) .aA (.cons (.tup (.cons (.v .ae) (.cons (.cH (.cons .aV (.ix (.g .ah) (.c (.str [69,110,100,84,97,103]))) (.cons .aK (.v .aK) (.cons .ag (.v .c8) (.cons .br (.v .f9) .nil)))) true) .nil))) .nil)))
noncomputable def UY : Sx := (.aug (.v .af) .add (.v .gO))
noncomputable def UZ : Sx := (.asg (.v .aG) (.call (.g .cb) (.cons (.v .af) (.cons (.v .ae) .nil))))
noncomputable def Vu : Sx := (.ite (.cmp (.v .aG) (.cons .gt (.v .ae) .nil)) (.cons (.exp (.aw (.v .aU) .aA (.cons (.tup (.cons (.v .aG) (.cons (.call (.g .aW) (.cons (.c (.str [83,112,97,99,101,67,104,97,114,97,99,116,101,114,115])) (.cons (.sl (.v .af) (.v .ae) (.v .aG)) .nil))) .nil))) .nil))) .nil) .nil)
noncomputable def Vv : Sx := (.ite (.cmp (.v .aG) (.cons .lt (.call (.g .bw) (.cons (.v .af) .nil)) .nil)) (.cons (.exp (.aw (.v .aU) .aA (.cons (.tup (.cons (.call (.g .bw) (.cons (.v .af) .nil)) (.cons (.call (.g .aW) (.cons (.c (.str [67,104,97,114,97,99,116,101,114,115])) (.cons (.sl (.v .af) (.v .aG) .no) .nil))) .nil))) .nil))) .nil) .nil)
noncomputable def US : Sx := (.asg (.v .aU) (.call (.g .cZ) (.cons (.v .af) (.cons (.ix (.v .b5) (.c (.int 0))) (.cons (.cmp (.v .di) (.cons .eq (.c (.int 0)) .nil)) .nil)))))
noncomputable def UT : Sx := (.asg (.v .ae) (.bin .add (.bin .add (.ix (.v .b5) (.c (.int 0))) (.c (.int 2))) (.call (.g .bw) (.cons (.v .aK) .nil))))
noncomputable def UU : Sx := (.asg (.v .af) (.bin .add (.sl (.v .af) .no (.v .ae)) (.v .eZ)))
noncomputable def Tj : Sx := (.fr [.dv, .cq] true (.v .dJ) (.cons (.exp (.aw (.v .aU) .aA (.cons (.tup (.cons (.bin .add (.v .ae) (.v .dv)) (.cons (.call (.g .aW) (.cons (.c (.str [80,97,114,115,101,69,114,114,111,114])) (.cons (.v .cq) .nil))) .nil))) .nil))) .nil))
noncomputable def Sq : Sx := (.ite (.cmp (.v .c8) (.cons .isn (.c .none) .nil)) (.cons UW (.cons UX (.cons UY (.cons UZ (.cons Vu (.cons Vv .nil)))))) .nil)
noncomputable def SP : Sx := (.ite (.not (.v .b5)) (.cons Vf .nil) (.cons US (.cons UT (.cons UU (.cons Tj (.cons Sq .nil))))))
theorem um : D8 = (.ite (.cmp (.v .di) (.cons .eq (.c (.int 2)) .nil)) (.cons Vg .nil) (.cons SP .nil)) := by kernel_rfl
noncomputable def Tn : cT := (.cons (.exp (.aw (.v .aU) .aA (.cons (.tup (.cons (.bin .add (.v .ae) (.v .dv)) (.cons (.call (.g .aW) (.cons (.c (.str [80,97,114,115,101,69,114,114,111,114])) (.cons (.v .cq) .nil))) .nil))) .nil))) .nil)
theorem Jj : Tj = (.fr [.dv, .cq] true (.v .dJ) Tn) := by kernel_rfl
structure RW (wy : Int) (nm t : List Nat) (rows : List AV) (σ : St) : Prop where
 h : σ.H = [.list rows]
 tx : lk σ.V .af = some (.str t)
 wy : lk σ.V .di = some (.int wy)
 nm : lk σ.V .aK = some (.str nm)
 ro : lk σ.V .aU = some (.aQ 0)
 lm : Lm σ.O
noncomputable abbrev VX (sc : AV) (T wy : Int) (nm : List Nat) (e : Ed) (tl t ft : List Nat) : List (Nm × AV) := [(.cM, sc), (.cj, .int T), (.di, .int wy), (.aK, .str nm), (.eZ, .str e.tx), (.dJ, .lst (e.fs.map fun p => .tup [.int p.1, .str p.2])), (.c8, e.ps), (.f9, .bool e.sh), (.gO, .str tl), (.af, .str t), (.b5, .lst (tL ft))]
section
variable {O : List Nat} {V : List (Nm × AV)} {H : List AO} {wy : Int} {nm t : List Nat}
theorem mj (h : lk V .di = some (.int wy)) (n : Int) : cW G7 (.cmp (.v .di) (.cons .eq (.c (.int n)) .nil)) ⟨H, V, O⟩ = some (wy == n, ⟨H, V, O⟩) := cV (bK h) (eP rfl rfl)
theorem A5 : G7.glob .bw = some (.bi .len) := by kernel_rfl
theorem A6 : G7.glob .aW = some (.fn .fF) := by kernel_rfl
theorem wN : G7.glob .cZ = some (.fn .tF) := by kernel_rfl
theorem lC (h : lk V .af = some (.str t)) : ev G7 (.call (.g .bw) (.cons (.v .af) .nil)) ⟨H, V, O⟩ = some (.int (t.length : Int), ⟨H, V, O⟩) := df (ka A5) (aH (bK h) rfl) (nJ (os := []) rfl)
theorem rF {rows : List AV} (k1 : lk V .af = some (.str t)) (k2 : lk V .di = some (.int wy)) (k3 : lk V .aK = some (.str nm)) (hO : Lm O) : RW wy nm t rows ⟨[.list rows], pt V .aU (.aQ 0), O⟩ :=
 ⟨rfl, (ck (by decide)).trans k1, (ck (by decide)).trans k2, (ck (by decide)).trans k3, bR, hO⟩
theorem TR (k1 : lk V .af = some (.str t)) (k2 : lk V .di = some (.int wy)) (k3 : lk V .aK = some (.str nm)) (hO : Lm O) (hw : (wy == 2) = true) : ∃ σ, ex G7 D8 ⟨[], V, O⟩ = some (.nx, σ) ∧ RW wy nm t (cS 0 (tQ t)) σ := by
 have go {σ : St} (h : ex G7 Vg ⟨[], V, O⟩ = some (.nx, σ)) : ex G7 D8 ⟨[], V, O⟩ = some (.nx, σ) := by
  rw [um]
  exact gv (b := true) ((mj k2 2).trans (by rw [hw])) (aJ h rfl)
 cases t with
 | nil => exact ⟨_, go (cg (nv (b := false) (uc k1 rfl) (sJ rfl))), rF k1 k2 k3 (.cons (by decide) hO)⟩
 | cons c r =>
  have hc : ∀ H, G7.call .fF [.str mw, .str (c :: r)] H = some (bh 1 (c :: r), H, [2]) := fun H => by kernel_rfl
  refine ⟨_, go (cg (nv (b := true) (uc k1 rfl) (sJ (aH (i5 (aH (lC k1) (aH (df (ka A6) (aH rfl (aH (bK k1) rfl)) (lq (hc _))) rfl))) rfl)))), ?_⟩
  have e : cS 0 (tQ (c :: r)) = [.tup [.int ((c :: r).length : Int), bh 1 (c :: r)]] := by
   show [AV.tup [.int ((0 + (c :: r).length : Nat) : Int), bh 1 (c :: r)]] = _
   rw [Nat.zero_add]
  rw [e]
  exact rF k1 k2 k3 (.cons (show 1 ≤ dD by decide) (.cons (show 2 ≤ dD by decide) (.cons (by decide) hO)))
theorem TQ (hl : t.length ≤ 300000) (k1 : lk V .af = some (.str t)) (k2 : lk V .di = some (.int wy)) (k3 : lk V .aK = some (.str nm)) (k4 : lk V .b5 = some (.lst [])) (hO : Lm O) (hw : (wy == 2) = false) :
  ∃ σ, ex G7 D8 ⟨[], V, O⟩ = some (.nx, σ) ∧ RW wy nm t (cS 0 (jB (wy == 0) t.length t)) σ := by
 obtain ⟨os, hb, hos⟩ := sj (l := t) (w := []) (wy == 0) (.inl rfl) hl (by rw [List.append_nil]; omega)
 rw [List.append_nil] at hb
 have w : ex G7 Vf ⟨[], V, O⟩ = some (.nx, ⟨[.list (cS 0 (jB (wy == 0) t.length t))], pt V .aU (.aQ 0), os ++ O⟩) :=
  cg (df (ka wN) (aH (bK k1) (aH (lC k1) (aH (jk (bK k2) (eP rfl rfl)) rfl))) (lq hb))
 refine ⟨_, ?_, rF k1 k2 k3 (hos.app hO)⟩
 rw [um]
 exact gv (b := false) ((mj k2 2).trans (by rw [hw])) (aJ (gv (b := true) (lI (b := false) (uc k4 rfl)) (aJ w rfl)) rfl)
end
noncomputable def Ls (x : List Nat) (pe de : Ex) : Sx := (.exp (.aw (.v .aU) .aA (.cons (.tup (.cons pe (.cons (.call (.g .aW) (.cons (.c (.str x)) (.cons de .nil))) .nil))) .nil)))
theorem ue {x : List Nat} {pe de : Ex} {acc : List AV} {V : List (Nm × AV)} {O : List Nat} {n : Int} {kd : Int} {d : List Nat} (hr : lk V .aU = some (.aQ 0)) (hp : ev G7 pe ⟨[.list acc], V, O⟩ = some (.int n, ⟨[.list acc], V, O⟩)) (hd : ev G7 de ⟨[.list acc], V, O⟩ = some (.str d, ⟨[.list acc], V, O⟩))
  (hc : ∀ H, G7.call .fF [.str x, .str d] H = some (bh kd d, H, [2])) : ex G7 (Ls x pe de) ⟨[.list acc], V, O⟩ = some (.nx, ⟨[.list (acc ++ [.tup [.int n, bh kd d]])], V, (acc.length + 1) :: 2 :: 2 :: O⟩) :=
 l9 (v := .none) (dE (bK hr) (lZ fh rfl) (aH (i5 (aH hp (aH (df (ka A6) (aH rfl (aH hd rfl)) (lq (hc _))) rfl))) rfl) (lU (os := [acc.length + 1]) rfl rfl)) rfl
noncomputable def Vd : List Nat := [80,97,114,115,101,69,114,114,111,114]
theorem RA (d : List Nat) : ∀ H, G7.call .fF [.str Vd, .str d] H = some (bh 7 d, H, [2]) := fun H => by kernel_rfl
theorem RB (d : List Nat) : ∀ H, G7.call .fF [.str Ri, .str d] H = some (bh 2 d, H, [2]) := fun H => by kernel_rfl
theorem Rz (d : List Nat) : ∀ H, G7.call .fF [.str mw, .str d] H = some (bh 1 d, H, [2]) := fun H => by kernel_rfl
noncomputable def qJ (nm : List Nat) (ps : AV) (sh : Bool) : AV := .cH [(.aV, .int 4), (.aK, .str nm), (.ag, ps), (.br, .bool sh)]
theorem U6 {n : Nat} {O : List Nat} (h : n ≤ 500000) (hO : Lm O) : Lm ((n + 1) :: 2 :: 2 :: O) := .cons (by show _ ≤ 1000000; omega) (.cons (by decide) (.cons (by decide) hO))
noncomputable abbrev Jl (fs : List (Int × List Nat)) : AV := .lst (fs.map fun p => .tup [.int p.1, .str p.2])
noncomputable abbrev nK (pl : Int) (fs : List (Int × List Nat)) : List AV := fs.map fun p => .tup [.int (pl + p.1), bh 7 p.2]
section
variable {acc : List AV} {V : List (Nm × AV)} {O : List Nat}
theorem Jf {fs : List (Int × List Nat)} {pl : Int} (k1 : lk V .ae = some (.int pl)) (k2 : lk V .aU = some (.aQ 0)) (k3 : lk V .dJ = some (Jl fs))
  (hf : fs = [] ∨ ∃ p, fs = [p]) (ha : acc.length ≤ 400000) (hO : Lm O) :
  ∃ V' O', ex G7 Tj ⟨[.list acc], V, O⟩ = some (.nx, ⟨[.list (acc ++ nK pl fs)], V', O'⟩) ∧ (∀ x, x ≠ .dv → x ≠ .cq → lk V' x = lk V x) ∧ Lm O' := by
 rw [Jj]
 rcases hf with rfl | ⟨⟨k, s⟩, rfl⟩
 ·refine ⟨V, O, ?_, fun _ _ _ => rfl, hO⟩
  rw [show acc ++ nK pl [] = acc from List.append_nil _]
  exact vC (bK k3) rfl rfl
 ·refine ⟨pt (pt V .dv (.int k)) .cq (.str s), (acc.length + 1) :: 2 :: 2 :: O, ?_, fun x h1 h2 => (ck fun z => h2 z.symm).trans (ck fun z => h1 z.symm), U6 (by omega) hO⟩
  have j1 : lk (pt (pt V .dv (.int k)) .cq (.str s)) .dv = some (.int k) := (ck (by decide)).trans bR
  have j2 : lk (pt (pt V .dv (.int k)) .cq (.str s)) .cq = some (.str s) := bR
  have j3 : lk (pt (pt V .dv (.int k)) .cq (.str s)) .ae = some (.int pl) := (ck (by decide)).trans ((ck (by decide)).trans k1)
  have j4 : lk (pt (pt V .dv (.int k)) .cq (.str s)) .aU = some (.aQ 0) := (ck (by decide)).trans ((ck (by decide)).trans k2)
  have e : ex G7 (Ls Vd (.bin .add (.v .ae) (.v .dv)) (.v .cq)) ⟨[.list acc], pt (pt V .dv (.int k)) .cq (.str s), O⟩ = _ := ue j4 (eF (os := []) (bK j3) (bK j1) rfl) (bK j2) (RA s)
  exact vC (bK k3) rfl (qL (σ1 := ⟨[.list acc], pt (pt V .dv (.int k)) .cq (.str s), O⟩) rfl (aJ e rfl) rfl)
theorem E6 (h : lk V .c8 = some .none) : ex G7 Sq ⟨[.list acc], V, O⟩ = some (.nx, ⟨[.list acc], V, O⟩) := gv (b := false) (cV (bK h) (eP rfl rfl)) rfl
noncomputable def rA (k : Int) : List Nat → List (Int × List Nat)
 | [] => []
 | c :: r => [(k, c :: r)]
theorem GV (l : List Nat) : oY l = rA 2 (l.takeWhile dG) ++ rA 1 (l.dropWhile dG) := by
 unfold oY
 cases l.takeWhile dG <;> cases l.dropWhile dG <;> rfl
theorem Ds (n : Nat) (q : List Nat) (k : Int) (r : List (Int × List Nat)) : cS n (rA k q ++ r) = cS n (rA k q) ++ cS (n + q.length) r := by
 cases q <;> rfl
theorem xo {T pe de : Ex} {n : Nat} {k : Int} {x q : List Nat} (hr : lk V .aU = some (.aQ 0)) (ht : ∀ O, cW G7 T ⟨[.list acc], V, O⟩ = some (decide (0 < q.length), ⟨[.list acc], V, O⟩)) (hp : ∀ O, ev G7 pe ⟨[.list acc], V, O⟩ = some (.int ((n + q.length : Nat) : Int), ⟨[.list acc], V, O⟩)) (hd : ∀ O, ev G7 de ⟨[.list acc], V, O⟩ = some (.str q, ⟨[.list acc], V, O⟩))
  (hc : ∀ d H, G7.call .fF [.str x, .str d] H = some (bh k d, H, [2])) (ha : acc.length ≤ 500000) (hO : Lm O) : ∃ O', ex G7 (.ite T (.cons (Ls x pe de) .nil) .nil) ⟨[.list acc], V, O⟩ = some (.nx, ⟨[.list (acc ++ cS n (rA k q))], V, O'⟩) ∧ Lm O' := by
 cases q with
 | nil =>
  refine ⟨O, ?_, hO⟩
  rw [show acc ++ cS n (rA k []) = acc from List.append_nil _]
  exact gv (b := false) (ht O) rfl
 | cons c r => exact ⟨_, gv (b := true) (ht O) (aJ (ue hr (hp O) (hd O) (hc _)) rfl), U6 ha hO⟩
theorem Jg {t2 tl nm : List Nat} {q : List AV} {sh : Bool} (k1 : lk V .af = some (.str t2)) (k2 : lk V .aU = some (.aQ 0)) (k3 : lk V .aK = some (.str nm)) (k4 : lk V .c8 = some (.lst q)) (k5 : lk V .f9 = some (.bool sh)) (k6 : lk V .gO = some (.str tl))
  (ha : acc.length ≤ 400000) (hl : (t2 ++ tl).length ≤ 300000) (hO : Lm O) :
  ∃ V' O', ex G7 Sq ⟨[.list acc], V, O⟩ = some (.nx, ⟨[.list (acc ++ .tup [.int (t2.length : Int), qJ nm (.lst q) sh] :: cS t2.length (oY tl))], V', O'⟩) ∧ lk V' .af = some (.str (t2 ++ tl)) ∧ (∀ x, x ≠ .ae → x ≠ .af → x ≠ .aG → lk V' x = lk V x) ∧ Lm O' := by
 have g2 : G7.glob .cb = some (.fn .ql) := by kernel_rfl
 have g3 : G7.glob .ah = some RC := by kernel_rfl
 have s1 : ex G7 UW ⟨[.list acc], V, O⟩ = some (.nx, ⟨[.list acc], pt V .ae (.int (t2.length : Int)), O⟩) := cg (lC k1)
 have n1 {x : Nm} (h : x ≠ .ae) : lk (pt V .ae (.int (t2.length : Int))) x = lk V x := ck fun z => h z.symm
 have p1 : lk (pt V .ae (.int (t2.length : Int))) .ae = some (.int (t2.length : Int)) := bR
 generalize pt V .ae (.int (t2.length : Int)) = V1 at s1 n1 p1
 have s2 : ex G7 UX ⟨[.list acc], V1, O⟩ = some (.nx, ⟨[.list (acc ++ [.tup [.int (t2.length : Int), qJ nm (.lst q) sh]])], V1, (acc.length + 1) :: 2 :: 4 :: O⟩) :=
  l9 (v := .none) (dE (bK ((n1 (by decide)).trans k2)) (lZ fh rfl) (aH (i5 (aH (bK p1) (aH
   (show ev G7 (.cH (.cons .aV (.ix (.g .ah) (.c (.str [69,110,100,84,97,103]))) (.cons .aK (.v .aK) (.cons .ag (.v .c8) (.cons .br (.v .f9) .nil)))) true) ⟨[.list acc], V1, O⟩ = some (qJ nm (.lst q) sh, ⟨[.list acc], V1, 4 :: O⟩) from
    az (x := ([(.aV, .int 4), (.aK, .str nm), (.ag, .lst q), (.br, .bool sh)], ⟨[.list acc], V1, O⟩)) (az (gK (r := .int 4) (ka g3) rfl (by kernel_rfl)) (az (az (bK ((n1 (by decide)).trans k3)) (az (az (bK ((n1 (by decide)).trans k4)) (az (az (bK ((n1 (by decide)).trans k5)) (az (x := ([], ⟨[.list acc], V1, O⟩)) rfl rfl)) rfl)) rfl)) rfl)) rfl) rfl))) rfl) (lU (os := [acc.length + 1]) rfl rfl)) rfl
 have hO2 : Lm ((acc.length + 1) :: 2 :: 4 :: O) := .cons (by show _ ≤ 1000000; omega) (.cons (by decide) (.cons (by decide) hO))
 have eac (z : List AV) : acc ++ AV.tup [.int (t2.length : Int), qJ nm (.lst q) sh] :: z = (acc ++ [AV.tup [.int (t2.length : Int), qJ nm (.lst q) sh]]) ++ z := by rw [List.append_assoc]; rfl
 rw [eac]
 have hal : (acc ++ [AV.tup [.int (t2.length : Int), qJ nm (.lst q) sh]]).length ≤ 400001 := by rw [List.length_append, List.length_singleton]; omega
 generalize acc ++ [AV.tup [.int (t2.length : Int), qJ nm (.lst q) sh]] = acc2 at s2 hal
 generalize (acc.length + 1) :: 2 :: 4 :: O = O2 at s2 hO2
 clear eac
 have s3 : ex G7 UY ⟨[.list acc2], V1, O2⟩ = some (.nx, ⟨[.list acc2], pt V1 .af (.str (t2 ++ tl)), [t2.length + tl.length] ++ O2⟩) := oH ((n1 (by decide)).trans k1) (bK ((n1 (by decide)).trans k6)) rfl
 have n2 {x : Nm} (h : x ≠ .ae) (h' : x ≠ .af) : lk (pt V1 .af (.str (t2 ++ tl))) x = lk V x := (ck fun z => h' z.symm).trans (n1 h)
 have p2 : lk (pt V1 .af (.str (t2 ++ tl))) .ae = some (.int (t2.length : Int)) := (ck (by decide)).trans p1
 have q2 : lk (pt V1 .af (.str (t2 ++ tl))) .af = some (.str (t2 ++ tl)) := bR
 generalize pt V1 .af (.str (t2 ++ tl)) = V2 at s3 n2 p2 q2
 have hO3 : Lm ([t2.length + tl.length] ++ O2) := .cons (by rw [List.length_append] at hl; show _ ≤ 1000000; omega) hO2
 generalize [t2.length + tl.length] ++ O2 = O3 at s3 hO3
 have Bq := tP [.list acc2] (t2 ++ tl) t2.length (by omega)
 rw [List.drop_left] at Bq
 have s4 : ex G7 UZ ⟨[.list acc2], V2, O3⟩ = some (.nx, ⟨[.list acc2], pt V2 .aG (.int ((t2.length + (tl.takeWhile dG).length : Nat) : Int)), O3⟩) := cg (df (ka g2) (aH (bK q2) (aH (bK p2) rfl)) (lq (O' := []) Bq))
 have n3 {x : Nm} (h : x ≠ .ae) (h' : x ≠ .af) (h'' : x ≠ .aG) : lk (pt V2 .aG (.int ((t2.length + (tl.takeWhile dG).length : Nat) : Int))) x = lk V x := (ck fun z => h'' z.symm).trans (n2 h h')
 have kP : lk (pt V2 .aG (.int ((t2.length + (tl.takeWhile dG).length : Nat) : Int))) .ae = some (.int (t2.length : Int)) := (ck (by decide)).trans p2
 have kT : lk (pt V2 .aG (.int ((t2.length + (tl.takeWhile dG).length : Nat) : Int))) .af = some (.str (t2 ++ tl)) := (ck (by decide)).trans q2
 have kS : lk (pt V2 .aG (.int ((t2.length + (tl.takeWhile dG).length : Nat) : Int))) .aG = some (.int ((t2.length + (tl.takeWhile dG).length : Nat) : Int)) := bR
 have kR := (n3 (x := .aU) (by decide) (by decide) (by decide)).trans k2
 generalize pt V2 .aG (.int ((t2.length + (tl.takeWhile dG).length : Nat) : Int)) = V3 at s4 n3 kP kT kS kR
 clear n1 n2 p1 p2 q2 k1 k2 k3 k5 k6 Bq
 have htd := List.takeWhile_append_dropWhile (p := dG) (l := tl)
 have hle := j8 dG tl
 rw [GV, Ds]
 have sl5 : ∀ H, zw H (.str (t2 ++ tl)) (.int (t2.length : Int)) (.int ((t2.length + (tl.takeWhile dG).length : Nat) : Int)) = some (.str (tl.takeWhile dG)) := fun H => by
  rw [lL H _ _ _ (by omega), List.drop_left, Nat.add_sub_cancel_left]
  exact congrArg (fun l => some (AV.str l)) ((congrArg (List.take _) htd.symm).trans List.take_left)
 have sl6 : ∀ H, zw H (.str (t2 ++ tl)) (.int ((t2.length + (tl.takeWhile dG).length : Nat) : Int)) .none = some (.str (tl.dropWhile dG)) := fun H => by
  rw [D5 H, ← List.drop_drop, List.drop_left]
  exact congrArg (fun l => some (AV.str l)) ((congrArg (List.drop _) htd.symm).trans List.drop_left)
 have hld : (t2 ++ tl).length = t2.length + (tl.takeWhile dG).length + (tl.dropWhile dG).length := by rw [List.length_append, ← congrArg List.length htd, List.length_append, Nat.add_assoc]
 generalize tl.takeWhile dG = u at *
 generalize tl.dropWhile dG = v at *
 have dd {a b : Int} {n : Nat} (h : a + n = b) : decide (a < b) = decide (0 < n) := by rw [decide_eq_decide]; omega
 obtain ⟨O4, s5, hO4⟩ := xo (acc := acc2) (V := V3) (O := O3) (n := t2.length) (k := 2) (x := Ri) (q := u) (T := .cmp (.v .aG) (.cons .gt (.v .ae) .nil)) (pe := .v .aG) (de := .sl (.v .af) (.v .ae) (.v .aG)) kR
  (fun O => cV (bK kS) (eP (bK kP) (dQ (congrArg some (dd (Int.natCast_add _ _).symm))))) (fun O => bK kS) (fun O => ll (bK kT) (bK kP) (bK kS) (sl5 _)) RB (by omega) hO3
 have hl5 : (acc2 ++ cS t2.length (rA 2 u)).length ≤ 500000 := by
  rw [List.length_append]
  have : (cS t2.length (rA 2 u)).length ≤ 1 := by cases u <;> first | exact Nat.zero_le _ | exact Nat.le_refl _
  omega
 rw [← List.append_assoc]
 generalize acc2 ++ cS t2.length (rA 2 u) = acc3 at s5 hl5
 obtain ⟨O5, s6, hO5⟩ := xo (acc := acc3) (V := V3) (O := O4) (n := t2.length + u.length) (k := 1) (x := mw) (q := v) (T := .cmp (.v .aG) (.cons .lt (.call (.g .bw) (.cons (.v .af) .nil)) .nil)) (pe := .call (.g .bw) (.cons (.v .af) .nil)) (de := .sl (.v .af) (.v .aG) .no) kR
  (fun O => cV (bK kS) (eP (lC kT) (dQ (congrArg some (dd (by omega)))))) (fun O => hld ▸ lC kT) (fun O => ll (bK kT) (bK kS) rfl (sl6 _)) Rz hl5 hO4
 exact ⟨V3, O5, gv (b := true) (cV (bK k4) (eP rfl rfl)) (aJ s1 (aJ s2 (aJ s3 (aJ s4 (aJ s5 (aJ s6 rfl)))))), kT, fun x => n3, hO5⟩
end
noncomputable def oR (t nm : List Nat) (f : Nat) (e : Ed) : List Nat := t.take (f + 2 + nm.length) ++ e.tx
noncomputable def oV (t nm : List Nat) (f : Nat) (e : Ed) (tl : List Nat) : List Nat := match e.ps with
 | .lst _ => oR t nm f e ++ tl
 | _ => oR t nm f e
noncomputable def oM (ap : Bool) (t nm : List Nat) (f : Nat) (e : Ed) (tl : List Nat) : List AV :=
 (cS 0 (jB ap f (t.take f)) ++ e.fs.map fun p => .tup [.int (((f + 2 + nm.length : Nat) : Int) + p.1), bh 7 p.2]) ++ match e.ps with
 | .lst q => .tup [.int ((oR t nm f e).length : Int), qJ nm (.lst q) e.sh] :: cS (oR t nm f e).length (oY tl)
 | _ => []
structure HX (e : Ed) : Prop where
 fs : e.fs = [] ∨ ∃ p, e.fs = [p]
 ps : e.ps = .none ∨ ∃ q, e.ps = .lst q
 tx : e.tx.length ≤ 5
theorem Ja : ∀ e ∈ AM, HX e := by
 unfold AM
 repeat' first | exact List.forall_mem_nil _ | refine List.forall_mem_cons.mpr ⟨⟨by first | exact .inl rfl | exact .inr ⟨_, rfl⟩, by first | exact .inl rfl | exact .inr ⟨_, rfl⟩, by decide⟩, ?_⟩
theorem ny (T : Int) : kq T ∈ AM := by
 obtain ⟨p, q⟩ := fm (Int.fdiv T 9) (b := 6) (by decide)
 unfold kq
 have h : (Int.fmod (Int.fdiv T 9) 6).toNat < AM.length := by show _ < 6; omega
 rw [List.getD_eq_getElem?_getD, List.getElem?_eq_getElem h]
 exact List.getElem_mem h
theorem oA (T : Int) : nameOf T ∈ names := by
 obtain ⟨p, q⟩ := fm (Int.fdiv T 3) (b := 3) (by decide)
 unfold nameOf
 have h : (Int.fmod (Int.fdiv T 3) 3).toNat < names.length := by show _ < 3; omega
 rw [List.getD_eq_getElem?_getD, List.getElem?_eq_getElem h]
 exact List.getElem_mem h
theorem oT (T : Int) : jv T ∈ k0 := by
 obtain ⟨p, q⟩ := fm (Int.fdiv T 54) (b := 4) (by decide)
 unfold jv
 have h : (Int.fmod (Int.fdiv T 54) 4).toNat < k0.length := by show _ < 4; omega
 rw [List.getD_eq_getElem?_getD, List.getElem?_eq_getElem h]
 exact List.getElem_mem h
theorem l8 (T : Int) : pieceOf T ∈ pieces := by
 obtain ⟨p, q⟩ := fm T (b := 24) (by decide)
 unfold pieceOf
 have h : (Int.fmod T 24).toNat < pieces.length := by show _ < 24; omega
 rw [List.getD_eq_getElem?_getD, List.getElem?_eq_getElem h]
 exact List.getElem_mem h
theorem tK : ∀ n ∈ names, n.length ≤ 5 := by decide
theorem oU : ∀ n ∈ k0, n.length ≤ 4 := by decide
theorem zg : ∀ n ∈ pieces, n.length ≤ 9 := by decide
theorem zf : ∀ n ∈ pieces, ∀ c ∈ n, c ∈ alpha := by decide
theorem sR {nm l : List Nat} (h : fL (lF nm) l = true) : ∃ w, l = 60 :: 47 :: w := by
 cases nm with
 | nil => cases h
 | cons c r =>
  have h : (bV (l.take 2) [60, 47] && _ && _) = true := h
  rw [Bool.and_eq_true, Bool.and_eq_true] at h
  have := h.1.1
  rw [gy] at this
  have := eq_of_beq this
  match l, this with
  | a :: b :: w, e => obtain ⟨e1, e⟩ := List.cons.inj e; exact ⟨w, by rw [e1, (List.cons.inj e).1]⟩
  | [a], e => cases (List.cons.inj e).2
  | [], e => cases e
theorem pY {nm t : List Nat} {f : Nat} {rest : List Nat} (h : mu nm t = f :: rest) : f < t.length ∧ fL (lF nm) (t.drop f) = true ∧ ∀ i, i < f → fL (lF nm) (t.drop i) = false := by
 unfold mu at h
 have hm : f ∈ (List.range t.length).filter fun p => fL (lF nm) (t.drop p) := by rw [h]; exact .head _
 rw [List.mem_filter, List.mem_range] at hm
 refine ⟨hm.1, hm.2, fun i hi => ?_⟩
 cases hb : fL (lF nm) (t.drop i) with
 | false => rfl
 | true =>
  exfalso
  have hmi : i ∈ (List.range t.length).filter fun p => fL (lF nm) (t.drop p) := by rw [List.mem_filter, List.mem_range]; exact ⟨by omega, hb⟩
  have hs : ((List.range t.length).filter fun p => fL (lF nm) (t.drop p)).Pairwise (· < ·) := List.Pairwise.filter _ List.pairwise_lt_range
  rw [h] at hmi hs
  rcases List.mem_cons.mp hmi with rfl | hmi
  ·omega
  ·have := (List.pairwise_cons.mp hs).1 i hmi; omega
theorem mQ (ap : Bool) : ∀ (n : Nat) (l : List Nat), (jB ap n l).length ≤ n
 | 0, _ => by simp [jB]
 | n + 1, [] => by simp [jB]
 | n + 1, c :: r => by rw [jB, List.length_cons]; have := mQ ap n (bc ap c r).2.2; omega
theorem gG : ∀ (n : Nat) (l : List (Int × List Nat)), (cS n l).length = l.length
 | _, [] => rfl
 | n, (k, p) :: r => by rw [cS, List.length_cons, gG, List.length_cons]
section
variable {O : List Nat} {sc : AV} {T wy : Int} {nm tl t rest : List Nat} {e : Ed} {f : Nat}
theorem TP (hed : HX e) (htl : tl.length ≤ 4) (hnl : nm.length ≤ 5) (hl : t.length ≤ 200000) (hO : Lm O) (hw : (wy == 2) = false) (hf : mu nm t = f :: rest) :
  ∃ σ, ex G7 D8 ⟨[], VX sc T wy nm e tl t (f :: rest), O⟩ = some (.nx, σ) ∧ RW wy nm (oV t nm f e tl) (oM (wy == 0) t nm f e tl) σ := by
 obtain ⟨hfl, hfb, hfn⟩ := pY hf
 obtain ⟨hfs, hps, htx⟩ := hed
 clear hf hfn
 have htk : (t.take f).length = f := by rw [List.length_take]; omega
 obtain ⟨w, hwe⟩ := sR hfb
 have hsum : t.take f ++ t.drop f = t := List.take_append_drop f t
 obtain ⟨os, hb, hos⟩ := sj (l := t.take f) (w := t.drop f) (wy == 0) (.inr ⟨_, hwe⟩) (by omega) (by rw [hsum]; omega)
 rw [hsum, htk] at hb
 have hix : ∀ H : List AO, lW H (.lst (tL (f :: rest))) (.int 0) = some (.int (f : Int)) := fun H => by
  rw [BN H (Int.le_refl 0) (by rw [List.length_map, List.length_cons]; omega)]; rfl
 have s1 : ex G7 US ⟨[], VX sc T wy nm e tl t (f :: rest), O⟩ = some (.nx, ⟨[.list (cS 0 (jB (wy == 0) f (t.take f)))], pt (VX sc T wy nm e tl t (f :: rest)) .aU (.aQ 0), os ++ O⟩) :=
  cg (df (ka wN) (aH (bK rfl) (aH (gK (bK rfl) rfl (hix _)) (aH (jk (bK (v := .int wy) rfl) (eP rfl rfl)) rfl))) (lq hb))
 have hO1 := hos.app hO
 have ha1 : (cS 0 (jB (wy == 0) f (t.take f))).length ≤ 200000 := by rw [gG]; have := mQ (wy == 0) f (t.take f); omega
 unfold oM oV
 generalize os ++ O = O1 at s1 hO1
 generalize cS 0 (jB (wy == 0) f (t.take f)) = acc at s1 ha1 ⊢
 have s2 : ex G7 UT ⟨[.list acc], pt (VX sc T wy nm e tl t (f :: rest)) .aU (.aQ 0), O1⟩ = some (.nx, ⟨[.list acc], pt (pt (VX sc T wy nm e tl t (f :: rest)) .aU (.aQ 0)) .ae (.int ((f + 2 + nm.length : Nat) : Int)), O1⟩) :=
  cg (eF (os := []) (eF (os := []) (y := .int ((f + 2 : Nat) : Int)) (gK (bK rfl) rfl (hix _)) rfl rfl) (df (ka A5) (aH (bK (v := .str nm) rfl) rfl) (nJ (y := .int (nm.length : Int)) (os := []) rfl)) rfl)
 have s3 : ex G7 UU ⟨[.list acc], pt (pt (VX sc T wy nm e tl t (f :: rest)) .aU (.aQ 0)) .ae (.int ((f + 2 + nm.length : Nat) : Int)), O1⟩ = some (.nx, ⟨[.list acc], pt (pt (pt (VX sc T wy nm e tl t (f :: rest)) .aU (.aQ 0)) .ae (.int ((f + 2 + nm.length : Nat) : Int))) .af (.str (oR t nm f e)), ((t.take (f + 2 + nm.length)).length + e.tx.length) :: O1⟩) :=
  cg (eF (os := [(t.take (f + 2 + nm.length)).length + e.tx.length]) (ll (bK (v := .str t) rfl) rfl (bK (v := .int ((f + 2 + nm.length : Nat) : Int)) rfl) (Lz _ _ _)) (bK (v := .str e.tx) rfl) rfl)
 have hle : (t.take (f + 2 + nm.length)).length ≤ 200000 := by rw [List.length_take]; omega
 have hle2 : (oR t nm f e).length ≤ 200005 := by unfold oR; rw [List.length_append]; omega
 have hO3 : Lm (((t.take (f + 2 + nm.length)).length + e.tx.length) :: O1) := .cons (by show _ ≤ 1000000; omega) hO1
 generalize ((t.take (f + 2 + nm.length)).length + e.tx.length) :: O1 = O3 at s3 hO3
 obtain ⟨V4, O4, s4, k4, hO4⟩ := Jf (fs := e.fs) (pl := ((f + 2 + nm.length : Nat) : Int)) (V := pt (pt (pt (VX sc T wy nm e tl t (f :: rest)) .aU (.aQ 0)) .ae (.int ((f + 2 + nm.length : Nat) : Int))) .af (.str (oR t nm f e))) (acc := acc) rfl rfl rfl hfs (by omega) hO3
 have kT : lk V4 .af = some (.str (oR t nm f e)) := (k4 _ (by decide) (by decide)).trans rfl
 have kR : lk V4 .aU = some (.aQ 0) := (k4 _ (by decide) (by decide)).trans rfl
 have kN : lk V4 .aK = some (.str nm) := (k4 _ (by decide) (by decide)).trans rfl
 have kP : lk V4 .c8 = some e.ps := (k4 _ (by decide) (by decide)).trans rfl
 have kS : lk V4 .f9 = some (.bool e.sh) := (k4 _ (by decide) (by decide)).trans rfl
 have kL : lk V4 .gO = some (.str tl) := (k4 _ (by decide) (by decide)).trans rfl
 have kW : lk V4 .di = some (.int wy) := (k4 _ (by decide) (by decide)).trans rfl
 have ha4 : (acc ++ nK ((f + 2 + nm.length : Nat) : Int) e.fs).length ≤ 200001 := by
  rw [List.length_append, List.length_map]
  have : e.fs.length ≤ 1 := by rcases hfs with h | ⟨p, h⟩ <;> rw [h] <;> first | exact Nat.zero_le _ | exact Nat.le_refl _
  omega
 have go (σ : St) (h : ex G7 Sq ⟨[.list (acc ++ nK ((f + 2 + nm.length : Nat) : Int) e.fs)], V4, O4⟩ = some (.nx, σ)) : ex G7 D8 ⟨[], VX sc T wy nm e tl t (f :: rest), O⟩ = some (.nx, σ) := by
  rw [um]
  exact gv (b := false) ((mj rfl 2).trans (by rw [hw])) (aJ (gv (b := false) (lI (b := true) (uc (v := .lst (tL (f :: rest))) rfl rfl)) (aJ s1 (aJ s2 (aJ s3 (aJ s4 (aJ h rfl)))))) rfl)
 rcases hps with hps | ⟨q, hps⟩
 ·refine ⟨_, go _ (E6 (hps ▸ kP)), ?_⟩
  rw [hps]
  exact ⟨congrArg (fun l => [AO.list l]) (List.append_nil _).symm, kT, kW, kN, kR, hO4⟩
 ·obtain ⟨V5, O5, s5, k5, k6, hO5⟩ := Jg (acc := acc ++ nK ((f + 2 + nm.length : Nat) : Int) e.fs) (O := O4) kT kR kN (hps ▸ kP) kS kL (by omega) (by rw [List.length_append]; omega) hO4
  refine ⟨_, go _ s5, ?_⟩
  rw [hps]
  exact ⟨rfl, k5, (k6 _ (by decide) (by decide) (by decide)).trans kW, (k6 _ (by decide) (by decide) (by decide)).trans kN, (k6 _ (by decide) (by decide) (by decide)).trans kR, hO5⟩
end
noncomputable def zI (f : Fn) (ct : AV) : AO := .dict [(.aE, .inst .ak 3), (.fP, .none), (.e7, .bool false), (.dC, .lst []), (.aI, .ba f (.inst .tok 2)), (.jo, .bool false), (.ay, ct)]
noncomputable def Bp (R M : AO) (o : Option (List Nat)) (t : List Nat) (f : Fn) : List AO := match o with
 | some nm => [R, M, tk f (.aQ 5) 7 [], .ak 4 3 [] [] true, .txt t false, fy nm, .list [], .list []]
 | none => [R, M, tk f .none 6 [], .ak 4 3 [] [] true, .txt t false, .list [], .list []]
noncomputable def fW (wy : Int) : Fn := if wy = 0 then .jR else if wy = 1 then .fj else .cu
section
variable {R M : AO} {t nm : List Nat} {f : Fn} {V : List (Nm × AV)} {O : List Nat} {wy : Int}
theorem yI (R M : AO) (t : List Nat) : G7.call .t9 [.inst .tok 2, .str t] [R, M, .dict []] = some (.none, [R, M, zI .bl .none, .ak 4 3 [] [] true, .txt t false], [7, 6, 5, 4, 0, 3, 2, 1]) := by kernel_rfl
theorem VI (h : lk V .af = some (.str t)) : ex G7 H7 ⟨[R, M], V, O⟩ = some (.nx, ⟨[R, M, zI .bl .none, .ak 4 3 [] [] true, .txt t false], pt V .aD (.inst .tok 2), [7, 6, 5, 4, 0, 3, 2, 1] ++ O⟩) :=
 have g : G7.glob .dy = some (.cls .tok) := by kernel_rfl
 have hc : G7.call (G7.init .tok) (.inst .tok [R, M].length :: [.str t]) ([R, M] ++ [.dict []]) = some (.none, [R, M, zI .bl .none, .ak 4 3 [] [] true, .txt t false], [7, 6, 5, 4, 0, 3, 2, 1]) := yI R M t
 cg (df (ka g) (aH (bK h) rfl) (To hc))
theorem JG {a : Nm} {f : Fn} (ha : a = .c6 ∧ f = .jR ∨ a = .cL ∧ f = .fj ∨ a = .dS ∧ f = .cu) (h : lk V .aD = some (.inst .tok 2)) :
  ex G7 (.asg (.at (.v .aD) .aI) (.at (.v .aD) a)) ⟨[R, M, zI .bl .none, .ak 4 3 [] [] true, .txt t false], V, O⟩ = some (.nx, ⟨[R, M, zI f .none, .ak 4 3 [] [] true, .txt t false], V, 8 :: O⟩) := by
 have hat : sd G7 [R, M, zI .bl .none, .ak 4 3 [] [] true, .txt t false] (.inst .tok 2) a = some (.ba f (.inst .tok 2)) := by
  rcases ha with ⟨rfl, rfl⟩ | ⟨rfl, rfl⟩ | ⟨rfl, rfl⟩ <;> kernel_rfl
 exact oF (aN := [(.aE, .inst .ak 3), (.fP, .none), (.e7, .bool false), (.dC, .lst []), (.aI, .ba .bl (.inst .tok 2)), (.jo, .bool false), (.ay, .none)]) (uF (bK h) hat) (bK h) rfl (by kernel_rfl) (by kernel_rfl)
theorem VJ (hw : wy = 0 ∨ wy = 1 ∨ wy = 2) (h : lk V .aD = some (.inst .tok 2)) (h2 : lk V .di = some (.int wy)) :
  ex G7 H8 ⟨[R, M, zI .bl .none, .ak 4 3 [] [] true, .txt t false], V, O⟩ = some (.nx, ⟨[R, M, zI (fW wy) .none, .ak 4 3 [] [] true, .txt t false], V, 8 :: O⟩) := by
 rcases hw with rfl | rfl | rfl
 ·exact gv (b := true) (mj h2 0) (aJ (JG (.inl ⟨rfl, rfl⟩) h) rfl)
 ·exact gv (b := false) (mj h2 0) (iV (b := true) (mj h2 1) (aJ (JG (.inr (.inl ⟨rfl, rfl⟩)) h) rfl))
 ·exact gv (b := false) (mj h2 0) (iV (b := false) (mj h2 1) (aJ (JG (.inr (.inr ⟨rfl, rfl⟩)) h) rfl))
end
noncomputable def TA (R M : AO) (o : Option (List Nat)) (t : List Nat) (f : Fn) : List AO := match o with
 | some nm => [R, M, zI f (.aQ 5), .ak 4 3 [] [] true, .txt t false, fy nm]
 | none => [R, M, zI f .none, .ak 4 3 [] [] true, .txt t false]
noncomputable def Su (R M : AO) (o : Option (List Nat)) (t : List Nat) (f : Fn) : List AO := TA R M o t f ++ [.list []]
section
variable {R M : AO} {t nm : List Nat} {f : Fn} {V : List (Nm × AV)} {O : List Nat} {wy : Int}
theorem I8 {G : bS} {ks : rX} {σ : St} {aN : List (Nm × AV)} {H1 : List AO} {V1 : List (Nm × AV)} {O1 : List Nat} (h : yj G ks σ = some (aN, ⟨H1, V1, O1⟩)) : ev G (.cH ks false) σ = some (.aQ H1.length, ⟨H1 ++ [.dict aN], V1, aN.length :: O1⟩) := az h rfl
theorem qI {G : bS} {k : Nm} {e : Ex} {ks : rX} {σ σ1 σ2 : St} {v : AV} {aN : List (Nm × AV)} (h : ev G e σ = some (v, σ1)) (j : yj G ks σ1 = some (aN, σ2)) : yj G (.cons k e ks) σ = some ((k, v) :: aN, σ2) := az h (az j rfl)
theorem VK (h : lk V .aD = some (.inst .tok 2)) (h2 : lk V .aK = some (.str nm)) :
  ∃ os, ex G7 H9 ⟨[R, M, zI f .none, .ak 4 3 [] [] true, .txt t false], V, O⟩ = some (.nx, ⟨TA R M (lF nm) t f, V, os ++ O⟩) ∧ Lm os := by
 have ht : cW G7 (.cmp (.v .aK) (.cons .ne (.c (.str [])) .nil)) ⟨[R, M, zI f .none, .ak 4 3 [] [] true, .txt t false], V, O⟩ = some (!bV nm [], ⟨[R, M, zI f .none, .ak 4 3 [] [] true, .txt t false], V, O⟩) := cV (bK h2) (eP rfl rfl)
 cases nm with
 | nil => exact ⟨[], gv (b := false) ht rfl, .nil⟩
 | cons c r =>
  have g3 : G7.glob .ah = some RC := by kernel_rfl
  have hty : ∀ H : List AO, lW H RC (.str [83,116,97,114,116,84,97,103]) = some (.int 3) := fun H => by kernel_rfl
  exact ⟨[8, 3, 0], gv (b := true) ht (aJ (oF (aN := [(.aE, .inst .ak 3), (.fP, .none), (.e7, .bool false), (.dC, .lst []), (.aI, .ba f (.inst .tok 2)), (.jo, .bool false), (.ay, .none)])
   (I8 (qI (gK (ka g3) rfl (hty _)) (qI (bK h2) (qI (sL rfl) rfl)))) (bK h) rfl (by kernel_rfl) (by kernel_rfl)) rfl), .cons (by decide) (.cons (by decide) (.cons (by decide) .nil))⟩
theorem VL {o : Option (List Nat)} : ex G7 Ia ⟨TA R M o t f, V, O⟩ = some (.nx, ⟨Su R M o t f, pt V .iD (.aQ (yt o)), 0 :: O⟩) := by
 cases o <;> rfl
theorem Vw {o : Option (List Nat)} {W : List (Nm × AV)} : ex G7 Ec (k9 2 ⟨Su R M o t f, W, O⟩) = some (.nx, ⟨Bp R M o t f, gV 2, 8 :: 0 :: O⟩) := by
 cases o <;> kernel_rfl
noncomputable def Rc (t : List Nat) : Bool := t.all wR && Nat.ble t.length 10240
noncomputable def Ul : Sx := (.asg (.v .ag) (.aw (.at (.v .aa) .aE) .bN .nil))
theorem Rh (hf : f = .jR ∨ f = .fj ∨ f = .cu) (o : Option (List Nat)) (c : Nat) (r : List Nat) (ht : Rc (c :: r) = true) :
  G7.call f [.inst .tok 2] (Bp R M o (c :: r) f) = G7.call f [.inst .tok 2] (hp R M o (c :: r) f [] (c :: r) false [] [] []) := by
 have k1 : G6.call .gS [.inst .ak 3] (Bp R M o (c :: r) f) = some (.str [c], hp R M o (c :: r) f [c] r false [] [] [], []) := by
  have z : ∀ H, G6.call .gS [.inst .ak 3] H = G4.call .gS [.inst .ak 3] H := fun H => by kernel_rfl
  rw [z]
  cases o <;> exact x5 _ _ _ _ _ _ ht
 have k2 : G6.call .gS [.inst .ak 3] (hp R M o (c :: r) f [] (c :: r) false [] [] []) = some (.str [c], hp R M o (c :: r) f [c] r false [] [] [], []) := by
  cases o <;> kernel_rfl
 have e : ∀ H, sd G6 H (.inst .tok 2) .aE = some (.inst .ak 3) → gu G6 H (.inst .ak 3) .bN = some (.inl (.ba .gS (.inst .ak 3))) → G6.call .gS [.inst .ak 3] H = some (.str [c], hp R M o (c :: r) f [c] r false [] [] [], []) →
   ex G6 Ul ⟨H, [(.aa, .inst .tok 2)], []⟩ = some (.nx, ⟨hp R M o (c :: r) f [c] r false [] [] [], [(.aa, .inst .tok 2), (.ag, .str [c])], []⟩) := fun H a1 a2 k => cg (V1 := [(.aa, .inst .tok 2)]) (dE (uF (bK rfl) a1) a2 rfl (lR (sQ k)))
 have e1 := e (Bp R M o (c :: r) f) (by cases o <;> kernel_rfl) (by cases o <;> kernel_rfl) k1
 have e2 := e (hp R M o (c :: r) f [] (c :: r) false [] [] []) (by cases o <;> kernel_rfl) (by cases o <;> kernel_rfl) k2
 have go (rest : cT) : bd (b0 G6 (.cons Ul rest) ⟨Bp R M o (c :: r) f, [(.aa, .inst .tok 2)], []⟩) (fun p => bd (ky p.1) fun r => some (r, p.2.H, p.2.O)) = bd (b0 G6 (.cons Ul rest) ⟨hp R M o (c :: r) f [] (c :: r) false [] [] [], [(.aa, .inst .tok 2)], []⟩) (fun p => bd (ky p.1) fun r => some (r, p.2.H, p.2.O)) := by
  rw [AS e1, AS e2]
 rcases hf with rfl | rfl | rfl
 ·exact go (GN BA)
 ·exact go (GN wW)
 ·exact go (GN qg)
theorem KY (hf : f = .jR ∨ f = .fj ∨ f = .cu) (o : Option (List Nat)) :
  G7.call f [.inst .tok 2] (Bp R M o [] f) = G7.call f [.inst .tok 2] (hp R M o [] f [] [] true [] [] []) := by
 rcases hf with rfl | rfl | rfl <;> cases o <;> kernel_rfl
theorem KX (hf : f = .jR ∨ f = .fj ∨ f = .cu) (o : Option (List Nat)) (t : List Nat) (ht : Rc t = true) :
  G7.call f [.inst .tok 2] (Bp R M o t f) = G7.call f [.inst .tok 2] (hp R M o t f [] t t.isEmpty [] [] []) := by
 cases t with
 | nil => exact KY hf o
 | cons c r => exact Rh hf o c r ht
theorem Gw (hf : f = .jR ∨ f = .fj ∨ f = .cu) (o : Option (List Nat)) (t : List Nat) (ht : Rc t = true) (V : List (Nm × AV)) (O : List Nat) (k : Nat) :
  sV k true ⟨Bp R M o t f, V, O⟩ = sV k true ⟨hp R M o t f [] t t.isEmpty [] [] [], V, O⟩ := by
 cases k with
 | zero => rfl
 | succ k =>
  have e1 (H : List AO) (h : H = Bp R M o t f ∨ H = hp R M o t f [] t t.isEmpty [] [] []) : cW G7 uO (k9 2 ⟨H, V, O⟩) = bd (lG (G7.call f [.inst .tok 2] H) ⟨H, gV 2, O⟩ some) fun r => bd (bt r.2.H r.1) fun b => some (b, r.2) := by
   rcases h with rfl | rfl <;> cases o <;> kernel_rfl
  have e2 : cW G7 uO (k9 2 ⟨Bp R M o t f, V, O⟩) = cW G7 uO (k9 2 ⟨hp R M o t f [] t t.isEmpty [] [] [], V, O⟩) := by
   rw [e1 _ (.inl rfl), e1 _ (.inr rfl), KX hf o t ht]
   rfl
  show bd (cW G7 uO (k9 2 ⟨Bp R M o t f, V, O⟩)) _ = bd (cW G7 uO (k9 2 ⟨hp R M o t f [] t t.isEmpty [] [] [], V, O⟩)) _
  rw [e2]
  rfl
end
inductive RG (H : List AO) (t : List Nat) : List AV → List AV → Prop
 | nil : RG H t [] []
 | cons {i : Nat} {v g z : AV} {rs gs : List AV} : i ≤ t.length → gp H 5 true (.tup [bG (t.take i).reverse, v]) = some z → gp H 5 true g = some z → RG H t rs gs → RG H t (.tup [.int (i : Int), v] :: rs) (g :: gs)
theorem RG.app {H : List AO} {t : List Nat} {a b c d : List AV} (h : RG H t a b) (h' : RG H t c d) : RG H t (a ++ c) (b ++ d) := by
 induction h with
 | nil => exact h'
 | cons x y z _ ih => exact .cons x y z ih
theorem oK (H : List AO) (t rest : List Nat) : ∀ (ps : List (Int × List Nat)) (pre : List Nat), t = pre ++ ((ps.map Prod.snd).flatten ++ rest) → RG H t (cS pre.length ps) (cN pre.reverse ps)
 | [], _, _ => .nil
 | (k, p) :: ps, pre, e => by
  rw [cS, cN]
  have e2 : t = (pre ++ p) ++ ((ps.map Prod.snd).flatten ++ rest) := by rw [e]; simp
  have ht : (t.take (pre.length + p.length)).reverse = p.reverse ++ pre.reverse := by
   have : pre.length + p.length = (pre ++ p).length := by simp
   rw [this]
   conv => lhs; rw [e2]
   rw [List.take_left, List.reverse_append]
  have ih := oK H t rest ps (pre ++ p) e2
  rw [List.length_append, List.reverse_append] at ih
  refine .cons (by rw [e2]; simp) ?_ rfl ih
  rw [ht]; rfl
theorem oD (ap : Bool) : ∀ (n : Nat) (l : List Nat), l.length ≤ n → ((jB ap n l).map Prod.snd).flatten = l
 | 0, [], _ => rfl
 | 0, _ :: _, h => absurd h (by simp)
 | n + 1, [], _ => rfl
 | n + 1, c :: r, h => by
  have hs := kl ap c r
  have hl := congrArg List.length hs
  rw [List.length_append] at hl
  simp only [List.length_cons] at h
  rw [jB, List.map_cons, List.flatten_cons, oD ap n (bc ap c r).2.2 (by omega)]
  show c :: (bc ap c r).2.1 ++ (bc ap c r).2.2 = c :: r
  rw [List.cons_append, hs]
noncomputable def F6 (t : List Nat) : AV → AV
 | .tup [.int i, v] => .tup [bG (t.take i.toNat).reverse, v]
 | v => v
theorem KZ {H : List AO} {t : List Nat} {rs gs : List AV} (h : RG H t rs gs) : ∃ z, rn (gp H 5 true) (rs.map (F6 t)) = some z ∧ rn (gp H 5 true) gs = some z := by
 induction h with
 | nil => exact ⟨[], rfl, rfl⟩
 | @cons i v g z rs gs hi h1 h2 _ ih =>
  exact Exists.elim ih fun zs q => ⟨z :: zs, az h1 (az q.1 rfl), az h2 (az q.2 rfl)⟩
noncomputable def cE : Ex := (.tup (.cons (.ix (.v .aY) (.v .ae)) (.cons (.v .aM) .nil)))
theorem JA {H : List AO} {n : Nat} {vs : List AV} (h : H[n]? = some (.list vs)) {i : Nat} {v : AV} (hi : vs[i]? = some v) : lW H (.aQ n) (.int (i : Int)) = some v := by
 show bd (eJ H n) (fun vs => (idx (i : Int) vs.length).map fun j => vs.getD j AV.none) = _
 refine az (g8 h) ?_
 rw [qQ (List.getElem?_eq_some_iff.mp hi).1]
 show some (vs.getD i AV.none) = _
 rw [List.getD_eq_getElem?_getD, hi]
 rfl
theorem w0 {H : List AO} {t : List Nat} (hM : H[1]? = some (.list (jY [] t))) {i : Nat} (hi : i ≤ t.length) : lW H (.aQ 1) (.int (i : Int)) = some (bG (t.take i).reverse) :=
 JA hM ((xj t [] i hi).trans (by rw [List.append_nil]))
theorem IL {H : List AO} {t : List Nat} {rs gs : List AV} (hM : H[1]? = some (.list (jY [] t))) (h : RG H t rs gs) : ∀ (V : List (Nm × AV)) (O : List Nat), lk V .aY = some (.aQ 1) → Lm O →
  ∃ V' O', iw (gI [.ae, .aM] true) (j7 G7 .nil) (ev G7 cE) rs ⟨H, V, O⟩ = some (rs.map (F6 t), ⟨H, V', O'⟩) ∧ Lm O' := by
 induction h with
 | nil => exact fun V O _ hO => ⟨V, O, rfl, hO⟩
 | @cons i v g z rs gs hi h1 h2 _ ih =>
  intro V O hV hO
  have k1 : lk (pt (pt V .ae (.int (i : Int))) .aM v) .aY = some (.aQ 1) := (ck (by decide)).trans ((ck (by decide)).trans hV)
  have k2 : lk (pt (pt V .ae (.int (i : Int))) .aM v) .ae = some (.int (i : Int)) := (ck (by decide)).trans bR
  have k3 : lk (pt (pt V .ae (.int (i : Int))) .aM v) .aM = some v := bR
  obtain ⟨V', O', e, hO'⟩ := ih (pt (pt V .ae (.int (i : Int))) .aM v) (2 :: O) k1 (.cons (by decide) hO)
  have ha : gI [Nm.ae, Nm.aM] true (.tup [.int (i : Int), v]) ⟨H, V, O⟩ = some ⟨H, pt (pt V .ae (.int (i : Int))) .aM v, O⟩ := rfl
  generalize pt (pt V .ae (.int (i : Int))) .aM v = W at k1 k2 k3 e ha
  have he : ev G7 cE ⟨H, W, O⟩ = some (.tup [bG (t.take i).reverse, v], ⟨H, W, 2 :: O⟩) := i5 (vs := [bG (t.take i).reverse, v]) (aH (gK (bK k1) (bK k2) (w0 hM hi)) (aH (bK k3) rfl))
  exact ⟨V', O', az ha (az (x := (true, ⟨H, W, O⟩)) rfl (az he (az e rfl))), hO'⟩
theorem Au {H : List AO} {a b z : AV} (h : uB .eq a b = none) (h1 : gp H 6 true a = some z) (h2 : gp H 6 true b = some z) : jT H .eq a b = some true := by
 unfold jT
 rw [h]
 exact az h1 (az h2 (if_pos rfl))
theorem Ft {H : List AO} {t : List Nat} {rows got : List AV} {g : Nat} {V : List (Nm × AV)} {O : List Nat} (hR : H[0]? = some (.list rows)) (hM : H[1]? = some (.list (jY [] t))) (hG : H[g]? = some (.list got))
  (ha : sd G7 H (.inst .tok 2) .aE = some (.inst .ak 3)) (hm : gu G7 H (.inst .ak 3) .c5 = some (.inl (.ba .kY (.inst .ak 3)))) (hp : G7.call .kY [.inst .ak 3] H = some (bG t.reverse, H, []))
  (k1 : lk V .aU = some (.aQ 0)) (k2 : lk V .aY = some (.aQ 1)) (k3 : lk V .iD = some (.aQ g)) (k4 : lk V .aD = some (.inst .tok 2)) (k5 : lk V .af = some (.str t)) (hk : lk (g7 [(.ae, .loc), (.aM, .loc), (.aY, .k8)] V) .aY = some (.aQ 1))
  (rg : RG H t rows got) (hl : rows.length ≤ 1000000) (hO : Lm O) : ∃ σ, b0 G7 qR ⟨H, V, O⟩ = some (.rt (.bool true), σ) ∧ Lm σ.O := by
 obtain ⟨V', O', ec, hO'⟩ := IL hM rg _ O hk hO
 obtain ⟨z, d1, d2⟩ := KZ rg
 have hi : BK H (pureE cE && u9 .nil) (.aQ 0) = some rows := show eJ H 0 = _ from g8 hR
 have ecp := uG (ks := [(.ae, .loc), (.aM, .loc), (.aY, .k8)]) (t := [.ae, .aM]) (cs := .nil) (elt := cE) rfl (bK k1) hi ec
 have x1 : gp H 6 true (.aQ g) = some (.lst z) := by
  show alt (eJ H g) (fun vs => (rn (gp H 5 true) vs).map AV.lst) _ = _
  rw [g8 hG]
  show (rn _ _).map _ = _
  rw [d2]; rfl
 have x2 : gp H 6 true (.lst (rows.map (F6 t))) = some (.lst z) := by
  show (rn (gp H 5 true) (rows.map (F6 t))).map AV.lst = _
  rw [d1]; rfl
 have hix := w0 hM (Nat.le_refl t.length)
 rw [List.take_length] at hix
 have v1 := jk (bK (O0 := O) k3) (eP ecp (Au rfl x1 x2))
 rw [List.length_map] at v1
 have v2 : ∀ O, ev G7 (.cmp (.aw (.at (.v .aD) .aE) .c5 .nil) (.cons .eq (.ix (.v .aY) (.call (.g .bw) (.cons (.v .af) .nil))) .nil)) ⟨H, V, O⟩ = some (.bool true, ⟨H, V, O⟩) := fun O => jk (dE (uF (bK k4) ha) hm rfl (lR (sQ (O' := []) hp))) (eP (gK (bK k2) (lC k5) hix) (Au rfl rfl rfl))
 exact ⟨⟨H, V, rows.length :: O'⟩, show b0 G7 (.cons (.ret (.and (.cons _ (.cons _ .nil)))) .nil) _ = _ from iW (Hl (vO v1 (RI (v2 _)))), .cons hl hO'⟩
theorem jG (xs : List Int) : Al (textOf xs) := fun c m => by
 unfold textOf at m
 rw [List.mem_flatten] at m
 obtain ⟨l, hl, hc⟩ := m
 rw [List.mem_map] at hl
 obtain ⟨y, _, rfl⟩ := hl
 exact zf _ (l8 y) c hc
theorem wJ {n : Nat} : ∀ {ls : List (List Nat)}, (∀ l ∈ ls, l.length ≤ n) → ls.flatten.length ≤ ls.length * n
 | [], _ => by simp
 | l :: ls, h => by
  have a := h l (.head _)
  have b := wJ (ls := ls) fun q m => h q (.tail _ m)
  rw [List.flatten_cons, List.length_append, List.length_cons, Nat.add_mul]
  omega
theorem jH (xs : List Int) : (textOf xs).length ≤ 144 := by
 unfold textOf
 have := wJ (n := 9) (ls := (xs.take 16).map pieceOf) fun l m => by
  rw [List.mem_map] at m
  obtain ⟨y, _, rfl⟩ := m
  exact zg _ (l8 y)
 rw [List.length_map] at this
 have h2 : (xs.take 16).length ≤ 16 := by rw [List.length_take]; omega
 have : (xs.take 16).length * 9 ≤ 16 * 9 := Nat.mul_le_mul_right _ h2
 omega
theorem Ic : ∀ c ∈ alpha, wR c = true := by decide
theorem Kx {t : List Nat} (h : Al t) (hl : t.length ≤ 1000) : Rc t = true := by
 unfold Rc
 rw [Bool.and_eq_true]
 refine ⟨List.all_eq_true.mpr fun c m => Ic c (h c m), ?_⟩
 exact Nat.ble_eq.mpr (by omega)
theorem AU (wy : Int) : fW wy = .jR ∨ fW wy = .fj ∨ fW wy = .cu := by
 unfold fW
 split
 ·exact .inl rfl
 ·split
  ·exact .inr (.inl rfl)
  ·exact .inr (.inr rfl)
structure Start (wy : Int) (nm t : List Nat) (rows : List AV) (σ : St) : Prop where
 h : σ.H = Su (.list rows) (.list (jY [] t)) (lF nm) t (fW wy)
 tx : lk σ.V .af = some (.str t)
 ro : lk σ.V .aU = some (.aQ 0)
 ma : lk σ.V .aY = some (.aQ 1)
 tk : lk σ.V .aD = some (.inst .tok 2)
 gt : lk σ.V .iD = some (.aQ (yt (lF nm)))
 lm : Lm σ.O
theorem DD {wy : Int} {nm t : List Nat} {rows : List AV} {σ : St} (w3 : wy = 0 ∨ wy = 1 ∨ wy = 2) (ht : t.length ≤ 1000) (r : RW wy nm t rows σ) :
  ∃ σ1, b0 G7 (.cons SQ (.cons H7 (.cons H8 (.cons H9 (.cons Ia .nil))))) σ = some (.nx, σ1) ∧ Start wy nm t rows σ1 := by
 obtain ⟨H, V, O⟩ := σ
 obtain ⟨rfl, tx, wy_, nm_, ro, lm⟩ := r
 obtain ⟨os, hm, hos⟩ := y9 (.list rows) t (by omega)
 have g : G7.glob .eX = some (.fn .n7) := by kernel_rfl
 have s9 : ex G7 SQ ⟨[.list rows], V, O⟩ = some (.nx, ⟨[.list rows, .list (jY [] t)], pt V .aY (.aQ 1), os ++ O⟩) := cg (df (ka g) (aH (bK tx) rfl) (lq hm))
 have n9 {x : Nm} (h : x ≠ .aY) : lk (pt V .aY (.aQ 1)) x = lk V x := ck fun z => h z.symm
 have m9 : lk (pt V .aY (.aQ 1)) .aY = some (.aQ 1) := bR
 generalize pt V .aY (.aQ 1) = V1 at s9 n9 m9
 have n10 {x : Nm} (h : x ≠ .aD) : lk (pt V1 .aD (.inst .tok 2)) x = lk V1 x := ck fun z => h z.symm
 have s10 := VI (R := .list rows) (M := .list (jY [] t)) (O := os ++ O) ((n9 (by decide)).trans tx)
 have t10 : lk (pt V1 .aD (.inst .tok 2)) .aD = some (.inst .tok 2) := bR
 generalize pt V1 .aD (.inst .tok 2) = V2 at s10 n10 t10
 have n {x : Nm} (h : x ≠ .aD) (h' : x ≠ .aY) : lk V2 x = lk V x := (n10 h).trans (n9 h')
 have s11 := VJ (R := .list rows) (M := .list (jY [] t)) (t := t) (O := [7, 6, 5, 4, 0, 3, 2, 1] ++ (os ++ O)) w3 t10 ((n (by decide) (by decide)).trans wy_)
 obtain ⟨os2, s12, hos2⟩ := VK (R := .list rows) (M := .list (jY [] t)) (t := t) (f := fW wy) (O := 8 :: ([7, 6, 5, 4, 0, 3, 2, 1] ++ (os ++ O))) t10 ((n (by decide) (by decide)).trans nm_)
 exact ⟨_, aJ s9 (aJ s10 (aJ s11 (aJ s12 (aJ VL rfl)))), rfl, (ck (by decide)).trans ((n (by decide) (by decide)).trans tx), (ck (by decide)).trans ((n (by decide) (by decide)).trans ro), (ck (by decide)).trans ((n10 (by decide)).trans m9), (ck (by decide)).trans t10, bR, .cons (by decide) (hos2.app (.cons (by decide) (Lm.app (fun k hk => Nat.le_trans ((by decide : ∀ k ∈ [7, 6, 5, 4, 0, 3, 2, 1], k ≤ 10) k hk) (by decide)) (hos.app lm))))⟩
theorem Fs {xs : List Int} {t : List Nat} {rows : List AV} (ht : t.length ≤ 1000)
  (h8 : ∀ O, Lm O → ∃ σ, ex G7 D8 ⟨[], VU xs, O⟩ = some (.nx, σ) ∧ RW (Int.fmod (xs.take 16).sum 3) (nameOf (xs.take 16).sum) t rows σ) : ∃ σ1, b0 G7 mH ⟨[], [(.cM, gX xs)], []⟩ = some (.nx, σ1) ∧ Start (Int.fmod (xs.take 16).sum 3) (nameOf (xs.take 16).sum) t rows σ1 := by
 have hle := jH xs
 obtain ⟨O7, s7, hO7⟩ := l7 xs ((textOf xs).length :: (xs.take 16).length :: [4, 3]) (jG xs) (by omega) (.cons (by show _ ≤ 1000000; omega) (.cons (by rw [List.length_take]; show _ ≤ 1000000; omega) (.cons (by decide) (.cons (by decide) .nil))))
 obtain ⟨σ8, s8, r8⟩ := h8 O7 hO7
 have w3 : Int.fmod (xs.take 16).sum 3 = 0 ∨ Int.fmod (xs.take 16).sum 3 = 1 ∨ Int.fmod (xs.take 16).sum 3 = 2 := by
  obtain ⟨p, q⟩ := fm (xs.take 16).sum (b := 3) (by decide); omega
 obtain ⟨σ1, e, st⟩ := DD w3 ht r8
 refine ⟨σ1, ?_, st⟩
 rw [Jt]
 exact aJ (l1 xs []) (aJ (l2 (T := (xs.take 16).sum) [] rfl) (aJ (l3 (T := (xs.take 16).sum) [] rfl) (aJ (l4 (T := (xs.take 16).sum) [3] rfl) (aJ (l5 (T := (xs.take 16).sum) [3] rfl) (aJ (l6 xs [4, 3]) (aJ s7 (aJ s8 e)))))))
theorem tu {ks : List (Nm × Kd)} {x : Nm} (h : Jz (lk ks x) = true) : ∀ V : List (Nm × AV), lk (g7 ks V) x = lk V x
 | [] => rfl
 | p :: r => by
  have ih := tu h r
  show lk (List.filter _ (p :: r)) x = _
  rw [List.filter_cons]
  by_cases e : p.1 = x
  ·rw [if_pos (e ▸ h), c9, c9, if_pos e, if_pos e]
  ·rw [c9 (r := r), if_neg e]
   split
   ·rw [c9, if_neg e]; exact ih
   ·exact ih
structure HY (o : Option (List Nat)) (rows : List AV) (t : List Nat) (V0 : List (Nm × AV)) (σ : St) : Prop where
 r : σ.H[0]? = some (.list rows)
 m : σ.H[1]? = some (.list (jY [] t))
 got : ∃ got, σ.H[yt o]? = some (.list got) ∧ RG σ.H t rows got
 ha : sd G7 σ.H (.inst .tok 2) .aE = some (.inst .ak 3)
 hm : gu G7 σ.H (.inst .ak 3) .c5 = some (.inl (.ba .kY (.inst .ak 3)))
 hp : G7.call .kY [.inst .ak 3] σ.H = some (bG t.reverse, σ.H, [])
 v : Ek o V0 σ.V
 lm : Lm σ.O
noncomputable def Done (xs : List Int) : Prop := ∃ σ1 aN τ0 fu σ3 σ4, b0 G7 mH ⟨[], [(.cM, gX xs)], []⟩ = some (.nx, σ1) ∧ ev G7 (.v .aD) σ1 = some (.inst .tok 2, σ1) ∧ hW σ1.H 2 = some aN ∧
 ex G7 Ec (k9 2 σ1) = some (.nx, τ0) ∧ dx G7 2 .aM (b0 G7 mI) fu true (bk σ1 τ0) = some σ3 ∧ b0 G7 qR σ3 = some (.rt (.bool true), σ4) ∧ Lm σ4.O
theorem qH {xs : List Int} {t : List Nat} {rows : List AV} (ht : t.length ≤ 1000) (hA : Al t) (hl : rows.length ≤ 1000000)
  (h8 : ∀ O, Lm O → ∃ σ, ex G7 D8 ⟨[], VU xs, O⟩ = some (.nx, σ) ∧ RW (Int.fmod (xs.take 16).sum 3) (nameOf (xs.take 16).sum) t rows σ)
  (lp : ∀ V0 σ, jd (.list rows) (.list (jY [] t)) (lF (nameOf (xs.take 16).sum)) t V0 (fW (Int.fmod (xs.take 16).sum 3)) [] t t.isEmpty [] [] σ → ∃ fu σ3, sV fu true σ = some σ3 ∧ HY (lF (nameOf (xs.take 16).sum)) rows t V0 σ3) : Done xs := by
 obtain ⟨σ1, eA, s⟩ := Fs ht h8
 generalize nameOf (xs.take 16).sum = nm at s lp
 generalize Int.fmod (xs.take 16).sum 3 = wy at s lp
 obtain ⟨H, V, O⟩ := σ1
 obtain ⟨rfl, tx, ro, ma, tk, gt, lm⟩ := s
 obtain ⟨fu, ⟨H3, V3, O3⟩, el, fr, fm, ⟨got, fg, rg⟩, fa, fme, fp, fv, fl⟩ := lp V ⟨hp (.list rows) (.list (jY [] t)) (lF nm) t (fW wy) [] t t.isEmpty [] [] [], V, 8 :: 0 :: O⟩ ⟨rfl, ⟨fun _ _ => rfl, tk, gt⟩, .cons (by decide) (.cons (by decide) lm)⟩
 have kma : lk V3 .aY = some (.aQ 1) := (fv.same _ (by decide)).trans ma
 obtain ⟨σ4, eC, hz⟩ := Ft (H := H3) (V := V3) (O := O3) fr fm fg fa fme fp ((fv.same _ (by decide)).trans ro) kma ((fv.same _ (by decide)).trans gt) ((fv.same _ (by decide)).trans tk) ((fv.same _ (by decide)).trans tx) ((tu rfl _).trans kma) rg hl fl
 have hH : ∃ aN, hW (Su (.list rows) (.list (jY [] t)) (lF nm) t (fW wy)) 2 = some aN := by
  cases lF nm <;> exact ⟨_, rfl⟩
 exact hH.elim fun aN hH => ⟨_, aN, _, fu, _, σ4, eA, bK tk, hH, Vw, (Gw (AU _) _ _ (Kx hA ht) _ _ _).trans el, eC, hz⟩
theorem AX {R M : AO} {o : Option (List Nat)} {rows : List AV} {t : List Nat} {V0 : List (Nm × AV)} {f : Fn} {tb : List (Nm × AV)} {got : List AV} {σ : St} (p : jd (.list rows) (.list (jY [] t)) o t V0 f t.reverse [] true tb got σ) (rg : ∀ H, RG H t rows got) : HY o rows t V0 σ := by
 obtain ⟨H, V, O⟩ := σ
 obtain ⟨rfl, v, lm⟩ := p
 refine ⟨?_, ?_, ⟨got, ?_, rg _⟩, ?_, ?_, xw, v, lm⟩
 ·cases o <;> rfl
 ·cases o <;> rfl
 ·cases o <;> rfl
 ·cases o <;> kernel_rfl
 ·cases o <;> kernel_rfl
theorem Hz (xs : List Int) : qw (lF (nameOf (xs.take 16).sum)) := by
 have key : ∀ n ∈ names, qw (lF n) := by
  intro n hn
  have h : n = [98] ∨ n = [116,105,116,108,101] ∨ n = [] := by simpa [names] using hn
  rcases h with rfl | rfl | rfl
  ·exact ⟨fun nm e => by cases e; kernel_rfl, fun nm e => by cases e; decide⟩
  ·exact ⟨fun nm e => by cases e; kernel_rfl, fun nm e => by cases e; decide⟩
  ·exact ⟨fun nm e => (nomatch e), fun nm e => (nomatch e)⟩
 exact key _ (oA _)
theorem C0 (t : List Nat) : (tQ t).length ≤ 1 := by cases t <;> simp [tQ]
theorem Mg (xs : List Int) : VU xs = VX (gX xs) (xs.take 16).sum (Int.fmod (xs.take 16).sum 3) (nameOf (xs.take 16).sum) (kq (xs.take 16).sum) (jv (xs.take 16).sum) (textOf xs) (mu (nameOf (xs.take 16).sum) (textOf xs)) := rfl
theorem uE {xs : List Int} (hw : (Int.fmod (xs.take 16).sum 3 == 2) = true) : Done xs := by
 have hle := jH xs
 have hA := jG xs
 refine qH (by omega) hA (by rw [gG]; have := C0 (textOf xs); omega) (fun O hO => TR rfl rfl rfl hO hw) fun V0 σ p => ?_
 rw [show fW (Int.fmod (xs.take 16).sum 3) = .cu by rw [eq_of_beq hw]; rfl] at p
 obtain ⟨fu, σ3, e, q⟩ := yq hA (by omega) p
 exact ⟨fu, σ3, e, AX (R := .list []) (M := .list []) q fun H => oK H (textOf xs) [] (tQ (textOf xs)) [] (by cases textOf xs <;> simp [tQ])⟩
theorem Hm (T : Int) (hw : (Int.fmod T 3 == 2) = false) : fW (Int.fmod T 3) = fR (Int.fmod T 3 == 0) := by
 obtain ⟨p, q⟩ := fm T (b := 3) (by decide)
 have : Int.fmod T 3 = 0 ∨ Int.fmod T 3 = 1 ∨ Int.fmod T 3 = 2 := by omega
 rcases this with h | h | h
 ·rw [h]; rfl
 ·rw [h]; rfl
 ·rw [h] at hw; cases hw
theorem uD {xs : List Int} (hw : (Int.fmod (xs.take 16).sum 3 == 2) = false) (hf : mu (nameOf (xs.take 16).sum) (textOf xs) = []) : Done xs := by
 have hle := jH xs
 have hA := jG xs
 refine qH (by omega) hA (by rw [gG]; have := mQ (Int.fmod (xs.take 16).sum 3 == 0) (textOf xs).length (textOf xs); omega) (fun O hO => TQ (by omega) rfl rfl rfl (show some (AV.lst (tL (mu (nameOf (xs.take 16).sum) (textOf xs)))) = _ by rw [hf]; rfl) hO hw) fun V0 σ p => ?_
 rw [Hm _ hw] at p
 have hnf : ∀ i, i < (textOf xs).length → fL (lF (nameOf (xs.take 16).sum)) ((textOf xs).drop i) = false := fun i hi => by
  cases hb : fL (lF (nameOf (xs.take 16).sum)) ((textOf xs).drop i) with
  | false => rfl
  | true =>
   have : i ∈ mu (nameOf (xs.take 16).sum) (textOf xs) := by unfold mu; rw [List.mem_filter, List.mem_range]; exact ⟨hi, hb⟩
   rw [hf] at this; cases this
 obtain ⟨fu, σ3, tb, e, q⟩ := yo (Hz xs) hA hnf (by omega) p
 exact ⟨fu, σ3, e, AX (R := .list []) (M := .list []) q fun H => oK H (textOf xs) [] (jB (Int.fmod (xs.take 16).sum 3 == 0) (textOf xs).length (textOf xs)) [] (by rw [oD _ _ _ (Nat.le_refl _)]; simp)⟩
theorem iZ {t rb u : List Nat} (ht : t = rb.reverse ++ u) (k : Nat) : (t.take (rb.length + k)).reverse = (u.take k).reverse ++ rb := by
 have : rb.length = rb.reverse.length := by simp
 rw [this, ht, List.take_append]
 simp
 rw [List.take_of_length_le (by simp), List.reverse_reverse]
noncomputable def tT (P : Nat) (nm : List Nat) (e : Ed) : List AV := (e.fs.map fun p => .tup [.int ((P : Int) + p.1), bh 7 p.2]) ++ match e.ps with
 | .lst q => [.tup [.int ((P + e.tx.length : Nat) : Int), qJ nm (.lst q) e.sh]]
 | _ => []
noncomputable def mX (R M : AO) (nm t : List Nat) (V0 : List (Nm × AV)) (ap : Bool) (e : Ed) : Prop :=
 ∀ (rb tl b : List Nat) (got : List AV), nm = b.map fU → lM nm b → got.length ≤ 200000 → tl.length ≤ 200000 → (e.ps = .none → tl = []) → t = rb.reverse ++ (e.tx ++ tl) →
  ∃ K en qO, eM (dj R M t V0 (fy nm) [] (ku ap) (.aQ 5) rb (e.tx ++ tl) false b got) (dj R M t V0 (fy nm) K .bl (.aQ 9) (e.tx.reverse ++ rb) tl en b (got ++ qO)) ∧ (tl ≠ [] → en = false) ∧ qO.length ≤ 3 ∧
   ∀ rbF gotF, RG (hX R M t (fy nm) K .bl (.aQ 9) rbF [] true b gotF []) t (tT rb.length nm e) qO
section
variable {R M : AO} {nm t : List Nat} {V0 : List (Nm × AV)} {ap : Bool}
theorem EY : mX R M nm t V0 ap ⟨[62], [], (.lst []), false⟩ := by
 intro rb tl b got hn F hg hl hp ht
 subst hn
 have go := Vj (R := R) (M := M) (t := t) (V0 := V0) (ap := ap) (rb := rb) (aq := tl) (got := got) F (by omega) (by omega)
 refine ⟨KL b false, false, [.tup [bG (62 :: rb), .aQ 9]], go, fun _ => rfl, by simp, fun rbF gotF => ?_⟩
 have t1 : (t.take (rb.length + 1)).reverse = 62 :: rb := by
  rw [iZ ht]; rfl
 exact .cons (i := rb.length + 1) (by rw [ht]; simp [List.length_append]) (by rw [t1]; rfl) rfl (.nil)
theorem EZ : mX R M nm t V0 ap ⟨[32, 62], [], (.lst []), false⟩ := by
 intro rb tl b got hn F hg hl hp ht
 subst hn
 have go := Vk (R := R) (M := M) (t := t) (V0 := V0) (ap := ap) (rb := rb) (aq := tl) (got := got) F (by omega) (by omega)
 refine ⟨KL b false, false, [.tup [bG (62 :: 32 :: rb), .aQ 9]], go, fun _ => rfl, by simp, fun rbF gotF => ?_⟩
 have t2 : (t.take (rb.length + 2)).reverse = 62 :: 32 :: rb := by
  rw [iZ ht]; rfl
 exact .cons (i := rb.length + 2) (by rw [ht]; simp [List.length_append]) (by rw [t2]; rfl) rfl (.nil)
theorem E0 : mX R M nm t V0 ap ⟨[47, 62], [(2, [115, 101, 108, 102, 45, 99, 108, 111, 115, 105, 110, 103, 45, 102, 108, 97, 103, 45, 111, 110, 45, 101, 110, 100, 45, 116, 97, 103])], (.lst []), true⟩ := by
 intro rb tl b got hn F hg hl hp ht
 subst hn
 have go := Vl (R := R) (M := M) (t := t) (V0 := V0) (ap := ap) (rb := rb) (aq := tl) (got := got) F (by omega) (by omega)
 refine ⟨KL b true, false, [.tup [bG (62 :: 47 :: rb), bh 7 [115, 101, 108, 102, 45, 99, 108, 111, 115, 105, 110, 103, 45, 102, 108, 97, 103, 45, 111, 110, 45, 101, 110, 100, 45, 116, 97, 103]], .tup [bG (62 :: 47 :: rb), .aQ 9]], go, fun _ => rfl, by simp, fun rbF gotF => ?_⟩
 have t2 : (t.take (rb.length + 2)).reverse = 62 :: 47 :: rb := by
  rw [iZ ht]; rfl
 exact .cons (i := rb.length + 2) (by rw [ht]; simp [List.length_append]) (by rw [t2]; rfl) rfl (.cons (i := rb.length + 2) (by rw [ht]; simp [List.length_append]) (by rw [t2]; rfl) rfl (.nil))
theorem E1 : mX R M nm t V0 ap ⟨[10, 107, 61, 49, 62], [(5, [97, 116, 116, 114, 105, 98, 117, 116, 101, 115, 45, 105, 110, 45, 101, 110, 100, 45, 116, 97, 103])], (.lst [.lst [.str [107], .str [49]]]), false⟩ := by
 intro rb tl b got hn F hg hl hp ht
 subst hn
 have go := Vm (R := R) (M := M) (t := t) (V0 := V0) (ap := ap) (rb := rb) (aq := tl) (got := got) F (by omega) (by omega)
 refine ⟨KA b, false, [.tup [bG (62 :: 49 :: 61 :: 107 :: 10 :: rb), bh 7 [97, 116, 116, 114, 105, 98, 117, 116, 101, 115, 45, 105, 110, 45, 101, 110, 100, 45, 116, 97, 103]], .tup [bG (62 :: 49 :: 61 :: 107 :: 10 :: rb), .aQ 9]], go, fun _ => rfl, by simp, fun rbF gotF => ?_⟩
 have t5 : (t.take (rb.length + 5)).reverse = 62 :: 49 :: 61 :: 107 :: 10 :: rb := by
  rw [iZ ht]; rfl
 exact .cons (i := rb.length + 5) (by rw [ht]; simp [List.length_append]) (by rw [t5]; rfl) rfl (.cons (i := rb.length + 5) (by rw [ht]; simp [List.length_append]) (by rw [t5]; rfl) rfl (.nil))
theorem E2 : mX R M nm t V0 ap ⟨[47, 32, 62], [(1, [117, 110, 101, 120, 112, 101, 99, 116, 101, 100, 45, 99, 104, 97, 114, 97, 99, 116, 101, 114, 45, 97, 102, 116, 101, 114, 45, 115, 111, 108, 105, 100, 117, 115, 45, 105, 110, 45, 116, 97, 103])], (.lst []), false⟩ := by
 intro rb tl b got hn F hg hl hp ht
 subst hn
 have go := Vn (R := R) (M := M) (t := t) (V0 := V0) (ap := ap) (rb := rb) (aq := tl) (got := got) F (by omega) (by omega)
 refine ⟨KL b false, false, [.tup [bG (47 :: rb), bh 7 [117, 110, 101, 120, 112, 101, 99, 116, 101, 100, 45, 99, 104, 97, 114, 97, 99, 116, 101, 114, 45, 97, 102, 116, 101, 114, 45, 115, 111, 108, 105, 100, 117, 115, 45, 105, 110, 45, 116, 97, 103]], .tup [bG (62 :: 32 :: 47 :: rb), .aQ 9]], go, fun _ => rfl, by simp, fun rbF gotF => ?_⟩
 have t1 : (t.take (rb.length + 1)).reverse = 47 :: rb := by
  rw [iZ ht]; rfl
 have t3 : (t.take (rb.length + 3)).reverse = 62 :: 32 :: 47 :: rb := by
  rw [iZ ht]; rfl
 exact .cons (i := rb.length + 1) (by rw [ht]; simp [List.length_append]) (by rw [t1]; rfl) rfl (.cons (i := rb.length + 3) (by rw [ht]; simp [List.length_append]) (by rw [t3]; rfl) rfl (.nil))
theorem E3 : mX R M nm t V0 ap ⟨[32], [(1, [101, 120, 112, 101, 99, 116, 101, 100, 45, 97, 116, 116, 114, 105, 98, 117, 116, 101, 45, 110, 97, 109, 101, 45, 98, 117, 116, 45, 103, 111, 116, 45, 101, 111, 102])], .none, false⟩ := by
 intro rb tl b got hn F hg hl hp ht
 have htl := hp rfl
 subst htl
 subst hn
 have go := Vo (R := R) (M := M) (t := t) (V0 := V0) (ap := ap) (rb := rb) (aq := []) (got := got) F (by omega) (by simp)
 refine ⟨[.list [], iz b false 8], true, [.tup [bG (32 :: rb), bh 7 [101, 120, 112, 101, 99, 116, 101, 100, 45, 97, 116, 116, 114, 105, 98, 117, 116, 101, 45, 110, 97, 109, 101, 45, 98, 117, 116, 45, 103, 111, 116, 45, 101, 111, 102]]], go, fun h => absurd rfl h, by simp, fun rbF gotF => ?_⟩
 have t1 : (t.take (rb.length + 1)).reverse = 32 :: rb := by
  rw [iZ ht]; rfl
 exact .cons (i := rb.length + 1) (by rw [ht]; simp [List.length_append]) (by rw [t1]; rfl) rfl (.nil)
theorem E4 : ∀ e ∈ AM, mX R M nm t V0 ap e := by
 unfold AM
 exact List.forall_mem_cons.mpr ⟨EY, List.forall_mem_cons.mpr ⟨EZ, List.forall_mem_cons.mpr ⟨E0, List.forall_mem_cons.mpr ⟨E1, List.forall_mem_cons.mpr ⟨E2, List.forall_mem_cons.mpr ⟨E3, List.forall_mem_nil _⟩⟩⟩⟩⟩⟩
end
theorem pX (nm l : List Nat) : fL (some nm) l = fL (some nm) (l.take (nm.length + 3)) := by
 have h1 : (l.take (nm.length + 3)).take 2 = l.take 2 := by rw [List.take_take, Nat.min_eq_left (by omega)]
 have h2 : ((l.take (nm.length + 3)).drop 2).take nm.length = (l.drop 2).take nm.length := by
  rw [List.drop_take, List.take_take, Nat.min_eq_left (by omega)]
 have h3 : (l.take (nm.length + 3)).drop (2 + nm.length) = (l.drop (2 + nm.length)).take 1 := by
  rw [List.drop_take]; congr 1; omega
 show (bV (l.take 2) [60, 47] && bV (a8 ((l.drop 2).take nm.length)) nm && _) = (bV ((l.take (nm.length + 3)).take 2) [60, 47] && bV (a8 (((l.take (nm.length + 3)).drop 2).take nm.length)) nm && _)
 rw [h1, h2, h3]
 cases l.drop (2 + nm.length) <;> rfl
theorem yk {nm l : List Nat} (hA : Al l) (hne : nm ≠ []) (h : fL (some nm) l = true) : ∃ u e q, l = 60 :: 47 :: u ∧ a8 (u.take nm.length) = nm ∧ u = u.take nm.length ++ e :: q ∧ yP e = true ∧ (u.take nm.length).length = nm.length := by
 obtain ⟨u, rfl⟩ := sR (nm := nm) (by cases nm with | nil => exact absurd rfl hne | cons => exact h)
 have h : (bV [60, 47] [60, 47] && bV (a8 (u.take nm.length)) nm && (match (60 :: 47 :: u).drop (2 + nm.length) with | e :: _ => yP e | [] => false)) = true := h
 rw [Bool.and_eq_true, Bool.and_eq_true] at h
 obtain ⟨⟨_, h2⟩, h3⟩ := h
 rw [gy] at h2
 have h2 := eq_of_beq h2
 have hd : (60 :: 47 :: u).drop (2 + nm.length) = u.drop nm.length := by rw [Nat.add_comm]; rfl
 rw [hd] at h3
 cases hu : u.drop nm.length with
 | nil => rw [hu] at h3; cases h3
 | cons e q =>
  rw [hu] at h3
  have hs : u = u.take nm.length ++ e :: q := by rw [← hu]; exact (List.take_append_drop _ _).symm
  have hAu : Al (u.take nm.length) := fun c m => hA c (.tail _ (.tail _ (List.mem_of_mem_take m)))
  refine ⟨u, e, q, rfl, h2, hs, h3, ?_⟩
  rw [← oh hAu, h2]
theorem za : ∀ n ∈ names, ∀ c ∈ n, c ∈ [98, 116, 105, 108, 101] := by decide
theorem FT : ∀ c ∈ alpha, tH c ∈ [98, 116, 105, 108, 101] → eG c = true ∧ tH c = fU c := by decide
theorem DO : ∀ n ∈ k0, ∀ c ∈ n, c ∈ alpha := by decide
theorem I9 : ∀ e ∈ AM, (∀ c ∈ e.tx, c ∈ alpha) ∧ ∃ x r, e.tx = x :: r ∧ eG x = false := by
 unfold AM
 repeat' first | exact List.forall_mem_nil _ | refine List.forall_mem_cons.mpr ⟨⟨by decide, _, _, rfl, rfl⟩, ?_⟩
noncomputable def GS (e : Ed) (tl : List Nat) : List Nat := match e.ps with
 | .lst _ => tl
 | _ => []
theorem DQ (t nm : List Nat) (f : Nat) (e : Ed) (tl : List Nat) : oV t nm f e tl = t.take (f + 2 + nm.length) ++ (e.tx ++ GS e tl) := by
 unfold oV GS oR
 cases e.ps <;> simp
theorem Dr (ap : Bool) (t nm : List Nat) (f : Nat) (e : Ed) (tl : List Nat) (hP : (t.take (f + 2 + nm.length)).length = f + 2 + nm.length) (he : HX e) :
  oM ap t nm f e tl = cS 0 (jB ap f (t.take f)) ++ (tT (f + 2 + nm.length) nm e ++ cS ((f + 2 + nm.length) + e.tx.length) (oY (GS e tl))) := by
 unfold oM tT GS oR
 rcases he.ps with h | ⟨q, h⟩
 ·rw [h]
  simp [oY, cS]
 ·rw [h]
  simp only [List.length_append, hP]
  simp
theorem DS (l : List Nat) : ((oY l).map Prod.snd).flatten = l := by
 have h := List.takeWhile_append_dropWhile (p := dG) (l := l)
 unfold oY
 rw [List.map_append, List.flatten_append]
 conv => rhs; rw [← h]
 congr 1
 ·cases l.takeWhile dG <;> simp
 ·cases l.dropWhile dG <;> simp
theorem GU (l : List Nat) : (oY l).length ≤ 2 := by
 unfold oY
 rw [List.length_append]
 cases l.takeWhile dG <;> cases l.dropWhile dG <;> simp
theorem E7 {rows : List AV} {t nm : List Nat} {V0 : List (Nm × AV)} {CD : AO} {K : List AO} {ct : AV} {b : List Nat} {got : List AV} {σ : St} (p : dj (.list rows) (.list (jY [] t)) t V0 CD K .bl ct t.reverse [] true b got σ)
  (rg : RG (hX (.list rows) (.list (jY [] t)) t CD K .bl ct t.reverse [] true b got []) t rows got) : HY (some nm) rows t V0 σ := by
 obtain ⟨H, V, O⟩ := σ
 obtain ⟨rfl, v, lm⟩ := p
 exact ⟨rfl, rfl, ⟨got, rfl, rg⟩, by kernel_rfl, by kernel_rfl, RL, ⟨v.same, v.tok, v.got⟩, lm⟩
theorem AH {xs : List Int} (hw : (Int.fmod (xs.take 16).sum 3 == 2) = false) {f : Nat} {rest : List Nat} (hf : mu (nameOf (xs.take 16).sum) (textOf xs) = f :: rest) : Done xs := by
 have hle := jH xs
 have hA := jG xs
 have hed := Ja _ (ny (xs.take 16).sum)
 have hea := I9 _ (ny (xs.take 16).sum)
 have hee := fun R M nm t V0 ap => E4 (R := R) (M := M) (nm := nm) (t := t) (V0 := V0) (ap := ap) _ (ny (xs.take 16).sum)
 have htl := oT (xs.take 16).sum
 have hnl := oA (xs.take 16).sum
 have hno := Hz xs
 have h8 : ∀ O, Lm O → ∃ σ, ex G7 D8 ⟨[], VU xs, O⟩ = some (.nx, σ) ∧ RW (Int.fmod (xs.take 16).sum 3) (nameOf (xs.take 16).sum) (oV (textOf xs) (nameOf (xs.take 16).sum) f (kq (xs.take 16).sum) (jv (xs.take 16).sum)) (oM (Int.fmod (xs.take 16).sum 3 == 0) (textOf xs) (nameOf (xs.take 16).sum) f (kq (xs.take 16).sum) (jv (xs.take 16).sum)) σ := fun O hO => by
  rw [Mg, hf]
  exact TP hed (oU _ (oT _)) (tK _ hnl) (by omega) hO hw hf
 have w3 := Hm (xs.take 16).sum hw
 obtain ⟨hfl, hfb, hfn⟩ := pY hf
 have hdn := fun t rows ht hAt hlr h8 lp => qH (xs := xs) (t := t) (rows := rows) ht hAt hlr h8 lp
 rw [w3] at hdn
 generalize kq (xs.take 16).sum = e at *
 generalize jv (xs.take 16).sum = tl at *
 generalize nameOf (xs.take 16).sum = nm at *
 generalize textOf xs = t0 at *
 generalize (Int.fmod (xs.take 16).sum 3 == 0) = ap at *
 have hne : nm ≠ [] := fun z => by subst z; cases hfb
 have ho : lF nm = some nm := by cases nm with | nil => exact absurd rfl hne | cons => rfl
 rw [ho] at hno hfb hfn hdn
 have hAd : Al (t0.drop f) := fun c m => hA c (List.mem_of_mem_drop m)
 obtain ⟨u, x0, q0, hu, hlow, hus, hF, hlen⟩ := yk hAd hne hfb
 have hAu : Al u := by rw [hu] at hAd; exact hAd.tl.tl
 generalize hb : u.take nm.length = b at hlow hus hlen
 have hAb : Al b := by rw [← hb]; exact fun c m => hAu c (List.mem_of_mem_take m)
 have hlt := congrArg List.length hu
 have hul := congrArg List.length hus
 rw [List.length_drop] at hlt
 simp only [List.length_append, List.length_cons] at hlt hul
 have hP : (t0.take (f + 2 + nm.length)).length = f + 2 + nm.length := by rw [List.length_take]; omega
 have hl0 : (t0.take f).length = f := by rw [List.length_take]; omega
 have hpre : t0.take (f + 2 + nm.length) = t0.take f ++ 60 :: 47 :: b := by
  rw [Nat.add_assoc, List.take_add, hu, Nat.add_comm 2]
  show t0.take f ++ 60 :: 47 :: u.take nm.length = _
  rw [hb]
 have hbl : b.map tH = nm := by rw [← hlow, rh b hAb]
 have hlet : ∀ c ∈ b, eG c = true ∧ tH c = fU c := fun c m => FT c (hAb c m) (za nm hnl _ (by rw [← hbl]; exact List.mem_map_of_mem m))
 have hnb : nm = b.map fU := by rw [← hbl]; exact List.map_congr_left fun c m => (hlet c m).2
 have hn5 := tK nm hnl
 have ht4 := oU tl htl
 have hFit : lM nm b := by
  refine ⟨?_, by omega, ?_, ?_⟩
  ·rw [gy, hno.lo nm rfl, hlow]; exact beq_self_eq_true _
  ·rw [hno.lo nm rfl]; omega
  ·rw [hlow]; omega
 have htx := DQ t0 nm f e tl
 have hrw := Dr ap t0 nm f e tl hP hed
 have htl' : GS e tl ∈ k0 := by
  unfold GS; cases e.ps <;> first | exact htl | exact (by decide : ([] : List Nat) ∈ k0)
 have hps : e.ps = .none → GS e tl = [] := fun z => by unfold GS; rw [z]
 generalize GS e tl = tl' at *
 have ht4' := oU tl' htl'
 have heq : oV t0 nm f e tl = t0.take f ++ 60 :: 47 :: (b ++ (e.tx ++ tl')) := by rw [htx, hpre]; simp
 generalize oV t0 nm f e tl = t at *
 have hlm : (jB ap f (t0.take f)).length ≤ f := mQ _ _ _
 have hrl : (oM ap t0 nm f e tl).length ≤ 1000000 := by
  rw [hrw, List.length_append, List.length_append, gG, gG]
  have h1 := GU tl'
  have h2 : (tT (f + 2 + nm.length) nm e).length ≤ 2 := by
   unfold tT
   rcases hed.fs with z | ⟨p, z⟩ <;> rcases hed.ps with y | ⟨q, y⟩ <;> rw [z, y] <;> simp
  omega
 generalize oM ap t0 nm f e tl = rows at *
 have hAt : Al t := fun c m => by
  rw [htx] at m
  rcases List.mem_append.mp m with m | m
  ·exact hA c (List.mem_of_mem_take m)
  ·rcases List.mem_append.mp m with m | m
   ·exact hea.1 c m
   ·exact DO _ htl' c m
 have hx5 := hed.tx
 have htl2 : t.length ≤ 1000 := by
  rw [htx, List.length_append, List.length_append, hP]; omega
 refine hdn t rows htl2 hAt hrl h8 fun V0 σ p => ?_
 obtain ⟨_, x, r, hxr, hxl⟩ := hea
 have hf' : ∀ i, i < (t0.take f).length → fL (some nm) ((t0.take f ++ 60 :: 47 :: (b ++ (e.tx ++ tl'))).drop i) = false := fun i hi => by
  rw [hl0] at hi
  rw [← heq, pX]
  have : (t.drop i).take (nm.length + 3) = (t0.drop i).take (nm.length + 3) := by
   have a : ∀ z : List Nat, (z.drop i).take (nm.length + 3) = ((z.take (f + 2 + nm.length)).drop i).take (nm.length + 3) := fun z => by
    rw [List.drop_take, List.take_take, Nat.min_eq_left (by omega)]
   rw [a t, a t0, htx, List.take_append_of_le_length (by omega), List.take_take, Nat.min_self]
  rw [this, ← pX]
  exact hfn i hi
 have hAw : Al (t0.take f ++ 60 :: 47 :: (b ++ (e.tx ++ tl'))) := by rw [← heq]; exact hAt
 have hlw : (60 :: 47 :: (b ++ (e.tx ++ tl'))).length ≤ 200 := by simp only [List.length_cons, List.length_append]; omega
 obtain ⟨tb1, go1⟩ := run (R := .list rows) (M := .list (jY [] t)) (t := t) (V0 := V0) (ap := ap) hno (w := 60 :: 47 :: (b ++ (e.tx ++ tl'))) (.inr ⟨_, rfl⟩) f (t0.take f) [] none [] (by omega) hAw hf' (by simp; omega) (by omega)
 have p' : jd (.list rows) (.list (jY [] t)) (some nm) t V0 (fR ap) [] (t0.take f ++ 60 :: 47 :: (b ++ (e.tx ++ tl'))) (t0.take f ++ 60 :: 47 :: (b ++ (e.tx ++ tl'))).isEmpty (fq none) [] σ := by rw [← heq]; exact p
 obtain ⟨d, b', hdb⟩ : ∃ d b', b = d :: b' := by
  cases b with
  | nil => exact absurd (List.length_eq_zero_iff.mp hlen.symm) hne
  | cons d b' => exact ⟨d, b', rfl⟩
 have hgl : (cN [] (jB ap f (t0.take f))).length ≤ 200000 := by
  have : ∀ (ps : List (Int × List Nat)) rb, (cN rb ps).length = ps.length := fun ps => by
   induction ps with
   | nil => exact fun _ => rfl
   | cons a r ih => exact fun rb => by obtain ⟨k, p⟩ := a; rw [cN, List.length_cons, ih, List.length_cons]
  rw [this]; omega
 have go2 := Fe (R := .list rows) (M := .list (jY [] t)) (nm := nm) (t := t) (V0 := V0) (ap := ap) (rb := (t0.take f).reverse ++ []) (b := b') (got := [] ++ cN [] (jB ap f (t0.take f))) (cP := tb1) hno (d := d) (x := x) (w := r ++ tl')
  (by rw [← hdb]; have := hAw.app.2; rw [hxr] at this; exact this) (fun c m => (hlet c (by rw [hdb]; exact m)).1) hxl (by simpa using Nat.le_trans hgl (by omega)) (by rw [hdb] at hlen; simp at hlen; omega)
 rw [← hdb] at go2
 have hrb : (b.reverse ++ 47 :: 60 :: ((t0.take f).reverse ++ [])).reverse = t0.take (f + 2 + nm.length) := by rw [hpre]; simp
 have hrbl : (b.reverse ++ 47 :: 60 :: ((t0.take f).reverse ++ [])).length = f + 2 + nm.length := by
  rw [← List.length_reverse, hrb, hP]
 rw [hxr] at go1
 have go12 := go1.trans go2
 generalize b.reverse ++ 47 :: 60 :: ((t0.take f).reverse ++ []) = rb2 at go12 hrb hrbl
 obtain ⟨K, en, qO, go3, hen, hgE, hRG⟩ := hee (.list rows) (.list (jY [] t)) nm t V0 ap rb2 tl' b ([] ++ cN [] (jB ap f (t0.take f))) hnb hFit (by simpa using hgl) (by omega) hps (by rw [hrb]; exact htx)
 rw [hxr] at p'
 have go3' : eM (jd (.list rows) (.list (jY [] t)) (some nm) t V0 (ku ap) rb2 (x :: (r ++ tl')) false (cz b) ([] ++ cN [] (jB ap f (t0.take f)))) _ := fun σ q => go3 σ (by
  have := VZ q
  rw [hxr]; exact this)
 have go := go12.trans go3'
 have hfin : ∃ fu σ', sV fu true σ = some σ' ∧ dj (.list rows) (.list (jY [] t)) t V0 (fy nm) K .bl (.aQ 9) (tl'.reverse ++ (e.tx.reverse ++ rb2)) [] true b (([] ++ cN [] (jB ap f (t0.take f)) ++ qO) ++ cN (e.tx.reverse ++ rb2) (oY tl')) σ' := by
  by_cases hz : tl' = []
  ·subst hz
   have e0 : oY [] = [] := rfl
   rw [e0]
   obtain ⟨fu, σ', a, z⟩ := go.end (fun σ q => Nf q) p'
   exact ⟨fu, σ', a, by simpa [cN] using z⟩
  ·rw [hen hz] at go
   obtain ⟨c, σ1, q, ee⟩ := go σ p'
   obtain ⟨fu, σ', a, z⟩ := Jk (by simp only [List.nil_append, List.length_append]; omega) hFit.hb htl' q
   exact ⟨fu + c, σ', by rw [ee fu, a], z⟩
 obtain ⟨fu, σ', a, z⟩ := hfin
 have hrev : t.reverse = tl'.reverse ++ (e.tx.reverse ++ rb2) := by
  rw [htx, ← hrb]; simp
 rw [← hrev] at z
 refine ⟨fu, σ', a, E7 z ?_⟩
 rw [List.nil_append, List.append_assoc]
 generalize hH : hX (.list rows) (.list (jY [] t)) t (fy nm) K .bl (.aQ 9) t.reverse [] true b (cN [] (jB ap f (t0.take f)) ++ (qO ++ cN (e.tx.reverse ++ rb2) (oY tl'))) [] = HH
 rw [hrw]
 refine RG.app ?_ (RG.app ?_ ?_)
 ·have := oK (hX (.list rows) (.list (jY [] t)) t (fy nm) K .bl (.aQ 9) t.reverse [] true b (cN [] (jB ap f (t0.take f)) ++ (qO ++ cN (e.tx.reverse ++ rb2) (oY tl'))) []) t (60 :: 47 :: (b ++ (e.tx ++ tl'))) (jB ap f (t0.take f)) [] (by rw [oD _ _ _ (by omega)]; exact heq)
  rw [← hH]; exact this
 ·have := hRG t.reverse (cN [] (jB ap f (t0.take f)) ++ (qO ++ cN (e.tx.reverse ++ rb2) (oY tl')))
  rw [hrbl] at this
  rw [← hH]; exact this
 ·have := oK (hX (.list rows) (.list (jY [] t)) t (fy nm) K .bl (.aQ 9) t.reverse [] true b (cN [] (jB ap f (t0.take f)) ++ (qO ++ cN (e.tx.reverse ++ rb2) (oY tl'))) []) t [] (oY tl') (t0.take (f + 2 + nm.length) ++ e.tx) (by rw [DS, htx]; simp)
  rw [List.length_append, hP, List.reverse_append, ← hrb, List.reverse_reverse] at this
  rw [← hH]; exact this
theorem AG (xs : List Int) : Done xs := by
 cases hw : (Int.fmod (xs.take 16).sum 3 == 2) with
 | true => exact uE hw
 | false =>
  cases hf : mu (nameOf (xs.take 16).sum) (textOf xs) with
  | nil => exact uD hw hf
  | cons f rest => exact AH hw hf
theorem Ca (w : World) (xs : List Int) {W : Wd} {F : Addr → Option Obj} {s : Shared} {A : Around} {vs : List Value} (ro : Ro 20 A) (I : bI (SS w) W F [] s.heap) (rs : bP (SS w) W [gX xs] vs) :
  codeAny (MD (SS w)) A (.call (.ref ((SS w).fa .law)) ⟨vs, []⟩) (vV (SS w) W F (.bool true) s) s := by
 obtain ⟨σ1, aN, τ0, fu, σ3, σ4, eA, e1, eK, e0, eg, eC, hz⟩ := AG xs
 obtain ⟨fd, st0, t1, t2, t3, y4, b2, p1, p2, p3, yp, ep, T⟩ := Fd w
 obtain ⟨fl, body, D⟩ := Fg w
 exact Bc (ds := []) (V := [(.cM, gX xs)]) (Ma w) T D rfl eA e1 eK e0 eg eC ro I rs hz
theorem VH {s : Shared} {w : World} (e : Mi s = Mh w) : (KK w.params).In s.heap := Frag.in_of rfl e
theorem Bt {S : aP} {W : Wd} : ∀ {vs : List Value} {xs : List Int}, IntsAre vs xs → bP S W (xs.map .int) vs
 | _, _, .nil => .nil
 | _, _, .cons _ _ r => .cons (.int _ _) (Bt r)
theorem Cb {w : World} {s : Shared} {l : Addr} {its : Array Value} {n : Nat} {o : Obj} {xs : List Int} {cl : Str → Option Addr} {mean : ExcName → Option Value} {args : List WData} (KI : (KK w.params).In s.heap) (hg : s.gens = #[])
  (ho : s.heap.get? l = some o) (hc : o.cls = .type "list") (hd : o.data = .seq its n) (hi : IntsAre its.toList xs) (hz : xs.length ≤ 63) :
  wpAny (model uj w) callerA (PySem.call (.ref ((SS w).fa .law)) [.ref l]) (fun v s' => GoodWG L1.row.claim cl mean args s (.ok (.ret v)) s') (fun e s' => GoodWG L1.row.claim cl mean args s (.error e) s') s := by
 let P : Addr → Option Obj := fun b => if b = l then s.heap.get? l else (KK w.params).lookup b
 let F : Addr → Option Obj := fun b => match P b with | none => s.heap.get? b | some _ => none
 have hP : ∀ b q, P b = some q → s.heap.get? b = some q := fun b q e => by
  by_cases h : b = l
  ·subst h; exact (if_pos rfl).symm.trans e
  ·exact KI _ _ ((if_neg h).symm.trans e)
 have hF : ∀ b q, F b = some q → s.heap.get? b = some q := fun b q e => by
  have e : (match P b with | none => s.heap.get? b | some _ => none) = some q := e
  cases h : P b with
  | none => rw [h] at e; exact e
  | some _ => rw [h] at e; cases e
 have I : bI (SS w) ⟨P, []⟩ F [] s.heap := ⟨hP, hF, fun b q e => by
   show P b = some q
   by_cases h : b = l
   ·subst h; exact (if_pos rfl).trans (KI _ _ e)
   ·exact (if_neg h).trans e, rfl, fun i a ao e => (nomatch e), .nil, fun _ m => (nomatch m), fun _ m => (nomatch m), fun b q e => by
   show (match P b with | none => s.heap.get? b | some _ => none) = none
   have e : P b = some q := e
   rw [e]⟩
 obtain ⟨oc, od, dt, sl⟩ := o
 obtain rfl : oc = .type "list" := hc
 obtain rfl : dt = .seq its n := hd
 have hl : P l = some ⟨.type "list", od, .seq its n, sl⟩ := (if_pos rfl).trans ho
 have rs : bP (SS w) ⟨P, []⟩ [gX xs] [.ref l] := .cons (.lst hl (by rw [List.length_map]; exact Nat.le_trans hz (by decide)) (Bt hi)) .nil
 refine enter_call (codeAny_mono (Ca w xs ⟨rfl, by decide, by decide⟩ I rs) fun res s' ⟨v, W', r1, r2, r3, r4, r5, r6, gs, r7, r8⟩ => ?_)
 cases r3
 refine ⟨.inl ⟨.bool true, .bool true, [], r1, fun _ => rfl, .bool _, by wrow_post, fun _ => ⟨.nil, fun _ m => (nomatch m)⟩⟩, .of_keep fun b q e => ?_, r6, ?_⟩
 ·cases h : P b with
  | none => exact r5 b q (by show (match P b with | none => s.heap.get? b | some _ => none) = _; rw [h]; exact e)
  | some q' =>
   have := hP b q' h
   rw [e] at this
   cases this
   exact r4 b q (r2.P b q h)
 ·rw [r7, hg]
  exact AllBare.push (fun _ m => by simp at m) r8
noncomputable def dd (x : DefRec × List (Str × Expr)) : DefRec × List (Str × Expr) := (defOf qv L1.name).getD x
theorem walk (x : DefRec × List (Str × Expr)) : WalkX qv NH (fun _ _ => True) Mi Mh L1.row.toRowW (dd x).1 (dd x).2 fun f vs => PySem.call f vs := by
 intro w s₀ s₁ mg mb G Y a o pm cd doc dV kV ho hd hcd hD hmg hg args vals as L hpre hlay hrd hwl hlo
 have KI := (VH Y).keeps L.keeps
 refine Ground.open G ?_
 intro T B D TE TW
 have hn : mg (dd x).1.name = some (.ref ((SS w).fa .law)) := mg_of KI T.g (by kernel_rfl)
 obtain rfl : a = (SS w).fa .law := by rw [hmg] at hn; cases hn; rfl
 clear hmg hn hcd hD ho hd
 wrow_args hpre hlay hrd hwl hlo
 obtain ⟨o, h0, h1, n, h3⟩ := ‹Heap.IsList _ _ _›
 exact Cb KI hg h0 h1 h3 ‹IntsAre _ _› (by omega)
theorem Jr (Dz : L1.wellSaid = true) : L1.Holds := by
 refine holds_law Dz fun Dz => ?_
 have z : (defOf qv L1.name).isSome = true := by kernel_rfl
 obtain ⟨x, hx⟩ := Option.isSome_iff_exists.mp z
 refine holds_openX (q := qv) (loose := NH) (Xt := SM) (XP := fun _ _ => True) (Yf := Mi) (Ya := Mh) (d := (dd x).1) (kwd := (dd x).2) (N := 20000) left (fun _ _ => trivial) (fun _ _ _ _ _ => trivial) ?_ (by kernel_rfl) (by kernel_rfl) (fun s _ => ?_) (by rfl) Dz (by kernel_rfl) ⟨rfl, rfl, rfl, rfl, rfl, by decide +kernel⟩ ?_ (walk x)
 ·show defOf qv L1.name = some (dd x)
  unfold dd; rw [hx]; rfl
 ·exact recFacts_of (by rfl)
 ·w_witness2
theorem holds : L1.Holds := Jr Dz
end Mine
theorem PySem.Challenge.cw_im0060_01_holds : PySem.Challenge.rw_im0060_01.Holds :=
  Mine.holds
